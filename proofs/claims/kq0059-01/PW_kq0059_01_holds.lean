import PyProof.Rows.All
import Wide.All
import OpenK.AllK
import Wide.FinOn
import KE.KLcPair
import KE.KSortTup
import Lean
import PySem.Challenge.RW_kq0059_01
set_option Elab.async false
set_option rowWalk.seconds 0
set_option compiler.extract_closed false
set_option linter.all false
noncomputable section
namespace Mine
theorem om_0 {a k n R : Nat} (h : a + n < R) (hk : k ≤ n) : a + k < R := Nat.lt_of_le_of_lt (Nat.add_le_add_left hk a) h
theorem om_1 {a k n R : Nat} (h : a + n < R + 1) (hk : k + 1 ≤ n) : a + k < R := Nat.lt_of_succ_lt_succ (Nat.lt_of_le_of_lt (Nat.add_le_add_left hk a) h)
theorem om_3 {a k n R : Nat} (h : a + n < R + 3) (hk : k + 3 ≤ n) : a + k < R := Nat.lt_of_add_lt_add_right (n := 3) (Nat.lt_of_le_of_lt (Nat.add_le_add_left hk a) h)
theorem om_le {a n m : Nat} (h : a ≤ n) (hk : n ≤ m) : a ≤ m := Nat.le_trans h hk
theorem om_lt {a n m : Nat} (h : a < n) (hk : n ≤ m) : a < m := Nat.lt_of_lt_of_le h hk
theorem om_ne {a b : Nat} (h : @Ne Nat a b) : ¬ b = a := fun e => h e.symm
theorem om_ne1 {a b : Nat} (h : a < b) : ¬ a = b := Nat.ne_of_lt h
theorem om_ne2 {a b : Nat} (h : a < b) : ¬ b = a := Nat.ne_of_gt h
theorem om_z {a : Nat} : (0 : Int) ≤ (a : Int) := Int.natCast_nonneg a
end Mine
end
noncomputable section
open PySem
namespace Mine
noncomputable def sdLoop (lt : Value → Value → Bool) (x : Value) (st : Nat) : Nat → List Value → Nat → List Value × Nat
  | 0, vs, p => (vs, p)
  | f + 1, vs, p => if st < p then (if lt x (vs.getD ((p - 1) / 2) .none) then sdLoop lt x st f (vs.set p (vs.getD ((p - 1) / 2) .none)) ((p - 1) / 2) else (vs, p)) else (vs, p)
noncomputable def siftdown (lt : Value → Value → Bool) (vs : List Value) (st p : Nat) : List Value :=
  (sdLoop lt (vs.getD p .none) st p vs p).1.set (sdLoop lt (vs.getD p .none) st p vs p).2 (vs.getD p .none)
noncomputable def suLoop (lt : Value → Value → Bool) : Nat → List Value → Nat → List Value × Nat
  | 0, vs, p => (vs, p)
  | f + 1, vs, p => if 2 * p + 1 < vs.length then (if 2 * p + 2 < vs.length ∧ lt (vs.getD (2 * p + 1) .none) (vs.getD (2 * p + 2) .none) = false then suLoop lt f (vs.set p (vs.getD (2 * p + 2) .none)) (2 * p + 2) else suLoop lt f (vs.set p (vs.getD (2 * p + 1) .none)) (2 * p + 1)) else (vs, p)
noncomputable def siftup (lt : Value → Value → Bool) (vs : List Value) (p : Nat) : List Value :=
  siftdown lt ((suLoop lt vs.length vs p).1.set (suLoop lt vs.length vs p).2 (vs.getD p .none)) p (suLoop lt vs.length vs p).2
noncomputable def heapLoop (lt : Value → Value → Bool) (ks : List Nat) (vs : List Value) : List Value := ks.foldl (siftup lt) vs
noncomputable def heapify (lt : Value → Value → Bool) (vs : List Value) : List Value := heapLoop lt (List.range (vs.length / 2)).reverse vs
theorem getD_mem {vs : List Value} {j : Nat} (h : j < vs.length) : vs.getD j Value.none ∈ vs := by
  rw [List.getD_eq_getElem?_getD, List.getElem?_eq_getElem h]
  exact List.getElem_mem _
theorem getD_set {vs : List Value} {i j : Nat} {x : Value} : (vs.set i x).getD j Value.none = if i = j ∧ j < vs.length then x else vs.getD j Value.none := by
  rw [List.getD_eq_getElem?_getD, List.getD_eq_getElem?_getD, List.getElem?_set]
  by_cases h : i = j
  · subst h
    by_cases h2 : i < vs.length <;> simp [h2]
  · simp [h]
theorem getD_set_ne {vs : List Value} {i j : Nat} {x : Value} (h : i ≠ j) : (vs.set i x).getD j Value.none = vs.getD j Value.none := by
  rw [getD_set, if_neg (fun q => h q.1)]
theorem getD_set_self {vs : List Value} {i : Nat} {x : Value} (h : i < vs.length) : (vs.set i x).getD i Value.none = x := by
  rw [getD_set, if_pos ⟨rfl, h⟩]
theorem set_getD_self {vs : List Value} {i : Nat} (h : i < vs.length) : vs.set i (vs.getD i Value.none) = vs := by
  rw [List.getD_eq_getElem?_getD, List.getElem?_eq_getElem h]
  simp
theorem hole_perm {vs : List Value} {p c : Nat} {x : Value} (hp : p < vs.length) (hc : c < vs.length) (hne : p ≠ c) : ((vs.set p (vs.getD c Value.none)).set c x).Perm (vs.set p x) := by
  have hc' : c < (vs.set p (vs.getD c Value.none)).length := by rw [List.length_set]; exact hc
  have e : vs.getD c Value.none = vs[c] := by rw [List.getD_eq_getElem?_getD, List.getElem?_eq_getElem hc]; rfl
  rw [e] at hc' ⊢
  rw [List.perm_iff_count]
  intro b
  rw [List.count_set hc', List.count_set hp, List.count_set hp, List.getElem_set_ne hne]
  have h1 : (if vs[p] == b then 1 else 0) ≤ vs.count b := by
    split
    · rename_i h
      exact List.count_pos_iff.mpr (eq_of_beq h ▸ List.getElem_mem hp)
    · exact Nat.zero_le _
  by_cases hb : (vs[c] == b) = true
  · simp only [hb, if_true]; lia
  · simp only [hb]
    split <;> lia
theorem sd_len {lt : Value → Value → Bool} {x : Value} {st : Nat} : ∀ (f : Nat) (vs : List Value) (p : Nat), (sdLoop lt x st f vs p).1.length = vs.length
  | 0, _, _ => rfl
  | f + 1, vs, p => by
    rw [sdLoop]
    split
    · split
      · rw [sd_len f]; exact List.length_set ..
      · rfl
    · rfl
theorem sd_lt {lt : Value → Value → Bool} {x : Value} {st : Nat} : ∀ (f : Nat) (vs : List Value) (p : Nat), p < vs.length → (sdLoop lt x st f vs p).2 < vs.length
  | 0, _, _, h => h
  | f + 1, vs, p, h => by
    rw [sdLoop]
    split
    · split
      · have := sd_lt (lt := lt) (x := x) (st := st) f (vs.set p (vs.getD ((p - 1) / 2) .none)) ((p - 1) / 2) (by rw [List.length_set]; lia)
        rwa [List.length_set] at this
      · exact h
    · exact h
theorem sd_perm {lt : Value → Value → Bool} {x : Value} {st : Nat} : ∀ (f : Nat) (vs : List Value) (p : Nat), p < vs.length → ((sdLoop lt x st f vs p).1.set (sdLoop lt x st f vs p).2 x).Perm (vs.set p x)
  | 0, _, _, _ => .refl _
  | f + 1, vs, p, h => by
    rw [sdLoop]
    split
    · split
      · exact (sd_perm f _ _ (by rw [List.length_set]; lia)).trans (hole_perm h (by lia) (by lia))
      · exact .refl _
    · exact .refl _
theorem siftdown_len {lt : Value → Value → Bool} (vs : List Value) (st p : Nat) : (siftdown lt vs st p).length = vs.length := by
  rw [siftdown, List.length_set, sd_len]
theorem siftdown_perm {lt : Value → Value → Bool} (vs : List Value) (st p : Nat) (h : p < vs.length) : (siftdown lt vs st p).Perm vs := by
  have := sd_perm (lt := lt) (x := vs.getD p Value.none) (st := st) p vs p h
  rwa [set_getD_self h] at this
theorem su_len {lt : Value → Value → Bool} : ∀ (f : Nat) (vs : List Value) (p : Nat), (suLoop lt f vs p).1.length = vs.length
  | 0, _, _ => rfl
  | f + 1, vs, p => by
    rw [suLoop]
    split
    · split <;> rw [su_len f] <;> exact List.length_set ..
    · rfl
theorem su_lt {lt : Value → Value → Bool} : ∀ (f : Nat) (vs : List Value) (p : Nat), p < vs.length → (suLoop lt f vs p).2 < vs.length
  | 0, _, _, h => h
  | f + 1, vs, p, h => by
    rw [suLoop]
    split
    · split
      · rename_i h2
        have := su_lt (lt := lt) f (vs.set p (vs.getD (2 * p + 2) .none)) (2 * p + 2) (by rw [List.length_set]; exact h2.1)
        rwa [List.length_set] at this
      · have := su_lt (lt := lt) f (vs.set p (vs.getD (2 * p + 1) .none)) (2 * p + 1) (by rw [List.length_set]; assumption)
        rwa [List.length_set] at this
    · exact h
theorem su_perm {lt : Value → Value → Bool} {x : Value} : ∀ (f : Nat) (vs : List Value) (p : Nat), p < vs.length → ((suLoop lt f vs p).1.set (suLoop lt f vs p).2 x).Perm (vs.set p x)
  | 0, _, _, _ => .refl _
  | f + 1, vs, p, h => by
    rw [suLoop]
    split
    · split
      · rename_i h2
        exact (su_perm f _ _ (by rw [List.length_set]; exact h2.1)).trans (hole_perm h h2.1 (by lia))
      · exact (su_perm f _ _ (by rw [List.length_set]; assumption)).trans (hole_perm h (by assumption) (by lia))
    · exact .refl _
theorem siftup_len {lt : Value → Value → Bool} (vs : List Value) (p : Nat) : (siftup lt vs p).length = vs.length := by
  rw [siftup, siftdown_len, List.length_set, su_len]
theorem siftup_perm {lt : Value → Value → Bool} (vs : List Value) (p : Nat) (h : p < vs.length) : (siftup lt vs p).Perm vs := by
  rw [siftup]
  refine (siftdown_perm _ _ _ (by rw [List.length_set, su_len]; exact su_lt _ _ _ h)).trans ?_
  have := su_perm (lt := lt) (x := vs.getD p Value.none) vs.length vs p h
  rwa [set_getD_self h] at this
theorem heapLoop_len {lt : Value → Value → Bool} : ∀ (ks : List Nat) (vs : List Value), (heapLoop lt ks vs).length = vs.length
  | [], _ => rfl
  | k :: ks, vs => by
    show (heapLoop lt ks (siftup lt vs k)).length = _
    rw [heapLoop_len ks, siftup_len]
theorem heapLoop_perm {lt : Value → Value → Bool} : ∀ (ks : List Nat) (vs : List Value), (∀ k ∈ ks, k < vs.length) → (heapLoop lt ks vs).Perm vs
  | [], _, _ => .refl _
  | k :: ks, vs, h => by
    show (heapLoop lt ks (siftup lt vs k)).Perm _
    exact (heapLoop_perm ks _ (fun j hj => by rw [siftup_len]; exact h j (.tail _ hj))).trans (siftup_perm _ _ (h k (.head _)))
theorem heapify_len {lt : Value → Value → Bool} (vs : List Value) : (heapify lt vs).length = vs.length := heapLoop_len _ _
theorem heapify_perm {lt : Value → Value → Bool} (vs : List Value) : (heapify lt vs).Perm vs := heapLoop_perm _ _ fun k hk => by
  have := List.mem_range.mp (List.mem_reverse.mp hk)
  lia
/-- a weak order on the values that S tells -/
structure Weak (S : Value → Prop) (lt : Value → Value → Bool) : Prop where
  asymm : ∀ {a b}, S a → S b → lt a b = true → lt b a = false
  trans : ∀ {a b c}, S a → S b → S c → lt a b = false → lt b c = false → lt a c = false
/-- every edge of the heap whose parent stands at k or behind -/
noncomputable def HeapFrom (lt : Value → Value → Bool) (k : Nat) (vs : List Value) : Prop := ∀ i, 0 < i → i < vs.length → k ≤ (i - 1) / 2 → lt (vs.getD i .none) (vs.getD ((i - 1) / 2) .none) = false
noncomputable abbrev AllS (S : Value → Prop) (vs : List Value) : Prop := ∀ x ∈ vs, S x
theorem AllS.get {S : Value → Prop} {vs : List Value} (h : AllS S vs) {i : Nat} (hi : i < vs.length) : S (vs.getD i .none) := h _ (getD_mem hi)
theorem AllS.set {S : Value → Prop} {vs : List Value} (h : AllS S vs) {i : Nat} {x : Value} (hx : S x) : AllS S (vs.set i x) := fun y hy => by
  rcases List.mem_or_eq_of_mem_set hy with q | rfl
  · exact h y q
  · exact hx
inductive Desc (r : Nat) : Nat → Prop
  | refl : Desc r r
  | child {p : Nat} : 0 < p → Desc r ((p - 1) / 2) → Desc r p
theorem Desc.le {r p : Nat} (h : Desc r p) : r ≤ p := by
  induction h with
  | refl => exact Nat.le_refl _
  | child h0 _ ih => lia
theorem Desc.up {r p : Nat} (h : Desc r p) (hne : r < p) : Desc r ((p - 1) / 2) ∧ 0 < p := by
  cases h with
  | refl => lia
  | child h0 h => exact ⟨h, h0⟩
/-- the hole at p going up: all edges off p stand, p's children stand below what is above p, and below x -/
structure UpInv (lt : Value → Value → Bool) (x : Value) (r : Nat) (vs : List Value) (p : Nat) : Prop where
  inb : p < vs.length
  desc : Desc r p
  edge : ∀ i, 0 < i → i < vs.length → r ≤ (i - 1) / 2 → i ≠ p → (i - 1) / 2 ≠ p → lt (vs.getD i .none) (vs.getD ((i - 1) / 2) .none) = false
  kidX : ∀ c, 0 < c → c < vs.length → (c - 1) / 2 = p → lt (vs.getD c .none) x = false
  kidQ : r < p → ∀ c, 0 < c → c < vs.length → (c - 1) / 2 = p → lt (vs.getD c .none) (vs.getD ((p - 1) / 2) .none) = false
theorem up_end {S : Value → Prop} {lt : Value → Value → Bool} {x : Value} {r : Nat} {vs : List Value} {p : Nat} (I : UpInv lt x r vs p) (hx : r < p → lt x (vs.getD ((p - 1) / 2) .none) = false) : HeapFrom lt r (vs.set p x) := by
  intro i h0 hi hr
  rw [List.length_set] at hi
  by_cases h1 : i = p
  · subst h1
    rw [getD_set_self hi, getD_set_ne (by lia)]
    exact hx (by lia)
  · rw [getD_set_ne (Ne.symm h1)]
    by_cases h2 : (i - 1) / 2 = p
    · rw [h2, getD_set_self I.inb]
      exact I.kidX i h0 hi h2
    · rw [getD_set_ne (Ne.symm h2)]
      exact I.edge i h0 hi hr h1 h2
theorem up_loop {S : Value → Prop} {lt : Value → Value → Bool} (W : Weak S lt) {x : Value} (hx : S x) {r : Nat} : ∀ (f : Nat) (vs : List Value) (p : Nat), p ≤ f → AllS S vs → UpInv lt x r vs p →
    HeapFrom lt r ((sdLoop lt x r f vs p).1.set (sdLoop lt x r f vs p).2 x)
  | 0, vs, p, hf, _, I => by
    show HeapFrom lt r (vs.set p x)
    exact up_end (S := S) I fun h => absurd h (by lia)
  | f + 1, vs, p, hf, hS, I => by
    rw [sdLoop]
    split
    · rename_i hrp
      split
      · rename_i hlt
        have hq : (p - 1) / 2 < vs.length := by have := I.inb; lia
        obtain ⟨dq, p0⟩ := I.desc.up hrp
        have hrq := dq.le
        refine up_loop W hx f _ _ (by lia) (hS.set (hS.get hq)) ⟨by rw [List.length_set]; exact hq, dq, fun i h0 hi hr h1 h2 => ?_, fun c h0 hc e => ?_, fun hrq' c h0 hc e => ?_⟩
        · rw [List.length_set] at hi
          by_cases h3 : i = p
          · exact absurd (h3 ▸ rfl) h2
          · rw [getD_set_ne (Ne.symm h3)]
            by_cases h4 : (i - 1) / 2 = p
            · rw [h4, getD_set_self I.inb]
              exact I.kidQ hrp i h0 hi h4
            · rw [getD_set_ne (Ne.symm h4)]
              exact I.edge i h0 hi hr h3 h4
        · rw [List.length_set] at hc
          by_cases h3 : c = p
          · subst h3
            rw [getD_set_self hc]
            exact W.asymm hx (hS.get hq) hlt
          · rw [getD_set_ne (Ne.symm h3)]
            have a := I.edge c h0 hc (by lia) h3 (by lia)
            rw [e] at a
            exact W.trans (hS.get hc) (hS.get hq) hx a (W.asymm hx (hS.get hq) hlt)
        · rw [List.length_set] at hc
          have hne : p ≠ ((p - 1) / 2 - 1) / 2 := by lia
          rw [getD_set_ne hne]
          have hqq : lt (vs.getD ((p - 1) / 2) .none) (vs.getD (((p - 1) / 2 - 1) / 2) .none) = false :=
            I.edge ((p - 1) / 2) (by lia) hq (by obtain ⟨d, _⟩ := dq.up hrq'; exact d.le) (by lia) (by lia)
          by_cases h3 : c = p
          · subst h3
            rw [getD_set_self hc]
            exact hqq
          · rw [getD_set_ne (Ne.symm h3)]
            have a := I.edge c h0 hc (by lia) h3 (by lia)
            rw [e] at a
            exact W.trans (hS.get hc) (hS.get hq) (hS.get (by lia)) a hqq
      · rename_i hlt
        exact up_end (S := S) I fun _ => by simpa using hlt
    · rename_i hrp
      exact up_end (S := S) I fun h => absurd h hrp
/-- the hole at p going down -/
structure DownInv (lt : Value → Value → Bool) (r : Nat) (vs : List Value) (p : Nat) : Prop where
  inb : p < vs.length
  desc : Desc r p
  edge : ∀ i, 0 < i → i < vs.length → r ≤ (i - 1) / 2 → i ≠ p → (i - 1) / 2 ≠ p → lt (vs.getD i .none) (vs.getD ((i - 1) / 2) .none) = false
  kidQ : r < p → ∀ c, 0 < c → c < vs.length → (c - 1) / 2 = p → lt (vs.getD c .none) (vs.getD ((p - 1) / 2) .none) = false
theorem down_step {S : Value → Prop} {lt : Value → Value → Bool} {r : Nat} {vs : List Value} {p c : Nat} (_hS : AllS S vs) (I : DownInv lt r vs p) (hc : c < vs.length) (hcp : (c - 1) / 2 = p) (h0 : 0 < c)
    (hmin : ∀ d, 0 < d → d < vs.length → (d - 1) / 2 = p → d ≠ c → lt (vs.getD d .none) (vs.getD c .none) = false) : DownInv lt r (vs.set p (vs.getD c .none)) c := by
  have hrp := I.desc.le
  refine ⟨by rw [List.length_set]; exact hc, .child h0 (hcp ▸ I.desc), fun i hi0 hi hr h1 h2 => ?_, fun hrc d hd0 hd e => ?_⟩
  · rw [List.length_set] at hi
    by_cases h3 : i = p
    · subst h3
      rw [getD_set_self hi, getD_set_ne (by lia)]
      by_cases h4 : r < i
      · exact I.kidQ h4 c h0 hc hcp
      · lia
    · rw [getD_set_ne (Ne.symm h3)]
      by_cases h4 : (i - 1) / 2 = p
      · rw [h4, getD_set_self I.inb]
        exact hmin i hi0 hi h4 h1
      · rw [getD_set_ne (Ne.symm h4)]
        exact I.edge i hi0 hi hr h3 h4
  · rw [List.length_set] at hd
    rw [hcp, getD_set_self I.inb, getD_set_ne (by lia)]
    have := I.edge d hd0 hd (by lia) (by lia) (by lia)
    rwa [e] at this
theorem down_loop {S : Value → Prop} {lt : Value → Value → Bool} (W : Weak S lt) {r : Nat} : ∀ (f : Nat) (vs : List Value) (p : Nat), vs.length - p ≤ f → AllS S vs → DownInv lt r vs p →
    DownInv lt r (suLoop lt f vs p).1 (suLoop lt f vs p).2 ∧ vs.length ≤ 2 * (suLoop lt f vs p).2 + 1 ∧ AllS S (suLoop lt f vs p).1
  | 0, vs, p, hf, hS, I => by
    have := I.inb
    lia
  | f + 1, vs, p, hf, hS, I => by
    rw [suLoop]
    split
    · rename_i h1
      have hlt := I.inb
      split
      · rename_i h2
        have z := down_loop W (r := r) f (vs.set p (vs.getD (2 * p + 2) .none)) (2 * p + 2) (by rw [List.length_set]; lia) (hS.set (hS.get h2.1))
          (down_step hS I h2.1 (by lia) (by lia) fun d hd0 hd e hne => by
            have : d = 2 * p + 1 := by lia
            subst this
            exact h2.2)
        rw [List.length_set] at z
        exact z
      · rename_i h2
        have z := down_loop W (r := r) f (vs.set p (vs.getD (2 * p + 1) .none)) (2 * p + 1) (by rw [List.length_set]; lia) (hS.set (hS.get h1))
          (down_step hS I h1 (by lia) (by lia) fun d hd0 hd e hne => by
            have : d = 2 * p + 2 := by lia
            subst this
            have : lt (vs.getD (2 * p + 1) .none) (vs.getD (2 * p + 2) .none) = true := by
              cases q : lt (vs.getD (2 * p + 1) .none) (vs.getD (2 * p + 2) .none) with
              | true => rfl
              | false => exact absurd ⟨hd, q⟩ h2
            exact W.asymm (hS.get h1) (hS.get hd) this)
        rw [List.length_set] at z
        exact z
    · exact ⟨I, by lia, hS⟩
theorem siftup_heap {S : Value → Prop} {lt : Value → Value → Bool} (W : Weak S lt) (vs : List Value) (r : Nat) (h : r < vs.length) (hS : AllS S vs) (H : HeapFrom lt (r + 1) vs) : HeapFrom lt r (siftup lt vs r) := by
  have D0 : DownInv lt r vs r := ⟨h, .refl, fun i h0 hi hr h1 h2 => H i h0 hi (by lia), fun q => absurd q (Nat.lt_irrefl _)⟩
  obtain ⟨D, hl, hS'⟩ := down_loop W vs.length vs r (by lia) hS D0
  have e := su_len (lt := lt) vs.length vs r
  generalize hv : (suLoop lt vs.length vs r).1 = vs' at *
  generalize hp : (suLoop lt vs.length vs r).2 = p' at *
  rw [siftup, hv, hp, siftdown, getD_set_self D.inb]
  have hx := hS.get h
  refine up_loop W hx p' _ p' (Nat.le_refl _) (hS'.set hx) ⟨by rw [List.length_set]; exact D.inb, D.desc, fun i h0 hi hr h1 h2 => ?_, fun c h0 hc e' => ?_, fun _ c h0 hc e' => ?_⟩
  · rw [List.length_set] at hi
    rw [getD_set_ne (Ne.symm h1), getD_set_ne (Ne.symm h2)]
    exact D.edge i h0 hi hr h1 h2
  · rw [List.length_set] at hc; lia
  · rw [List.length_set] at hc; lia
theorem heapify_heap {S : Value → Prop} {lt : Value → Value → Bool} (W : Weak S lt) (vs : List Value) (hS : AllS S vs) : HeapFrom lt 0 (heapify lt vs) := by
  have key : ∀ (k : Nat) (us : List Value), k ≤ us.length / 2 → AllS S us → HeapFrom lt k us → HeapFrom lt 0 (heapLoop lt (List.range k).reverse us) := by
    intro k
    induction k with
    | zero => intro us _ _ H; exact H
    | succ k ih =>
      intro us hk hU H
      rw [List.range_succ, List.reverse_append]
      show HeapFrom lt 0 (heapLoop lt (List.range k).reverse (siftup lt us k))
      refine ih _ (by rw [siftup_len]; lia) (fun x hx => hU x ((siftup_perm us k (by lia)).mem_iff.mp hx)) (siftup_heap W us k (by lia) hU H)
  refine key _ vs (Nat.le_refl _) hS fun i h0 hi hr => ?_
  lia
theorem heap_min {S : Value → Prop} {lt : Value → Value → Bool} (W : Weak S lt) {vs : List Value} (hS : AllS S vs) (H : HeapFrom lt 0 vs) (hne : 0 < vs.length) (hrefl : ∀ {a}, S a → lt a a = false) : ∀ (n i : Nat), i < n → i < vs.length → lt (vs.getD i .none) (vs.getD 0 .none) = false := by
  intro n
  induction n with
  | zero => intro i h; lia
  | succ n ih =>
    intro i hin hi
    by_cases h0 : i = 0
    · subst h0; exact hrefl (hS.get hne)
    · have a := H i (by lia) hi (by lia)
      exact W.trans (hS.get hi) (hS.get (by lia)) (hS.get hne) a (ih ((i - 1) / 2) (by lia) (by lia))
theorem Weak.irrefl {S : Value → Prop} {lt : Value → Value → Bool} (W : Weak S lt) {a : Value} (h : S a) : lt a a = false := by
  cases q : lt a a with
  | false => rfl
  | true => have z := W.asymm h h q; rw [q] at z; exact z
theorem heap_least {S : Value → Prop} {lt : Value → Value → Bool} (W : Weak S lt) {vs : List Value} (hS : AllS S vs) (H : HeapFrom lt 0 vs) (hne : 0 < vs.length) : ∀ y ∈ vs, lt y (vs.getD 0 .none) = false := by
  intro y hy
  obtain ⟨i, hi, rfl⟩ := List.getElem_of_mem hy
  have := heap_min W hS H hne (fun h => W.irrefl h) (i + 1) i (by lia) hi
  rwa [List.getD_eq_getElem?_getD, List.getElem?_eq_getElem hi] at this
end Mine
end
noncomputable section
open PySem PySem.W PyProof.Rows
namespace Mine
/-- the tree of questions, answered by o: only numbers below n are asked of, and its end is told -/
noncomputable def KGood (o : Nat → Nat → Bool) (n : Nat) {α : Type} (Post : α → Prop) : KasT α → Prop
  | .ret a => Post a
  | .ask i j k => i < n ∧ j < n ∧ KGood o n Post (k (o i j))
theorem kgood_bind {o : Nat → Nat → Bool} {n : Nat} {α β : Type} {P₁ : α → Prop} {P₂ : β → Prop} {f : α → KasT β} : ∀ (t : KasT α), KGood o n P₁ t → (∀ a, P₁ a → KGood o n P₂ (f a)) → KGood o n P₂ (t.bind f)
  | .ret a, h, hf => hf a h
  | .ask i j k, h, hf => ⟨h.1, h.2.1, kgood_bind (k (o i j)) h.2.2 hf⟩
theorem kgood_wp {o : Nat → Nat → Bool} {n : Nat} {α : Type} {Post : α → Prop} {cmp : Nat → Nat → (Bool → Shared → Prop) → Shared → Prop} {Rel : Shared → Prop} {Q : α → Shared → Prop}
    (hc : ∀ i j C s, i < n → j < n → Rel s → (∀ s', Rel s' → C (o i j) s') → cmp i j C s) (hq : ∀ a s, Post a → Rel s → Q a s) : ∀ (t : KasT α) (s : Shared), KGood o n Post t → Rel s → t.kasWp cmp Q s
  | .ret a, s, h, hr => hq a s h hr
  | .ask i j k, s, h, hr => hc i j _ s h.1 h.2.1 hr fun s' hr' => kgood_wp hc hq (k (o i j)) s' h.2.2 hr'
theorem kgood_mono {o : Nat → Nat → Bool} {n : Nat} {α : Type} {P P' : α → Prop} (hp : ∀ a, P a → P' a) : ∀ (t : KasT α), KGood o n P t → KGood o n P' t
  | .ret a, h => hp a h
  | .ask i j k, h => ⟨h.1, h.2.1, kgood_mono hp (k (o i j)) h.2.2⟩
/-- a strict linear order on the numbers below n -/
structure Lin (o : Nat → Nat → Bool) (n : Nat) : Prop where
  irr : ∀ i, i < n → o i i = false
  tot : ∀ i j, i < n → j < n → i ≠ j → o i j = true ∨ o j i = true
  asy : ∀ i j, i < n → j < n → o i j = true → o j i = false
  tr : ∀ i j k, i < n → j < n → k < n → o i j = false → o j k = false → o i k = false
structure IsPerm (p : Array Nat) (n : Nat) : Prop where
  perm : p.toList.Perm (List.range n)
theorem IsPerm.size {p : Array Nat} {n : Nat} (h : IsPerm p n) : p.size = n := by have := h.perm.length_eq; simpa using this
theorem IsPerm.get {p : Array Nat} {n : Nat} (h : IsPerm p n) {i : Nat} (hi : i < n) : p.getD i 0 < n := by
  have hs := h.size
  have e : p.getD i 0 = p[i]'(by lia) := by simp [Array.getD, hs, hi]
  rw [e]
  have : p[i]'(by lia) ∈ p.toList := by simp
  exact List.mem_range.mp (h.perm.mem_iff.mp this)
theorem IsPerm.ne {p : Array Nat} {n : Nat} (h : IsPerm p n) {i j : Nat} (hi : i < n) (hj : j < n) (hne : i ≠ j) : p.getD i 0 ≠ p.getD j 0 := by
  have hs := h.size
  have e1 : p.getD i 0 = p.toList[i]'(by simpa using (by lia : i < p.size)) := by simp [Array.getD, hs, hi]
  have e2 : p.getD j 0 = p.toList[j]'(by simpa using (by lia : j < p.size)) := by simp [Array.getD, hs, hj]
  rw [e1, e2]
  have nd : p.toList.Nodup := h.perm.nodup_iff.mpr List.nodup_range
  intro q
  exact hne ((List.getElem_inj nd).mp q)
theorem IsPerm.rev {p : Array Nat} {n : Nat} (h : IsPerm p n) (i j : Nat) : IsPerm (kas_rev p i j) n := ⟨(Array.perm_iff_toList_perm.mp (mirror_perm p i j ((j - i) / 2))).trans h.perm⟩
theorem IsPerm.bub {p : Array Nat} {n : Nat} (h : IsPerm p n) (i j : Nat) : IsPerm (bubble p i j) n := ⟨(Array.perm_iff_toList_perm.mp (bubble_perm p i j)).trans h.perm⟩
theorem getD_of_get? {p q : Array Nat} {i j : Nat} (h : p[i]? = q[j]?) : p.getD i 0 = q.getD j 0 := by
  have e : ∀ (a : Array Nat) (k : Nat), a.getD k 0 = a[k]?.getD 0 := fun a k => by
    by_cases hk : k < a.size <;> simp [Array.getD, hk]
  rw [e, e, h]
theorem rev_get {p : Array Nat} {j : Nat} (hj : j ≤ p.size) (k : Nat) : (kas_rev p 0 j).getD k 0 = if k < j then p.getD (j - 1 - k) 0 else p.getD k 0 := by
  have e := getElem?_mirror_all (xs := p) (i := 0) hj k
  by_cases h : k < j
  · rw [if_pos ⟨Nat.zero_le _, h⟩, Nat.zero_add] at e
    rw [if_pos h]; exact getD_of_get? e
  · rw [if_neg (fun q => h q.2)] at e
    rw [if_neg h]; exact getD_of_get? e
theorem bub_get {p : Array Nat} {src d : Nat} (hs : src < p.size) (hd : d ≤ src) (k : Nat) : (bubble p src d).getD k 0 = if k = src - d then p.getD src 0 else if src - d < k ∧ k ≤ src then p.getD (k - 1) 0 else p.getD k 0 := by
  have e := getElem?_bubble hs d hd k
  by_cases h1 : k = src - d
  · rw [if_pos h1] at e ⊢; exact getD_of_get? e
  · rw [if_neg h1] at e ⊢
    by_cases h2 : src - d < k ∧ k ≤ src
    · rw [if_pos h2] at e ⊢; exact getD_of_get? e
    · rw [if_neg h2] at e ⊢; exact getD_of_get? e
section
variable {o : Nat → Nat → Bool} {n : Nat} (O : Lin o n)
noncomputable def Asc (o : Nat → Nat → Bool) (p : Array Nat) (k : Nat) : Prop := ∀ i j, i ≤ j → j < k → o (p.getD j 0) (p.getD i 0) = false
noncomputable def Dsc (o : Nat → Nat → Bool) (p : Array Nat) (k : Nat) : Prop := ∀ i j, i ≤ j → j < k → o (p.getD i 0) (p.getD j 0) = false
include O
theorem asc_good {p : Array Nat} (hp : IsPerm p n) : ∀ (f k : Nat), 1 ≤ k → k + f = n → Asc o p k → KGood o n (fun m => k ≤ m ∧ m ≤ n ∧ Asc o p m ∧ (m < n → o (p.getD m 0) (p.getD (m - 1) 0) = true)) (kas_asc p f k)
  | 0, k, _, e, ha => ⟨Nat.le_refl _, by lia, ha, fun h => by lia⟩
  | f + 1, k, h1, e, ha => by
    refine ⟨hp.get (by lia), hp.get (by lia), ?_⟩
    cases h : o (p.getD k 0) (p.getD (k - 1) 0) with
    | true => exact ⟨Nat.le_refl _, by lia, ha, fun _ => h⟩
    | false =>
      refine kgood_mono (fun m hm => ⟨by lia, hm.2⟩) _ (asc_good hp f (k + 1) (by lia) (by lia) fun i j hij hj => ?_)
      by_cases hjk : j < k
      · exact ha i j hij hjk
      · have : j = k := by lia
        subst this
        by_cases hi : i = j
        · subst hi; exact O.irr _ (hp.get (by lia))
        · exact O.tr _ _ _ (hp.get (by lia)) (hp.get (by lia)) (hp.get (by lia)) h (ha i (j - 1) (by lia) (by lia))
theorem desc_good {p : Array Nat} (hp : IsPerm p n) : ∀ (f k : Nat), 1 ≤ k → k + f ≤ n → Dsc o p k → KGood o n (fun r => r.1 = p ∧ r.2.2 = 0 ∧ k ≤ r.2.1 ∧ r.2.1 ≤ n ∧ Dsc o p r.2.1) (kas_desc f p k 0)
  | 0, k, _, e, ha => ⟨rfl, rfl, Nat.le_refl _, show k ≤ n by lia, ha⟩
  | f + 1, k, h1, e, ha => by
    refine ⟨hp.get (by lia), hp.get (by lia), ?_⟩
    cases h : o (p.getD k 0) (p.getD (k - 1) 0) with
    | true =>
      refine kgood_mono (fun m hm => ⟨hm.1, hm.2.1, by lia, hm.2.2.2⟩) _ (desc_good hp f (k + 1) (by lia) (by lia) fun i j hij hj => ?_)
      by_cases hjk : j < k
      · exact ha i j hij hjk
      · have : j = k := by lia
        subst this
        by_cases hi : i = j
        · subst hi; exact O.irr _ (hp.get (by lia))
        · exact O.tr _ _ _ (hp.get (by lia)) (hp.get (by lia)) (hp.get (by lia)) (ha i (j - 1) (by lia) (by lia)) (O.asy _ _ (hp.get (by lia)) (hp.get (by lia)) h)
    | false =>
      refine ⟨hp.get (by lia), hp.get (by lia), ?_⟩
      have h2 : o (p.getD (k - 1) 0) (p.getD k 0) = true := by
        rcases O.tot _ _ (hp.get (by lia)) (hp.get (by lia)) (hp.ne (show k - 1 < n by lia) (show k < n by lia) (by lia)) with q | q
        · exact q
        · rw [h] at q; cases q
      rw [h2]
      exact ⟨rfl, rfl, Nat.le_refl _, show k ≤ n by lia, ha⟩
theorem tail_good {p : Array Nat} (hp : IsPerm p n) {k : Nat} (h1 : 1 ≤ k) (hk : k ≤ n) (hd : Dsc o p k) : KGood o n (fun r => 1 ≤ r.1 ∧ r.1 ≤ n ∧ IsPerm r.2 n ∧ Asc o r.2 r.1) (kas_tail3 k n p) := by
  unfold kas_tail3
  have hr : IsPerm (kas_rev p 0 k) n := hp.rev 0 k
  refine kgood_bind _ (asc_good O hr (n - k) k h1 (by lia) fun i j hij hj => ?_) fun m hm => ⟨by lia, hm.2.1, hr, hm.2.2.1⟩
  rw [rev_get (by rw [hp.size]; exact hk), rev_get (by rw [hp.size]; exact hk), if_pos hj, if_pos (by lia)]
  exact hd (k - 1 - j) (k - 1 - i) (by lia) (by lia)
theorem count_good (hn : 1 ≤ n) : KGood o n (fun r => 1 ≤ r.1 ∧ r.1 ≤ n ∧ IsPerm r.2 n ∧ Asc o r.2 r.1) (kas_count n (List.toArray (List.range n))) := by
  have hp : IsPerm (List.toArray (List.range n)) n := ⟨.refl _⟩
  generalize List.toArray (List.range n) = p at hp
  unfold kas_count
  refine kgood_bind _ (asc_good O hp (n - 1) 1 (Nat.le_refl _) (by lia) fun i j hij hj => ?_) fun m hm => ?_
  · have : i = j := by lia
    subst this
    exact O.irr _ (hp.get (by lia))
  · split
    · rename_i h
      exact ⟨by lia, hm.2.1, hp, hm.2.2.1⟩
    · rename_i h
      have hne : m ≠ n := by simpa using h
      split
      · rename_i h1
        refine ⟨hp.get (by lia), hp.get (by lia), ?_⟩
        have h2 : o (p.getD 0 0) (p.getD (m - 1) 0) = true := by
          rcases O.tot _ _ (hp.get (show 0 < n by lia)) (hp.get (show m - 1 < n by lia)) (hp.ne (by lia) (by lia) (by lia)) with q | q
          · exact q
          · rw [hm.2.2.1 0 (m - 1) (by lia) (by lia)] at q; cases q
        rw [h2]
        exact ⟨by lia, hm.2.1, hp, hm.2.2.1⟩
      · rename_i h1
        have e : m = 1 := by lia
        subst e
        unfold kas_descPart
        have hd := hm.2.2.2 (by lia)
        refine kgood_bind _ (desc_good O hp (n - (1 + 1)) (1 + 1) (by lia) (by lia) fun i j hij hj => ?_) fun r hr => ?_
        · by_cases hi : i = j
          · subst hi; exact O.irr _ (hp.get (by lia))
          · have : i = 0 := by lia
            have : j = 1 := by lia
            subst i j
            exact O.asy _ _ (hp.get (by lia)) (hp.get (by lia)) hd
        · obtain ⟨p', k, q⟩ := r
          obtain ⟨rfl, rfl, h3, h4, h5⟩ := hr
          dsimp only at h3 h4 h5 ⊢
          rw [if_neg (by lia)]
          exact tail_good O hp (by lia) h4 h5
theorem place_good {p : Array Nat} (hp : IsPerm p n) {k : Nat} (hk : k < n) : ∀ (f l r : Nat), r - l ≤ f → l ≤ r → r ≤ k → Asc o p k → (∀ i, i < l → o (p.getD k 0) (p.getD i 0) = false) → (∀ i, r ≤ i → i < k → o (p.getD k 0) (p.getD i 0) = true) →
    KGood o n (fun m => m ≤ k ∧ (∀ i, i < m → o (p.getD k 0) (p.getD i 0) = false) ∧ (∀ i, m ≤ i → i < k → o (p.getD k 0) (p.getD i 0) = true)) (kas_place p k f l r)
  | 0, l, r, e, h1, h2, _, ha, hb => ⟨by lia, ha, fun i h3 h4 => hb i (by lia) h4⟩
  | f + 1, l, r, e, h1, h2, hs, ha, hb => by
    rw [kas_place]
    split
    · exact ⟨by lia, ha, fun i h3 h4 => hb i (by lia) h4⟩
    · refine ⟨hp.get hk, hp.get (by lia), ?_⟩
      cases h : o (p.getD k 0) (p.getD ((l + r) / 2) 0) with
      | true =>
        refine place_good hp hk f l ((l + r) / 2) (by lia) (by lia) (by lia) hs ha fun i h3 h4 => ?_
        cases q : o (p.getD k 0) (p.getD i 0) with
        | true => rfl
        | false =>
          have := O.tr _ _ _ (hp.get hk) (hp.get (by lia)) (hp.get (by lia)) q (hs ((l + r) / 2) i h3 h4)
          rw [h] at this; cases this
      | false =>
        refine place_good hp hk f ((l + r) / 2 + 1) r (by lia) (by lia) (by lia) hs (fun i h3 => ?_) hb
        exact O.tr _ _ _ (hp.get hk) (hp.get (by lia)) (hp.get (by lia)) h (hs i ((l + r) / 2) (by lia) (by lia))
theorem bin_good : ∀ (f : Nat) (p : Array Nat) (k : Nat), IsPerm p n → f + k = n → Asc o p k → KGood o n (fun r => IsPerm r n ∧ Asc o r n) (kas_bin f p k)
  | 0, p, k, hp, e, ha => ⟨hp, by have : k = n := by lia
                                  exact this ▸ ha⟩
  | f + 1, p, k, hp, e, ha => by
    rw [kas_bin]
    have hk : k < n := by lia
    refine kgood_bind _ (place_good O hp hk k 0 k (by lia) (by lia) (Nat.le_refl _) ha (fun i h => by lia) (fun i h h' => by lia)) fun m hm => ?_
    refine bin_good f _ (k + 1) (hp.bub _ _) (by lia) fun i j hij hj => ?_
    have hs : k < p.size := by rw [hp.size]; exact hk
    rw [bub_get hs (by lia), bub_get hs (by lia), show k - (k - m) = m by lia]
    have hg : ∀ i, i < n → p.getD i 0 < n := fun i hi => hp.get hi
    obtain ⟨q, hq⟩ : ∃ q : Nat → Nat, ∀ x, p.getD x 0 = q x := ⟨fun x => p.getD x 0, fun _ => rfl⟩
    unfold Asc at ha
    simp only [hq] at *
    repeat' split
    all_goals first
      | (exfalso; lia)
      | exact O.irr _ (hg _ (by lia))
      | exact ha _ _ (by lia) (by lia)
      | exact hm.2.1 _ (by lia)
      | exact O.asy _ _ (hg _ (by lia)) (hg _ (by lia)) (hm.2.2 _ (by lia) (by lia))
theorem sort_good (hn : 1 ≤ n) : KGood o n (fun r => IsPerm r n ∧ Asc o r n) (kas_sort n) := by
  unfold kas_sort
  refine kgood_bind _ (count_good O hn) fun r hr => ?_
  split
  · exact bin_good O _ _ _ hr.2.2.1 (by lia) (by rw [Nat.max_eq_left hr.1]; exact hr.2.2.2)
  · have : r.1 = n := by lia
    exact ⟨hr.2.2.1, this ▸ hr.2.2.2⟩
end
end Mine
end
noncomputable section
open PySem PySem.W PyProof.Rows
namespace Mine
noncomputable def blt (a b : List UInt8) : Bool := Builtin.Bytes.order a b == .lt
theorem blt_iff : ∀ (a b : List UInt8), blt a b = decide (a < b)
  | [], [] => by simp [blt, Builtin.Bytes.order]
  | [], _ :: _ => by simp [blt, Builtin.Bytes.order]
  | _ :: _, [] => by simp [blt, Builtin.Bytes.order]
  | x :: a, y :: b => by
    have ih := blt_iff a b
    unfold blt at ih ⊢
    rw [Builtin.Bytes.order]
    by_cases h1 : x < y
    · simp [h1, List.cons_lt_cons_iff]
    · by_cases h2 : x > y
      · have : x ≠ y := fun e => by subst e; exact absurd h2 (UInt8.lt_irrefl _)
        simp [h1, h2, this, List.cons_lt_cons_iff]
      · have : x = y := UInt8.le_antisymm (UInt8.not_lt.mp h2) (UInt8.not_lt.mp h1)
        subst this
        simp [UInt8.lt_irrefl, List.cons_lt_cons_iff]
        simpa using ih
theorem blt_irrefl (a : List UInt8) : blt a a = false := by rw [blt_iff]; simpa using List.lt_irrefl a
theorem blt_trans (a b c : List UInt8) (h1 : blt a b = true) (h2 : blt b c = true) : blt a c = true := by
  simp only [blt_iff, decide_eq_true_eq] at *; exact List.lt_trans h1 h2
theorem blt_neg (a b c : List UInt8) (h : blt a c = true) : blt a b = true ∨ blt b c = true := by
  simp only [blt_iff, decide_eq_true_eq] at *
  by_cases hab : a < b
  · exact .inl hab
  · exact .inr (List.lt_of_le_of_lt (List.not_lt.mp hab) h)
theorem blt_total (a b : List UInt8) (h1 : blt a b = false) (h2 : blt b a = false) : a = b := by
  simp only [blt_iff, decide_eq_false_iff_not] at *; exact List.le_antisymm (List.not_lt.mp h2) (List.not_lt.mp h1)
theorem blt_asymm (a b : List UInt8) (h : blt a b = true) : blt b a = false := by
  cases q : blt b a with
  | false => rfl
  | true => have := blt_trans _ _ _ h q; rw [blt_irrefl] at this; cases this
theorem blt_ftrans (a b c : List UInt8) (h1 : blt a b = false) (h2 : blt b c = false) : blt a c = false := by
  cases q : blt a c with
  | false => rfl
  | true => rcases blt_neg a b c q with h | h
            · rw [h1] at h; cases h
            · rw [h2] at h; cases h
noncomputable def bk : Value → List UInt8
  | .bytes b _ => b.toList
  | _ => []
noncomputable def IsB (v : Value) : Prop := ∃ b t, v = .bytes b t
noncomputable def vlt (x y : Value) : Bool := blt (bk x) (bk y)
end Mine
end
section
open PySem PySem.W PyProof.Rows
set_option maxRecDepth 100000
namespace Mine
theorem hold6 {A B C : Prop} (main : C) (both : A ∧ B) (hl : A) (hc : B) : C := (fun _ _ _ => main) both hl hc
theorem andL {A B : Prop} (both : A ∧ B) : A := both.1
theorem andR {A B : Prop} (both : A ∧ B) : B := both.2
theorem saidL : PySem.Challenge.rw_kq0059_01.wellSaid = true := by rw [PySem.W.Fast.te9446332074065402090]; kernel_rfl
local macro_rules | `(tactic| o_law) => `(tactic| refine holds_law Mine.saidL fun said => ?_)
set_option hygiene false in
local macro_rules | `(tactic| k_head) => `(tactic| (apply Mine.hold6; (focus km_head); (case hl => exact Mine.andL ?both); (case hc => exact Mine.andR ?both)))
set_option maxHeartbeats 8000000 in
open_top hd for PySem.Challenge.rw_kq0059_01
noncomputable def hdAs : List Addr := [2, 3, 32, 34, 35, 37, 38, 39, 46, 47, 48, 49, 52, 54, 55, 57, 58, 59, 61, 62, 64, 65, 69, 70, 71, 72, 74, 75, 77, 78,
  79, 86, 87, 88, 89, 92, 94, 95, 97, 98, 99, 101, 102, 104, 105, 106, 108, 109, 111, 112, 113, 115, 116, 118, 119, 120,
  121, 123, 124, 126, 127, 128, 129, 131, 132, 134, 135, 136, 137, 138, 140, 141, 143, 144, 145, 147, 148, 150, 151,
  152, 154, 155, 157, 158, 159, 160, 162, 163, 165, 166, 167, 168, 170, 171, 173, 174, 175, 177, 178, 180, 181, 182,
  183, 185, 186, 188, 189, 190, 192, 193, 195, 196, 197, 199, 200, 202, 203, 204, 206, 207, 209, 210, 211, 213, 214,
  216, 217, 218, 220, 221, 223, 224, 225, 227, 228, 230, 231, 232, 234, 235, 237, 238, 239, 241, 242, 244, 245, 246,
  248, 249, 251, 252, 253, 254, 257, 258, 259, 260, 263, 264, 265, 268, 269, 270, 273, 274, 275, 278, 279, 280, 283,
  284, 285, 288, 289, 290, 293, 294, 295, 298, 299]
noncomputable def hdLoose : List Str := [Str.ofString "_twin_re_1", Str.ofString "bytes_types", Str.ofString "a2b_base64", Str.ofString "b2a_base64",
      Str.ofString "_NO_SEP", Str.ofString "b2a_hex", Str.ofString "hexlify", Str.ofString "unhexlify",
      Str.ofString "b64encode", Str.ofString "b64decode", Str.ofString "b16decode", Str.ofString "nsmallest",
      Str.ofString "nlargest"]
theorem hdAs_eq : ∀ P, hdAs = (Mine.hd.heap_1 P).map (·.1) := fun P => by kernel_rfl
theorem hdLeft : LeftO PySem.Challenge.rw_kq0059_01.row.prog Mine.hd.view_1 hdLoose (fun s => PySem.W.xlAt Mine.hd.view_1 [] s && PySem.W.recOk PySem.Challenge.rw_kq0059_01.row.records s)
    (Hook.obs (kmHook Mine.hd.heap_1 hdAs hdAs_eq [296])) (Hook.val (kmHook Mine.hd.heap_1 hdAs hdAs_eq [296])) 3410 := by
  intro w
  delta openEnds fencedOpening topFrom
  rw [PySem.W.Fast.te4187177175401517315, PySem.W.Fast.te14082659384304107361, PySem.W.Fast.te10274390034422433532, PySem.W.Fast.te14289696077712309145, PySem.W.Fast.te1435165496053646825, PySem.W.Fast.te14364793385576792824]
  kernel_rfl
end Mine
end
theorem Mine.top_off : True := by w_top off; exact True.intro
noncomputable section
open PySem PySem.W PyProof.Rows PySem.Spec PySem.Calls
namespace Mine
noncomputable abbrev Led0 := List (Addr × Obj)
noncomputable def ExecK (prog : Program) (w : World) (A : Around) (rest : List Stmt) (env : Env) (Q : Flow → Shared → Prop) (E : Value → Shared → Prop) (f : Flow) (s : Shared) : Prop :=
  match f with | .next => wpAny (model prog w) A (execs rest env) Q E s | f => Q f s
section
variable {prog : Program} {w : World} {A : Around} {st : Stmt} {rest : List Stmt} {env : Env} {Q : Flow → Shared → Prop} {E : Value → Shared → Prop} {s : Shared} {v : Value}
theorem ek_cons (h : wpAny (model prog w) A (exec st env) (ExecK prog w A rest env Q E) E s) : wpAny (model prog w) A (execs (st :: rest) env) Q E s :=
  wpAny_execs_cons (wpAny_mono h (fun f s' h => by cases f <;> exact h) fun _ _ h => h)
theorem fold_let {α : Type} {M A t Q E s} (h : let qk := Q; @wpAny α M A t qk E s) : @wpAny α M A t Q E s := h
theorem ek_next (h : wpAny (model prog w) A (execs rest env) Q E s) : ExecK prog w A rest env Q E .next s := h
theorem ek_ret (h : Q (.ret v) s) : ExecK prog w A rest env Q E (.ret v) s := h
theorem ek_brk (h : Q .brk s) : ExecK prog w A rest env Q E .brk s := h
theorem ek_cont (h : Q .cont s) : ExecK prog w A rest env Q E .cont s := h
end
section
variable {R : Value → Led0 → Heap → Nat → Prop}
theorem un_e {V : Value} {O : Led0} (h : ∀ h' tk, R V O h' tk) : ∀ v own h' tk, (v = V ∧ own = O) → R v own h' tk := fun _ _ h' tk ⟨a, b⟩ => a ▸ b ▸ h h' tk
theorem un_u {α : Type} {g : α → Value} {O : Led0} (h : ∀ u h' tk, R (g u) O h' tk) : ∀ v own h' tk, ((∃ u, v = g u) ∧ own = O) → R v own h' tk := fun _ _ h' tk ⟨⟨u, a⟩, b⟩ => a ▸ b ▸ h u h' tk
theorem un_p {α : Type} {g : α → Value} {A B : α → Prop} {O : Led0} (h : ∀ u, A u → B u → ∀ h' tk, R (g u) O h' tk) : ∀ v own h' tk, ((∃ u, A u ∧ B u ∧ v = g u) ∧ own = O) → R v own h' tk :=
  fun _ _ h' tk ⟨⟨u, x, y, a⟩, b⟩ => a ▸ b ▸ h u x y h' tk
theorem un_s {α β : Type} {g : α → β → Value} {A : α → β → Prop} {O : Led0} (h : ∀ x u, A x u → ∀ h' tk, R (g x u) O h' tk) : ∀ v own h' tk, ((∃ x u, v = g x u ∧ A x u) ∧ own = O) → R v own h' tk :=
  fun _ _ h' tk ⟨⟨x, u, a, y⟩, b⟩ => a ▸ b ▸ h x u y h' tk
theorem un_31 {α β γ : Type} {g : α → β → γ → Value} {O : α → β → γ → Led0} {A : α → β → γ → Prop} (h : ∀ a b c, A a b c → ∀ h' tk, R (g a b c) (O a b c) h' tk) :
    ∀ v own h' tk, (∃ a b c, v = g a b c ∧ own = O a b c ∧ A a b c) → R v own h' tk := fun _ _ h' tk ⟨a, b, c, x, y, z⟩ => x ▸ y ▸ h a b c z h' tk
theorem un_32 {α β γ : Type} {g : α → β → γ → Value} {O : α → β → γ → Led0} {A B : α → β → γ → Prop} (h : ∀ a b c, A a b c → B a b c → ∀ h' tk, R (g a b c) (O a b c) h' tk) :
    ∀ v own h' tk, (∃ a b c, v = g a b c ∧ own = O a b c ∧ A a b c ∧ B a b c) → R v own h' tk := fun _ _ h' tk ⟨a, b, c, x, y, z, z'⟩ => x ▸ y ▸ h a b c z z' h' tk
theorem un_23 {α β : Type} {g : α → β → Value} {O : α → β → Led0} {A B C : α → β → Prop} (h : ∀ a b, A a b → B a b → C a b → ∀ h' tk, R (g a b) (O a b) h' tk) :
    ∀ v own h' tk, (∃ a b, v = g a b ∧ own = O a b ∧ A a b ∧ B a b ∧ C a b) → R v own h' tk := fun _ _ h' tk ⟨a, b, x, y, z, z', z''⟩ => x ▸ y ▸ h a b z z' z'' h' tk
end
end Mine
end
open PySem PySem.W PyProof.Rows PySem.Spec PySem.Calls
namespace Mine
local macro_rules | `(tactic| omega) => `(tactic| first | with_reducible assumption | decide | with_reducible exact om_z | with_reducible exact om_0 (by with_reducible assumption) (by decide) | with_reducible exact om_1 (by with_reducible assumption) (by decide) | with_reducible exact om_3 (by with_reducible assumption) (by decide) | with_reducible exact om_lt (by with_reducible assumption) (by decide) | with_reducible exact om_le (by with_reducible assumption) (by decide) | with_reducible exact om_ne1 (by with_reducible assumption) | with_reducible exact om_ne2 (by with_reducible assumption) | with_reducible exact om_ne (by with_reducible assumption) | with_reducible exact Nat.le_of_lt (by with_reducible assumption) | fail "om")
noncomputable section
set_option maxRecDepth 100000
noncomputable abbrev Led := List (Addr × Obj)
theorem k_filled : (PySem.Challenge.rw_kq0059_01 = PySem.Challenge.rw_kq0059_01) ∧ (Mine.hd.heap_1 = Mine.hd.heap_1) := by k_fill; exact ⟨rfl, rfl⟩
@[reducible] noncomputable def arnd (dp un : Nat) (fr : Option (List Env)) (gd : Option (List Code)) : Around := { handled := none, depth := dp, frames := fr, guards := gd, units := un }
/-- what a call may change: the objects of `own`; what it hands back: `own'` -/
structure After (own own' : Led) (h h' : Heap) : Prop where
  keep : ∀ b o, h.get? b = some o → b ∉ own.map (·.1) → h'.get? b = some o
  has : ∀ q ∈ own', h'.get? q.1 = some q.2
  new : ∀ q ∈ own', q.1 ∈ own.map (·.1) ∨ h.get? q.1 = none
noncomputable def FnR (w : World) (f : Addr) (d : Nat) (args : Args) (ro own : Led) (P : Value → Led → Prop) : Prop :=
  ∀ (p : Program) (loose : List Str) (mean : ExcName → Option Value) (mg mb : Str → Option Value)
    (dp un : Nat) (fr : Option (List Env)) (gd : Option (List Code)) (s : Shared) (base : Heap) (R : Result → Shared → Prop),
    (Mine.hd.heap_1 w.params).In base → Top p loose mean mg mb base → base.StaysIn s.heap →
    (∀ q ∈ own, s.heap.get? q.1 = some q.2 ∧ base.get? q.1 = none) → (∀ q ∈ ro, s.heap.get? q.1 = some q.2 ∧ q.1 ∉ own.map (·.1)) →
    dp + d < recursionLimit → un + 8 * d < cLine →
    (∀ v own' h' tk', P v own' → After own own' s.heap h' → R (.ok (.ret v)) { s with heap := h', toks := tk' }) →
    codeAny (model PySem.Challenge.rw_kq0059_01.prog w) (arnd dp un fr gd) (.call (.ref f) args) R s
/-- what is left to say at a def's end -/
structure HeldP (P : Prop) : Prop where
  out : P
/-- the end of a def's body -/
noncomputable def FnEnd (g : Heap) (L : Addr) (P : Value → Led → Prop) (v : Value) (s' : Shared) (s : Shared) : Prop :=
  ∃ h' tk' m' own', s' = { s with heap := h', toks := tk' } ∧ Fr g L h' m' ∧ News g L h' own' ∧ P v own'
theorem fnEnd_intro {g : Heap} {L : Addr} {P : Value → Led → Prop} {v : Value} {s : Shared} {h' : Heap} {tk' : Nat} {m' : Str → Option Value} {own' : Led} (F : Fr g L h' m') (N : News g L h' own') (hP : HeldP (P v own')) :
    FnEnd g L P v { s with heap := h', toks := tk' } s := ⟨h', tk', m', own', rfl, F, N, hP.out⟩
theorem fn_enter {w : World} {f : Addr} {d : Nat} {args : Args} {ro own : Led} {P : Value → Led → Prop}
    {name qual : Str} {params : Arguments} {body : List Stmt} {scope : Scope} {dV kV doc pm cdv ct oc : Value} {an od : Option Addr} {osl : Array (Option Value)} {binds : List (Str × Value)}
    (ho : (Mine.hd.heap_1 w.params).lookup f = some ⟨oc, od, .func (fnOf name qual params body scope dV kV doc pm an cdv ct), osl⟩) (hcd : codeIn (Mine.hd.heap_1 w.params) cdv qual = true)
    (hd : 0 < d)
    (hbind : ∀ s : Shared, (Mine.hd.heap_1 w.params).In s.heap → BindsTo s (fnOf name qual params body scope dV kV doc pm an cdv ct) args binds) (hloc : ∀ y ∈ binds, scope.names.lookup y.1 = some .local)
    (hbody : ∀ (p : Program) (loose : List Str) (mean : ExcName → Option Value) (mg mb : Str → Option Value) (dp un : Nat) (fr : Option (List Env)) (gd : Option (List Code)) (s₁ : Shared) (h : Heap) (tk : Nat) (g : Heap) (L : Addr),
      (Mine.hd.heap_1 w.params).In g → Top p loose mean mg mb g → Fr g L h (fun y => binds.reverse.lookup y) → News g L h own → (∀ q ∈ own, q.1 < L) → (∀ q ∈ ro, g.get? q.1 = some q.2) →
      dp + d < recursionLimit + 1 → un + 8 * d < cLine + 3 →
      wpAny (model PySem.Challenge.rw_kq0059_01.prog w) (arnd dp un fr gd) (execs body (envOf qual scope L f cdv)) (fun fl s' => FnEnd g L P (match fl with | .ret v => v | _ => .none) s' s₁) (fun _ _ => False) { s₁ with heap := h, toks := tk })
    (hco : scope.isCoroutine = false) (hgen : scope.isGenerator = false) (hk : scope.kind = .function)
    (hcell : ∀ x ∈ scope.names, x.2 ≠ .cell) : FnR w f d args ro own P := by
  intro p loose mean mg mb dp un fr gd s base R X T st hown hro hdp hun hret
  have X' : (Mine.hd.heap_1 w.params).In s.heap := X.keeps st
  refine codeAny_call_def (fd := fnOf name qual params body scope dV kV doc pm an cdv ct) (body := body) (binds := binds) (by show dp < recursionLimit; omega) (X' _ _ ho) rfl (T.nolimit.keeps st) (codeRec_of X' hcd) rfl (hbind s X') hcell hloc (fun h₁ hns hk₁ => ?_) hco hgen hk
  have nm : ∀ b o, base.get? b = some o → b ∉ own.map (·.1) := fun b o e q => by
    obtain ⟨p, hp, rfl⟩ := List.mem_map.mp q
    rw [(hown p hp).2] at e; cases e
  have stg : base.StaysIn (hideAll s.heap (own.map (·.1))) := fun b o e => hideAll_get _ (st b o e) (nm b o e)
  have FG : Fr (hideAll s.heap (own.map (·.1))) s.heap.objs.size h₁ (fun y => binds.reverse.lookup y) := ⟨hns, fun b o e => hk₁ b o (of_hideAll _ e), Nat.le_of_eq (hideAll_size _ _)⟩
  have NG : News (hideAll s.heap (own.map (·.1))) s.heap.objs.size h₁ own := fun q hq => ⟨hk₁ _ _ (hown q hq).1, Nat.ne_of_lt (Heap.lt_size (hown q hq).1), hideAll_none _ (List.mem_map_of_mem hq)⟩
  have z := hbody p loose mean mg mb (dp + 1) (un + 3) (fr.map (envOf qual scope s.heap.objs.size f cdv :: ·)) gd s h₁ (s.toks + binds.length) _ _ (X.keeps stg) (T.keeps stg) FG NG
    (fun q hq => Heap.lt_size (hown q hq).1) (fun q hq => hideAll_get _ (hro q hq).1 (hro q hq).2) (by omega) (by omega)
  refine wpAny_mono z (fun fl s' hl => ?_) (fun _ _ x => x.elim)
  obtain ⟨h', tk', m', own', rfl, F', N', hP⟩ := hl
  refine hret _ own' h' tk' hP ⟨fun b o e hb => F'.keep b o (hideAll_get _ e hb), fun q hq => (N' q hq).1, fun q hq => ?_⟩
  by_cases hm : q.1 ∈ own.map (·.1)
  · exact .inl hm
  · right
    cases e : s.heap.get? q.1 with
    | none => rfl
    | some o =>
      have := (N' q hq).2.2
      rw [hideAll_get _ e hm] at this
      cases this
/-- a call out of a def's body, upon the part `own` of the ledger -/
theorem fn_use {w : World} {f : Addr} {d : Nat} {args : Args} {ro own rest news : Led} {P : Value → Led → Prop} {p : Program} {loose : List Str} {mean : ExcName → Option Value} {mg mb : Str → Option Value}
    {dp un : Nat} {fr : Option (List Env)} {gd : Option (List Code)} {s : Shared} {h₀ : Heap} {L : Addr} {m : Str → Option Value} {R : Result → Shared → Prop}
    (C : FnR w f d args ro own P) (X : (Mine.hd.heap_1 w.params).In h₀) (T : Top p loose mean mg mb h₀) (F : Fr h₀ L s.heap m) (N : News h₀ L s.heap news)
    (ho : ∀ q ∈ own, q ∈ news) (hro : ∀ q ∈ ro, s.heap.get? q.1 = some q.2 ∧ q.1 ∉ own.map (·.1)) (hr : ∀ q ∈ rest, q ∈ news ∧ ∀ r ∈ own, q.1 ≠ r.1)
    (hdp : dp + d < recursionLimit) (hun : un + 8 * d < cLine)
    (hret : ∀ v own' h' tk', P v own' → Fr h₀ L h' m → News h₀ L h' (own' ++ rest) → (∀ q ∈ own', q.1 ∈ own.map (·.1) ∨ ((∀ r ∈ news, r.1 ≠ q.1))) → R (.ok (.ret v)) { s with heap := h', toks := tk' }) :
    codeAny (model PySem.Challenge.rw_kq0059_01.prog w) (arnd dp un fr gd) (.call (.ref f) args) R s := by
  refine C p loose mean mg mb dp un fr gd s h₀ R X T F.keep (fun q hq => ⟨(N q (ho q hq)).1, (N q (ho q hq)).2.2⟩) hro hdp hun fun v own' h' tk' hP A => ?_
  have nm : ∀ b o, h₀.get? b = some o → b ∉ own.map (·.1) := fun b o e q => by
    obtain ⟨r, hp, rfl⟩ := List.mem_map.mp q
    rw [(N r (ho r hp)).2.2] at e; cases e
  have kb : ∀ b o, h₀.get? b = some o → h'.get? b = some o := fun b o e => A.keep b o (F.keep b o e) (nm b o e)
  obtain ⟨oL, es, ep, hL, hLd, hLk, hLf⟩ := F.ns
  have nL : L ∉ own.map (·.1) := fun q => by
    obtain ⟨r, hp, e⟩ := List.mem_map.mp q
    exact (N r (ho r hp)).2.1 e
  refine hret v own' h' tk' hP ⟨⟨oL, es, ep, A.keep L oL hL nL, hLd, hLk, hLf⟩, kb, F.above⟩ (fun q hq => ?_) (fun q hq => ?_)
  · rcases List.mem_append.mp hq with hq | hq
    · refine ⟨A.has q hq, fun e => ?_, ?_⟩
      · rcases A.new q hq with hn | hn
        · exact nL (e ▸ hn)
        · rw [e, hL] at hn; cases hn
      · cases e : h₀.get? q.1 with
        | none => rfl
        | some o =>
          rcases A.new q hq with hn | hn
          · exact absurd hn (nm _ _ e)
          · rw [F.keep _ _ e] at hn; cases hn
    · obtain ⟨hm, hne⟩ := hr q hq
      refine ⟨A.keep _ _ (N q hm).1 (fun z => ?_), (N q hm).2⟩
      obtain ⟨r, hr', e⟩ := List.mem_map.mp z
      exact hne r hr' e.symm
  · rcases A.new q hq with hn | hn
    · exact .inl hn
    · refine .inr fun r hr' e => ?_
      rw [← e, (N r hr').1] at hn; cases hn
/-- how two values of a heap compare by < -/
structure LtOn (w : World) (ro : Led) (S : Value → Prop) (lt : Value → Value → Bool) : Prop where
  cmp : ∀ {A : Around} {E : Value → Shared → Prop} {s : Shared} {Q : Value → Shared → Prop} {x y : Value}, S x → S y → A.units + 3 < cLine → (∀ q ∈ ro, s.heap.get? q.1 = some q.2) →
    (∀ tk, Q (.bool (lt x y)) { s with toks := tk }) → wpAny (model PySem.Challenge.rw_kq0059_01.prog w) A (compareOp .Lt x y) Q E s
section
variable {prog : Program} {w : World} {A : Around} {E : Value → Shared → Prop} {s : Shared} {h₀ : Heap} {L D : Addr} {m : Str → Option Value} {news news' : Led} {vs : List Value} {n : Nat} {k : Int} {t : Tok} {v : Value}
theorem ro_keep {g h : Heap} {ro : Led} (F : Fr g L h m) (hro : ∀ q ∈ ro, g.get? q.1 = some q.2) : ∀ q ∈ ro, h.get? q.1 = some q.2 := fun q hq => F.keep _ _ (hro q hq)
theorem getD_some {vs : List Value} {j : Nat} (h : j < vs.length) : vs[j]? = some (vs.getD j Value.none) := by
  rw [List.getElem?_eq_getElem h, List.getD_eq_getElem?_getD, List.getElem?_eq_getElem h]; rfl
theorem my_sub {value slice : Expr} {Q : Value → Shared → Prop} (N : News h₀ L s.heap news) (hm : (D, listOf vs.toArray n) ∈ news) (h0 : 0 ≤ k) (h1 : k < vs.length) (hfit : k < 2 ^ 63) (h : Q (vs.getD k.toNat Value.none) s)
    (hs : subscripted slice false (.ref D) (.int k t) = operate [.ref D, .int k t] (getItem (.ref D) (.int k t)) := by with_unfolding_all rfl) (hg : ∀ r, letTemporaryGo value (.ref D) r = pure () := by intro _; with_unfolding_all rfl) :
    wpAny (model prog w) A (subscriptTail value slice (.ref D) (.int k t)) Q E s :=
  kim_list N hm rfl rfl h0 hfit (getD_some (by omega)) h hs hg
theorem my_set {Q : Unit → Shared → Prop} (F : Fr h₀ L s.heap m) (N : News h₀ L s.heap news) (U : Upd D (listOf vs.toArray n) (listOf (vs.set k.toNat v).toArray n) news news') (h0 : 0 ≤ k) (h1 : k < vs.length) (hfit : k < 2 ^ 63)
    (h : ∀ h', Fr h₀ L h' m → News h₀ L h' news' → Q () { s with heap := h' }) :
    wpAny (model prog w) A (setItem (.ref D) (.int k t) v) Q E s := by
  obtain ⟨pre, post, rfl, rfl, a, b⟩ := U.split
  have z := N (D, listOf vs.toArray n) (List.mem_append.mpr (.inr (.head _)))
  refine ki_setAt z.1 h0 hfit (by rw [List.size_toArray]; exact h1) (h _ (F.change (Heap.SameBut.update ..) z.2.1 z.2.2) (ki_turn _ N a b ?_ ?_))
  · show vs.toArray.setIfInBounds k.toNat v = (vs.set k.toNat v).toArray
    apply Array.toList_inj.mp
    simp
  · simp
end
theorem while_next {g : Heap} {L : Addr} {s : Shared} {J : Nat → (Str → Option Value) → Led → Prop} {Q : Flow → Shared → Prop} {k : Nat} {h' : Heap} {tk : Nat} {m' : Str → Option Value} {nw' : Led}
    (F : Fr g L h' m') (N : News g L h' nw') (hJ : HeldP (∃ k', k' < k ∧ J k' m' nw')) : WhileStep2 g L s J Q k .next { s with heap := h', toks := tk } := by
  obtain ⟨k', h1, h2⟩ := hJ.out
  exact ⟨h', tk, m', nw', k', rfl, F, N, h1, h2⟩
theorem while_cont {g : Heap} {L : Addr} {s : Shared} {J : Nat → (Str → Option Value) → Led → Prop} {Q : Flow → Shared → Prop} {k : Nat} {h' : Heap} {tk : Nat} {m' : Str → Option Value} {nw' : Led}
    (F : Fr g L h' m') (N : News g L h' nw') (hJ : HeldP (∃ k', k' < k ∧ J k' m' nw')) : WhileStep2 g L s J Q k .cont { s with heap := h', toks := tk } := by
  obtain ⟨k', h1, h2⟩ := hJ.out
  exact ⟨h', tk, m', nw', k', rfl, F, N, h1, h2⟩
theorem while_brk {g : Heap} {L : Addr} {s s' : Shared} {J : Nat → (Str → Option Value) → Led → Prop} {Q : Flow → Shared → Prop} {k : Nat} (h : Q .next s') : WhileStep2 g L s J Q k .brk s' := h
theorem while_ret {g : Heap} {L : Addr} {s s' : Shared} {J : Nat → (Str → Option Value) → Led → Prop} {Q : Flow → Shared → Prop} {k : Nat} {v : Value} (h : Q (.ret v) s') : WhileStep2 g L s J Q k (.ret v) s' := h
noncomputable def ov (ps : List (Str × Value)) (m : Str → Option Value) : Str → Option Value := fun y => match ps.lookup y with | some v => some v | none => m y
theorem ov_eq {ps : List (Str × Value)} {m : Str → Option Value} (h : ∀ q ∈ ps, m q.1 = some q.2) : ov ps m = m := by
  funext y
  unfold ov
  split
  · rename_i v e
    obtain ⟨a, b, h1, h2⟩ := List.lookup_eq_some_iff.mp e
    have := h (y, v) (by rw [h1]; simp)
    exact this.symm
  · rfl
theorem fr_ov {g h : Heap} {L : Addr} {ps : List (Str × Value)} {m : Str → Option Value} (F : Fr g L h m) (hm : ∀ q ∈ ps, m q.1 = some q.2) : Fr g L h (ov ps m) := by rw [ov_eq hm]; exact F
theorem all_nil {α : Type} {P : α → Prop} : ∀ q ∈ ([] : List α), P q := fun _ h => nomatch h
theorem all_cons {α : Type} {P : α → Prop} {a : α} {r : List α} (h : P a) (hr : ∀ q ∈ r, P q) : ∀ q ∈ a :: r, P q := fun q hq => by
  rcases List.mem_cons.mp hq with rfl | hq
  · exact h
  · exact hr q hq
theorem all_set {P : Value → Prop} {vs : List Value} {j : Nat} {v : Value} (h : ∀ x ∈ vs, P x) (hv : P v) : ∀ x ∈ vs.set j v, P x := fun x hx => by
  rcases List.mem_or_eq_of_mem_set hx with hx | rfl
  · exact h x hx
  · exact hv
theorem fn_call {w : World} {f : Addr} {d : Nat} {pos : List Value} {kw : List (Str × Value)} {ro own rest news : Led} {P : Value → Led → Prop} {p : Program} {loose : List Str} {mean : ExcName → Option Value} {mg mb : Str → Option Value}
    {dp un : Nat} {fr : Option (List Env)} {gd : Option (List Code)} {s : Shared} {h₀ : Heap} {L : Addr} {m : Str → Option Value} {Q E : Value → Shared → Prop}
    (C : FnR w f d ⟨pos, kw⟩ ro own P) (X : (Mine.hd.heap_1 w.params).In h₀) (T : Top p loose mean mg mb h₀) (F : Fr h₀ L s.heap m) (N : News h₀ L s.heap news)
    (ho : ∀ q ∈ own, q ∈ news) (hro : ∀ q ∈ ro, s.heap.get? q.1 = some q.2 ∧ q.1 ∉ own.map (·.1)) (hr : ∀ q ∈ rest, q ∈ news ∧ ∀ r ∈ own, q.1 ≠ r.1)
    (hdp : dp + d < recursionLimit) (hun : un + 8 * d < cLine)
    (hret : ∀ v own' h' tk', P v own' → Fr h₀ L h' m → News h₀ L h' (own' ++ rest) → (∀ q ∈ own', q.1 ∈ own.map (·.1) ∨ ((∀ r ∈ news, r.1 ≠ q.1))) → Q v { s with heap := h', toks := tk' }) :
    wpAny (model PySem.Challenge.rw_kq0059_01.prog w) (arnd dp un fr gd) (call (.ref f) pos kw) Q E s :=
  wpAny_call (fn_use C X T F N ho hro hr hdp hun hret)
theorem my_len {prog : Program} {w : World} {A : Around} {E : Value → Shared → Prop} {s : Shared} {h₀ : Heap} {L D : Addr} {news : Led} {vs : List Value} {n : Nat} {Q : Value → Shared → Prop}
    (N : News h₀ L s.heap news) (hm : (D, listOf vs.toArray n) ∈ news) (hfit : vs.length < 2 ^ 62) (h : Q (.int (vs.length : Nat) (s.toks + 1)) { s with toks := s.toks + 1 + 1 }) :
    wpAny (model prog w) A (call (.builtin "len") [.ref D]) Q E s :=
  len_list (PySem.IsL.isList (n := n) (N _ hm).1) (by rw [List.size_toArray]; omega) (by rw [List.size_toArray]; exact h)
theorem all_getD {S : Value → Prop} {vs : List Value} {j : Nat} (h : ∀ y ∈ vs, S y) (hj : j < vs.length) : S (vs.getD j Value.none) := h _ (getD_mem hj)
theorem ro_for {g h : Heap} {L : Addr} {m : Str → Option Value} {ro own news : Led} (F : Fr g L h m) (N : News g L h news) (hro : ∀ q ∈ ro, g.get? q.1 = some q.2) (ho : ∀ q ∈ own, q ∈ news) : ∀ q ∈ ro, h.get? q.1 = some q.2 ∧ q.1 ∉ own.map (·.1) := fun q hq =>
  ⟨F.keep _ _ (hro q hq), fun hm => by
    obtain ⟨r, hr, e⟩ := List.mem_map.mp hm
    have := (N r (ho r hr)).2.2
    rw [e, hro q hq] at this
    cases this⟩
theorem fn_enterC {w : World} {f : Addr} {d : Nat} {args : Args} {ro own : Led} {P : Value → Led → Prop}
    {name qual : Str} {params : Arguments} {body : List Stmt} {scope : Scope} {dV kV doc pm cdv ct oc : Value} {an od : Option Addr} {osl : Array (Option Value)} {binds : List (Str × Value)}
    (ho : (Mine.hd.heap_1 w.params).lookup f = some ⟨oc, od, .func (fnOf name qual params body scope dV kV doc pm an cdv ct), osl⟩) (hcd : codeIn (Mine.hd.heap_1 w.params) cdv qual = true)
    (hd : 0 < d)
    (hbind : ∀ s : Shared, (Mine.hd.heap_1 w.params).In s.heap → BindsTo s (fnOf name qual params body scope dV kV doc pm an cdv ct) args binds)
    (hkind : (binds.all fun y => scope.names.lookup y.1 == some .local || scope.names.lookup y.1 == some .cell) = true)
    (hnd : ((cellsFrom 0 scope.names []).map (·.1)).Nodup)
    (hbody : ∀ (p : Program) (loose : List Str) (mean : ExcName → Option Value) (mg mb : Str → Option Value) (dp un : Nat) (fr : Option (List Env)) (gd : Option (List Code)) (s₁ : Shared) (h : Heap) (tk : Nat) (g : Heap) (L : Addr) (cells : Led),
      (Mine.hd.heap_1 w.params).In g → Top p loose mean mg mb g → Fr g L h (bindL (envOfC qual scope L f cdv).kindOf binds fun _ => none) → News g L h (cells ++ own) → CellsAre (bindC (envOfC qual scope L f cdv).kindOf binds fun _ => none) (cellsFrom (L + 1) scope.names []) cells →
      (∀ q ∈ own, q.1 < L) → (∀ q ∈ ro, g.get? q.1 = some q.2) →
      dp + d < recursionLimit + 1 → un + 8 * d < cLine + 3 →
      wpAny (model PySem.Challenge.rw_kq0059_01.prog w) (arnd dp un fr gd) (execs body (envOfC qual scope L f cdv)) (fun fl s' => FnEnd g L (fun v o => ∃ o', P v o' ∧ ∀ q ∈ o', q ∈ o) (match fl with | .ret v => v | _ => .none) s' s₁) (fun _ _ => False) { s₁ with heap := h, toks := tk })
    (hco : scope.isCoroutine = false) (hgen : scope.isGenerator = false) (hk : scope.kind = .function) : FnR w f d args ro own P := by
  intro p loose mean mg mb dp un fr gd s base R X T st hown hro hdp hun hret
  have X' : (Mine.hd.heap_1 w.params).In s.heap := X.keeps st
  refine codeAny_call_function (by show dp < recursionLimit; omega) (X' _ _ ho) rfl hco hgen rfl (codeRec_of X' hcd) ?_
  refine hbind s X' _ _ _ _ ?_
  refine wpAny_newFunctionEnv_cells hk (kindsX hkind _) fun env' he s' x => ?_
  subst he
  refine ⟨(T.nolimit.keeps st).keeps x.toInCall.keep, codeAny_func ?_⟩
  obtain ⟨h₁, tk, rfl, _⟩ := x.done
  have hk₁ := x.toInCall.keep
  obtain ⟨cells, NC, Y⟩ := Cl.news (h₀ := s.heap) (Nat.le_refl _) fun n c hm => ⟨x.cell n c (lookup_of_mem_nodup (cellsFrom_names scope.names 0 (s.heap.objs.size + 1) [] [] rfl ▸ hnd) hm), x.above n c hm⟩
  have nm : ∀ b o, base.get? b = some o → b ∉ own.map (·.1) := fun b o e q => by
    obtain ⟨p, hp, rfl⟩ := List.mem_map.mp q
    rw [(hown p hp).2] at e; cases e
  have stg : base.StaysIn (hideAll s.heap (own.map (·.1))) := fun b o e => hideAll_get _ (st b o e) (nm b o e)
  have NG : News (hideAll s.heap (own.map (·.1))) s.heap.objs.size h₁ (cells ++ own) := fun q hq => by
    rcases List.mem_append.mp hq with hq | hq
    · refine ⟨(NC q hq).1, (NC q hq).2.1, ?_⟩
      cases e : (hideAll s.heap (own.map (·.1))).get? q.1 with
      | none => rfl
      | some o => have := of_hideAll _ e; rw [(NC q hq).2.2] at this; cases this
    · exact ⟨hk₁ _ _ (hown q hq).1, Nat.ne_of_lt (Heap.lt_size (hown q hq).1), hideAll_none _ (List.mem_map_of_mem hq)⟩
  have z := hbody p loose mean mg mb (dp + 1) (un + 3) (fr.map (envOfC qual scope s.heap.objs.size f cdv :: ·)) gd s h₁ tk _ _ cells (X.keeps stg) (T.keeps stg)
    ⟨x.toInCall.ns, fun b o e => hk₁ b o (of_hideAll _ e), Nat.le_of_eq (hideAll_size _ _)⟩ NG Y
    (fun q hq => Heap.lt_size (hown q hq).1) (fun q hq => hideAll_get _ (hro q hq).1 (hro q hq).2) (by omega) (by omega)
  refine wpAny_mono z (fun fl s' hl => ?_) (fun _ _ x => x.elim)
  obtain ⟨h', tk', m', own', rfl, F', N', o', hP, ho'⟩ := hl
  refine hret _ o' h' tk' hP ⟨fun b o e hb => F'.keep b o (hideAll_get _ e hb), fun q hq => (N' q (ho' q hq)).1, fun q hq => ?_⟩
  by_cases hm : q.1 ∈ own.map (·.1)
  · exact .inl hm
  · right
    cases e : s.heap.get? q.1 with
    | none => rfl
    | some o =>
      have := (N' q (ho' q hq)).2.2
      rw [hideAll_get _ e hm] at this
      cases this
theorem fn_sub {w : World} {f : Addr} {d : Nat} {args : Args} {ro own : Led} {P : Value → Led → Prop} (C : FnR w f d args ro own (fun v o => ∃ o', P v o' ∧ ∀ q ∈ o', q ∈ o)) : FnR w f d args ro own P := by
  intro p loose mean mg mb dp un fr gd s base R X T st hown hro hdp hun hret
  refine C p loose mean mg mb dp un fr gd s base R X T st hown hro hdp hun fun v own' h' tk' hP A => ?_
  obtain ⟨o', hP, hs⟩ := hP
  exact hret v o' h' tk' hP ⟨A.keep, fun q hq => A.has q (hs q hq), fun q hq => A.new q (hs q hq)⟩
end
noncomputable section
set_option maxRecDepth 100000
section
variable {prog : Program} {w : World} {A : Around} {E : Value → Shared → Prop} {s : Shared}
theorem sub_rit_reversed : isSubtype (.type "range_iterator") (.type "reversed") = pure false := by rw [isSubtype_type]; kernel_rfl
noncomputable def ritObj (x left step : Int) : Obj := { cls := .type "range_iterator", data := .fields #[rawInt x, rawInt left, rawInt step] }
theorem call_range_reversed {r : Addr} {b : Int} {t u v : Tok} {Q : Value → Shared → Prop} (hr : IsRange s.heap r 0 b 1 t u v) (h0 : 0 ≤ b) (h1 : b < 2 ^ 62)
    (h : Q (.ref s.heap.objs.size) { s with heap := s.heap.push (ritObj (b - 1) b (-1)) }) : wpAny (model prog w) A (call (.builtin "range.__reversed__") [.ref r]) Q E s := by
  have hT : s.TypeIs (.ref r) "range" := ⟨_, hr, rfl⟩
  have hsz : Builtin.Range.rangeSize 0 b 1 = b := by rw [rangeSize_one]; split <;> omega
  refine wpAny_call_entry F.slot_range_reversed hT F.entry_range_reversed ?_ (F.args_range_reversed_1 _)
  unfold Builtin.«range.__reversed__»
  refine wpAny_bind (wpAny_of_eq (a := Value.ref r) rfl ?_)
  unfold Builtin.Range.rangeFields
  refine wpAny_bind ?_
  refine wpAny_bind (wpAny_field hr rfl (x := .int 0 t) rfl ?_)
  refine wpAny_bind (wpAny_of_eq (a := some 0) rfl ?_)
  refine wpAny_bind (wpAny_field hr rfl (x := .int b u) rfl ?_)
  refine wpAny_bind (wpAny_of_eq (a := some b) rfl ?_)
  refine wpAny_bind (wpAny_field hr rfl (x := .int 1 v) rfl ?_)
  refine wpAny_bind (wpAny_of_eq (a := some 1) rfl ?_)
  refine wpAny_pure ?_
  dsimp only
  rw [hsz]
  have hs : (Builtin.Range.rangeFitsLong 0 && Builtin.Range.rangeFitsLong b && Builtin.Range.rangeFitsLong 1 && Builtin.Range.rangeFitsLong (-1) && Builtin.Range.rangeFitsLong (0 - 1) && Builtin.Range.rangeFitsLong b) = true := by
    simp only [Builtin.Range.rangeFitsLong, Bool.and_eq_true, decide_eq_true_eq]
    omega
  rw [hs]
  simp only [Bool.not_true, Bool.false_eq_true, if_false, if_true]
  refine wpAny_bind (wpAny_newObj_type (wpAny_pure ⟨_, rfl, ?_⟩))
  have e : (0 : Int) + (b - 1) * 1 = b - 1 := by omega
  rw [e]
  exact h
theorem code_reversed_range {r : Addr} {b : Int} {t u v : Tok} {Q₁ : Value → Shared → Prop} (hr : IsRange s.heap r 0 b 1 t u v) (h0 : 0 ≤ b) (h1 : b < 2 ^ 62)
    (h : Q₁ (.ref s.heap.objs.size) { s with heap := s.heap.push (ritObj (b - 1) b (-1)) }) :
    codeAny (model prog w) A (.call (.builtin "reversed.__new__") ⟨[.type "reversed", .ref r], []⟩) (wants Q₁ E) s := by
  have hT : s.TypeIs (.ref r) "range" := ⟨_, hr, rfl⟩
  refine codeAny_of_tree ?_
  show wpAny _ A.in1 (do checkBuiltinCall "reversed.__new__" ⟨[.type "reversed", .ref r], []⟩; again (.builtin "reversed.__new__" ⟨[.type "reversed", .ref r], []⟩)) _ _ s
  refine wpAny_bind (wpAny_of_eq (F.newCall_reversed_1 _) (wpAny_pure ⟨plainId_quiet F.plain_reversed_new _, codeAny_builtin F.entry_reversed_new ?_⟩))
  rw [Around.under_plainId F.plain_reversed_new _]
  unfold Builtin.«reversed.__new__»
  refine wpAny_bind (wpAny_of_eq (newClass_reversed _) ?_)
  try dsimp only
  refine wpAny_bind (wpAny_of_eq (a := ()) (by first | rfl | kernel_rfl) ?_)
  refine wpAny_bind (wpAny_of_eq (a := ()) (by first | rfl | kernel_rfl) ?_)
  try dsimp only
  refine wpAny_bind (wpAny_specialOf hT F.slot_range_reversed.lookup ?_)
  try dsimp only
  refine wpAny_bind (wpAny_of_eq (F.slot_range_reversed.bind _) ?_)
  try dsimp only
  first
  | rw [if_neg (show ¬ ((Value.builtin "range.__reversed__" == Value.none) = true) from Bool.false_ne_true)]
  | (show wpAny _ _ (if (Value.builtin "range.__reversed__" == Value.none) = true then _ else _) _ _ _; rw [if_neg (show ¬ ((Value.builtin "range.__reversed__" == Value.none) = true) from Bool.false_ne_true)])
  refine wpAny_bind (wpAny_rule ?_)
  refine wpAny_bind (m := runValue (.call (.builtin "range.__reversed__") ⟨[.ref r], []⟩)) (show wpAny _ _ (call (.builtin "range.__reversed__") [.ref r]) _ _ _ from call_range_reversed hr h0 h1 ?_)
  first
  | exact wpAny_pure h
  | exact wpAny_bind (wpAny_pure (wpAny_pure h))
theorem call_reversed_range {r : Addr} {b : Int} {t u v : Tok} {Q : Value → Shared → Prop} (hr : IsRange s.heap r 0 b 1 t u v) (h0 : 0 ≤ b) (h1 : b < 2 ^ 62)
    (h : Q (.ref s.heap.objs.size) { s with heap := s.heap.push (ritObj (b - 1) b (-1)) }) : wpAny (model prog w) A (call (.type "reversed") [.ref r]) Q E s := by
  refine callType_other (U := "range_iterator") (Q₁ := fun obj s₁ => obj = .ref s.heap.objs.size ∧ s₁ = { s with heap := s.heap.push (ritObj (b - 1) b (-1)) }) (by decide +kernel) F.create_reversed ⟨_, _, F.mro_reversed⟩ F.made_reversed sub_rit_reversed (F.typeCall_reversed_1 _) (code_reversed_range hr h0 h1 ⟨rfl, rfl⟩) ?_
  rintro obj s₁ ⟨rfl, rfl⟩
  exact ⟨⟨_, Heap.get?_push_size _ rfl, rfl⟩, h⟩
theorem my_reversed {r : Addr} {b : Int} {t u v : Tok} {h₀ : Heap} {L : Addr} {m : Str → Option Value} {news : Led} {Q : Value → Shared → Prop} (F : Fr h₀ L s.heap m) (N : News h₀ L s.heap news) (hr : IsRange s.heap r 0 b 1 t u v) (h0 : 0 ≤ b) (h1 : b < 2 ^ 62)
    (h : ∀ D h', Fr h₀ L h' m → News h₀ L h' ((D, ritObj (b - 1) b (-1)) :: news) → (∀ p ∈ news, p.1 < D) → Q (.ref D) { s with heap := h' }) : wpAny (model prog w) A (call (.type "reversed") [.ref r]) Q E s :=
  call_reversed_range hr h0 h1 (h _ _ (F.push _) (News.push F N _) fun p hp => Heap.lt_size (N p hp).1)
/-- a loop over a range iterator of the ledger (n turns, from x by step) -/
theorem my_forRit {env : Env} {h₀ : Heap} {x : Str} {body : List Stmt} {Q : Flow → Shared → Prop} {I : Addr} {a c : Int} {n : Nat} {m₀ : Str → Option Value} {news : Led} (J : Nat → (Str → Option Value) → Led → Prop) (hh : A.handled = none)
    (F : Fr h₀ env.locals s.heap m₀) (N : News h₀ env.locals s.heap ((I, ritObj a n c) :: news)) (hI : ∀ p ∈ news, p.1 ≠ I) (hj : J 0 m₀ news)
    (turn : ∀ i t m₁ news₁ h tk own, i < n → news₁.map (·.1) = news.map (·.1) → OwnOff own (news.map (·.1)) → J i m₁ news₁ → Fr h₀ env.locals h (fun y => if y = x then some (.int (a + i * c) t) else m₁ y) → News h₀ env.locals h (news₁ ++ own) →
      wpAny (model prog w) A (execs body env) (InvPostN h₀ env.locals (J (i + 1)) own (news.map (·.1)) { s with heap := h, toks := tk } Q) E { s with heap := h, toks := tk })
    (done : ∀ m₁ news₁ h tk, J n m₁ news₁ → Fr h₀ env.locals h m₁ → News h₀ env.locals h news₁ → Q .next { s with heap := h, toks := tk }) :
    wpAny (model prog w) A (pyIter (.ref I)) (fun it s₂ => LoopAtV prog w A h₀ env x body Q E it s₂) E s := by
  have hIx := N _ (List.mem_cons_self ..)
  have st0 : IsRangeIter s.heap I (a + (0 : Nat) * c) ((n : Int) - (0 : Nat)) c := by
    have e1 : a + ((0 : Nat) : Int) * c = a := by simp
    have e2 : (n : Int) - ((0 : Nat) : Int) = n := by simp
    rw [e1, e2]; exact hIx.1
  refine (Walks.range (prog := prog) (w := w) hh I a c n).self 0 s _ _ st0 ?_
  refine loop_invN J (Walks.range (prog := prog) (w := w) hh I a c n) ?_ ?_ ?_ ?_ st0 F (fun p hp => N p (List.mem_cons_of_mem _ hp)) hj ?_ done
  · intro hm; exact hIx.2.1 (List.mem_singleton.mp hm).symm
  · intro b hb; rw [List.mem_singleton.mp hb]; exact hIx.2.2
  · intro p hp hm; exact hI p hp (List.mem_singleton.mp hm)
  · intro p hp hm; exact hI p hp (List.mem_singleton.mp hm)
  · rintro i v m₁ news₁ h tk own hin ⟨t, rfl⟩ e1 e2 hJ F' N'
    exact turn i t m₁ news₁ h tk own hin e1 e2 hJ F' N'
end
section
variable {h₀ : Heap} {L : Addr} {J : (Str → Option Value) → Led → Prop} {own nx news' : Led} {adr : List Addr} {s₁ : Shared} {Q : Flow → Shared → Prop} {h' : Heap} {tk : Nat} {m' : Str → Option Value}
theorem inv_next (F : Fr h₀ L h' m') (N : News h₀ L h' news') (hJ : HeldP (∃ nx, news' = nx ++ own ∧ nx.map (·.1) = adr ∧ J m' nx)) : InvPostN h₀ L J own adr s₁ Q .next { s₁ with heap := h', toks := tk } := by
  obtain ⟨nx, rfl, ha, hj⟩ := hJ.out
  exact ⟨h', tk, m', _, nx, rfl, F, N, fun p hp => List.mem_append_left _ hp, fun p hp => List.mem_append_right _ hp, ha, hj⟩
theorem inv_cont (F : Fr h₀ L h' m') (N : News h₀ L h' news') (hJ : HeldP (∃ nx, news' = nx ++ own ∧ nx.map (·.1) = adr ∧ J m' nx)) : InvPostN h₀ L J own adr s₁ Q .cont { s₁ with heap := h', toks := tk } := by
  obtain ⟨nx, rfl, ha, hj⟩ := hJ.out
  exact ⟨h', tk, m', _, nx, rfl, F, N, fun p hp => List.mem_append_left _ hp, fun p hp => List.mem_append_right _ hp, ha, hj⟩
theorem inv_brk {s₂ : Shared} (h : Q .next s₂) : InvPostN h₀ L J own adr s₁ Q .brk s₂ := h
theorem inv_ret {s₂ : Shared} {v : Value} (h : Q (.ret v) s₂) : InvPostN h₀ L J own adr s₁ Q (.ret v) s₂ := h
theorem off_one {l : Addr} {own : Led} {o o' : Obj} (h : OwnOff own (([(l, o)] : Led).map (·.1))) : ∀ q ∈ own, ∀ r ∈ ([(l, o')] : Led), q.1 ≠ r.1 := fun q hq r hr => by
  rw [List.mem_singleton.mp hr]
  exact h q hq l (List.mem_singleton.mpr rfl)
end
section
variable {prog : Program} {w : World} {A : Around} {E : Value → Shared → Prop} {s : Shared} {h₀ : Heap} {L D : Addr} {m : Str → Option Value} {news news' : Led} {vs : List Value} {n : Nat}
theorem my_pop {Q : Value → Shared → Prop} (F : Fr h₀ L s.heap m) (N : News h₀ L s.heap news) (U : Upd D (listOf vs.toArray n) (listOf vs.dropLast.toArray (n + 1)) news news') (h0 : 0 < vs.length) (hz : vs.length ≤ 2 ^ 24)
    (h : ∀ h', Fr h₀ L h' m → News h₀ L h' news' → Q (vs.getD (vs.length - 1) Value.none) { s with heap := h' }) : wpAny (model prog w) A (call (.builtin "list.pop") [.ref D]) Q E s := by
  have e : vs.dropLast ++ [vs.getD (vs.length - 1) Value.none] = vs := by
    have hne : vs ≠ [] := by intro q; rw [q] at h0; exact absurd h0 (Nat.lt_irrefl 0)
    rw [List.getD_eq_getElem?_getD, List.getElem?_eq_getElem (by omega)]
    have := List.dropLast_concat_getLast hne
    rw [List.getLast_eq_getElem hne] at this
    exact this
  refine kl_pop F N (p := vs.dropLast) (y := vs.getD (vs.length - 1) Value.none) ?_ U (by rw [sizeLine_eq]; simpa using hz) h
  have := kpa_last (vs.getD (vs.length - 1) Value.none) vs.dropLast
  rw [e] at this
  simpa using this
theorem my_truthy {Q : Bool → Shared → Prop} (N : News h₀ L s.heap news) (hm : (D, listOf vs.toArray n) ∈ news) (hfit : vs.length < 2 ^ 62) (h : Q (decide (0 < vs.length)) { s with toks := s.toks + 1 + 1 }) :
    wpAny (model prog w) A (truthy (.ref D)) Q E s := by
  refine wpAny_truthy_list (PySem.IsL.isList (n := n) (N _ hm).1) (by rw [List.size_toArray]; omega) ?_
  have e : (decide (0 < vs.length)) = (!vs.toArray.isEmpty) := by
    cases vs with
    | nil => rfl
    | cons a r => simp
  rw [← e]
  exact h
end
section
variable {prog : Program} {w : World} {A : Around} {E : Value → Shared → Prop} {s : Shared}
theorem my_fdiv {x k : Nat} {c : Int} {t u : Tok} {Q : Value → Shared → Prop} (hc : c = (k : Int)) (hk : 0 < k) (hx : k < 1073741824) (h : ∀ t', Q (.int ((x / k : Nat) : Int) t') { s with toks := s.toks + 1 }) : wpAny (model prog w) A (binaryOp .FloorDiv (.int (x : Int) t) (.int c u)) Q E s := by
  subst hc
  refine floordiv_int (by omega) ?_ (Or.inl (PyProof.noPylong_small (by omega)))
  have e : Int.fdiv (x : Int) (k : Int) = ((x / k : Nat) : Int) := by
    rw [Int.fdiv_eq_ediv_of_nonneg _ (by omega)]; rfl
  rw [e]; exact h _
theorem my_fmod {x k : Nat} {c : Int} {t u : Tok} {Q : Value → Shared → Prop} (hc : c = (k : Int)) (hk : 0 < k) (h : ∀ t', Q (.int ((x % k : Nat) : Int) t') { s with toks := s.toks + 1 }) : wpAny (model prog w) A (binaryOp .Mod (.int (x : Int) t) (.int c u)) Q E s := by
  subst hc
  refine mod_int (by omega) ?_
  have e : Int.fmod (x : Int) (k : Int) = ((x % k : Nat) : Int) := by
    rw [Int.fmod_eq_emod_of_nonneg _ (by omega)]; rfl
  rw [e]; exact h _
theorem ite_no {c : Prop} [Decidable c] {a b : Prop} (hc : ¬ c) (h : b) : if c then a else b := by rw [if_neg hc]; exact h
theorem ite_yes {c : Prop} [Decidable c] {a b : Prop} (hc : c) (h : a) : if c then a else b := by rw [if_pos hc]; exact h
end
/-- a try whose body does not raise -/
theorem my_try {prog : Program} {w : World} {A : Around} {E : Value → Shared → Prop} {s : Shared} {env : Env} {body orelse : List Stmt} {h₀ : ExceptHandler} {hs : List ExceptHandler} {pos : Pos} {Q : Flow → Shared → Prop}
    (h : wpAny (model prog w) A (execs body env) (fun f s' => match f with | .next => wpAny (model prog w) A (execs orelse env) Q E s' | f => Q f s') (fun _ _ => False) s) :
    wpAny (model prog w) A (exec (.Try body (h₀ :: hs) orelse [] pos) env) Q E s := by
  refine wpAny_Try_except ?_
  refine wpAny_mono h (fun f s' hf => ?_) fun _ _ x => x.elim
  cases f <;> exact hf
end
noncomputable section
set_option maxRecDepth 100000
theorem slot_bytes_lt : Slot "bytes" (cmpInfo .Lt).2.1 "bytes.__lt__" :=
  .of (owner := "bytes") (n := "__lt__") (by rw [typeLookup_type, builtinLookup_eq_fast]; kernel_rfl) (by decide +kernel) (by decide +kernel) (by decide +kernel)
    (by first | exact .inl (by decide +kernel) | exact .inr (by decide +kernel)) (by rw [isSubtype_type]; kernel_rfl)
theorem entry_bytes_lt : entryFor table "bytes.__lt__" = some Builtin.«bytes.__lt__» := entryFor_of_tree (by kernel_rfl)
theorem args_bytes_lt_2 (a b : Value) : argsOk "bytes.__lt__" ⟨[a, b], []⟩ := by
  unfold argsOk; rw [signature?_of (id := "bytes.__lt__") (n := ['_', '_', 't', 'l', '_', '_']) (o := ['s', 'e', 't', 'y', 'b']) (by kernel_rfl) FB.owner_bytes]; kernel_rfl
theorem gives_bytes_lt (b c : Array UInt8) (t u : Tok) : Gives (Builtin.«bytes.__lt__» ⟨[.bytes b t, .bytes c u], []⟩) (.val (.bool (blt b.toList c.toList))) := by
  refine .of_wp fun M A E s Q hq => ?_
  show wpAny M A (isInstance (.bytes c u) (.type "bytes") >>= fun r => _) _ E s
  refine wpAny_bind (wpAny_isInstance (typeIs_bytes s c u) F.sub_bytes_bytes ?_)
  exact wpAny_pure ⟨_, rfl, hq⟩
section
variable {prog : Program} {w : World} {A : Around} {E : Value → Shared → Prop} {s : Shared} {b c : Array UInt8} {t u : Tok}
theorem lt_bytes {Q : Value → Shared → Prop} (h : Q (.bool (blt b.toList c.toList)) s) : wpAny (model prog w) A (compareOp .Lt (.bytes b t) (.bytes c u)) Q E s :=
  compareOp_gives (op := .Lt) (typeIs_bytes s b t) (typeIs_bytes s c u) slot_bytes_lt entry_bytes_lt (args_bytes_lt_2 _ _) (gives_bytes_lt b c t u) (fun e => nomatch e) h
theorem call_bytes_lt {Q : Value → Shared → Prop} (h : Q (.bool (blt b.toList c.toList)) s) : wpAny (model prog w) A (call (.builtin "bytes.__lt__") [.bytes b t, .bytes c u]) Q E s := by
  refine wpAny_call_entry slot_bytes_lt (typeIs_bytes s b t) entry_bytes_lt ?_ (args_bytes_lt_2 _ _)
  show wpAny _ _ (isInstance (.bytes c u) (.type "bytes") >>= fun r => _) _ _ s
  refine wpAny_bind (wpAny_isInstance (typeIs_bytes s c u) F.sub_bytes_bytes ?_)
  exact wpAny_pure ⟨_, rfl, h⟩
theorem oneLt_bytes {Q : Bool → Shared → Prop} (h : Q (blt b.toList c.toList) s) : wpAny (model prog w) A (oneLt' true (.bytes b t) (.bytes c u)) Q E s := by
  rw [oneLt'_eq]
  simp only [if_true]
  refine wpAny_bind (wpAny_cRoomFor_byValue rfl ?_)
  refine wpAny_bind (wpAny_callSpecialIfBound?_slot (typeIs_bytes s b t) slot_bytes_lt (call_bytes_lt ?_))
  exact wpAny_truthy_bool h
end
@[reducible] noncomputable def bytesKind : KeyKind where
  α := List UInt8
  blt := blt
  irrefl := blt_irrefl
  trans := blt_trans
  negTrans := fun a b c h => blt_neg a b c h
  total := blt_total
  keyOf v := match v with | .bytes x _ => some x.toList | _ => none
  dflt := []
theorem bytesKind_oneLt : bytesKind.OneLt := by
  intro prog w A E s x y a b Q ha hb h
  cases x <;> simp only [bytesKind, reduceCtorEq, Option.some.injEq] at ha
  cases y <;> simp only [bytesKind, reduceCtorEq, Option.some.injEq] at hb
  cases ha; cases hb
  exact oneLt_bytes h
theorem mapM_first_bytes : ∀ {vs : List Value}, (∀ v ∈ vs, IsB v) → vs.mapM firstOfTuple' = pure (vs.map fun _ => none)
  | [], _ => by simp
  | v :: r, h => by
    obtain ⟨b, t, rfl⟩ := h v (.head _)
    rw [List.mapM_cons, mapM_first_bytes fun x hx => h x (.tail _ hx)]
    show (pure none >>= fun b => pure _ >>= fun bs => pure (b :: bs)) = _
    simp
theorem mapM_typeOf_bytes : ∀ {vs : List Value}, (∀ v ∈ vs, IsB v) → vs.mapM typeOf = pure (vs.map fun _ => Value.type "bytes")
  | [], _ => by simp
  | v :: r, h => by
    obtain ⟨b, t, rfl⟩ := h v (.head _)
    rw [List.mapM_cons, mapM_typeOf_bytes fun x hx => h x (.tail _ hx)]
    show (pure (Value.type "bytes") >>= fun b => pure _ >>= fun bs => pure (b :: bs)) = _
    simp
theorem keyKind_bytes {v₁ v₂ : Value} {vs : List Value} (hS : ∀ v ∈ v₁ :: v₂ :: vs, IsB v) : keyKind' (v₁ :: v₂ :: vs).toArray = pure oneType' := by
  rw [keyKind'_eq, List.mapM_toArray, mapM_first_bytes hS]
  simp only [map_pure, pure_bind]
  rw [if_neg (by simp), if_neg (by simp)]
  rw [oneTypeOnly'_eq, List.mapM_toArray, mapM_typeOf_bytes hS]
  simp only [map_pure, pure_bind]
  have hall : ((List.map (fun _ => Value.type "bytes") (v₁ :: v₂ :: vs)).toArray.all fun x => x == Value.type "bytes") = true := by
    simp only [List.all_toArray, List.all_map, List.all_eq_true]
    intro _ _
    rfl
  have h0 : (List.map (fun _ => Value.type "bytes") (v₁ :: v₂ :: vs)).toArray[0]? = some (Value.type "bytes") := by simp
  rw [h0]
  simp only [hall, if_true, pure_bind, Option.isSome_some]
theorem sorted_out_bytes {vs : List Value} (hS : ∀ v ∈ vs, IsB v) {xs : Array Keyed} (hp : xs.Perm (pairsOf vs)) (hs : SortedToK bytesKind xs (pairsOf vs).size) :
    (xs.map (·.2)).toList.Perm vs ∧ (xs.map (·.2)).toList.Pairwise (fun a b => vlt b a = false) := by
  have hl : xs.toList.Perm (vs.zip vs) := by rw [← pairsOf_toList]; exact Array.perm_iff_toList_perm.mp hp
  have hmem : ∀ p, p ∈ xs.toList → p.1 = p.2 ∧ p.1 ∈ vs := fun p hp' => mem_zip_self (hl.mem_iff.mp hp')
  refine ⟨?_, ?_⟩
  · rw [Array.toList_map]
    have h1 := hl.map (·.2)
    rwa [List.map_snd_zip (Nat.le_refl _)] at h1
  · rw [Array.toList_map, List.pairwise_iff_getElem]
    intro i j hi hj hij
    have hi' : i < xs.size := by simpa using hi
    have hj' : j < xs.size := by simpa using hj
    have h1 := hs i j (Nat.le_of_lt hij) (by rw [← hp.size_eq]; exact hj')
    have m1 := hmem xs[i] (by simp)
    have m2 := hmem xs[j] (by simp)
    obtain ⟨x, t, ex⟩ := hS _ m1.2
    obtain ⟨y, u, ey⟩ := hS _ m2.2
    have k1 : KK bytesKind xs i = x.toList := by unfold KK; rw [getElem?_pos xs i hi']; dsimp only; rw [ex]; rfl
    have k2 : KK bytesKind xs j = y.toList := by unfold KK; rw [getElem?_pos xs j hj']; dsimp only; rw [ey]; rfl
    rw [k1, k2] at h1
    simp only [List.getElem_map, Array.getElem_toList]
    unfold vlt
    rw [← m1.1, ← m2.1, ex, ey]
    exact h1
section
variable {prog : Program} {w : World} {A : Around} {E : Value → Shared → Prop} {s : Shared} {h₀ : Heap} {L l : Addr} {m : Str → Option Value} {news : Led} {vs : List Value} {n : Nat} {Q : Value → Shared → Prop}
theorem my_sorted (F : Fr h₀ L s.heap m) (N : News h₀ L s.heap news) (hm : (l, listOf vs.toArray n) ∈ news) (hS : ∀ v ∈ vs, IsB v) (h64 : vs.length < 64)
    (h : ∀ R h' (out : List Value) e, Fr h₀ L h' m → News h₀ L h' ((R, listOf out.toArray e) :: news) → (∀ p ∈ news, p.1 < R) → out.Perm vs → out.Pairwise (fun a b => vlt b a = false) → out.length = vs.length → Q (.ref R) { s with heap := h' }) :
    wpAny (model prog w) A (call (.builtin "sorted") [.ref l]) Q E s := by
  refine sortedK bytesKind_oneLt (PySem.IsL.isList (n := n) (N _ hm).1) (fun p hp => ?_) (fun v₁ v₂ rest e => keyKind_bytes (by rw [← e]; exact hS)) h64 fun st' hp hs => ?_
  · rw [pairsOf_toList] at hp
    obtain ⟨x, t, e⟩ := hS _ (mem_zip_self hp).2
    exact ⟨x.toList, by rw [e]⟩
  · obtain ⟨h1, h2⟩ := sorted_out_bytes hS hp hs
    generalize (arrOf st').map (·.2) = out at *
    obtain ⟨e, he⟩ := sortedAll_at s.heap vs out
    refine h _ _ out.toList e (F.kept fun _ _ => sortedAll_old) ?_ (fun p hp => Nat.lt_succ_of_lt (Heap.lt_size (N p hp).1)) h1 h2 h1.length_eq
    have he' : (sortedAll s.heap vs out).get? (s.heap.objs.size + 1) = some (listOf out.toList.toArray e) := by rw [Array.toArray_toList]; exact he
    exact N.kept_cons F (fun _ _ => sortedAll_old) (Nat.le_succ _) he'
end
theorem ltOn_bytes (w : World) : LtOn w [] IsB vlt := ⟨fun {A E s Q x y} hx hy _ _ h => by
  obtain ⟨b, t, rfl⟩ := hx
  obtain ⟨c, u, rfl⟩ := hy
  exact lt_bytes (h s.toks)⟩
theorem weak_bytes : Weak IsB vlt := ⟨fun _ _ h => blt_asymm _ _ h, fun _ _ _ h1 h2 => blt_ftrans _ _ _ h1 h2⟩
end
local macro_rules | `(tactic| walk_at "mine enter") => `(tactic| (k_dflt (refine' fn_enter ?k6 ?k7 ?k0 ?k9 ?kB ?_ ?c2 ?c3 ?c4 ?c5; (case k6 => k_is); (case k7 => k_is); (case k0 => decide); (case k9 => intro s X; first | exact BindsTo.of_eq rfl | exact binds_K X rfl (by k_is) rfl rfl rfl | fail "no rule for these arguments"); (case c5 => decide); (case kB => exact locs rfl); (case c2 => exact rfl); (case c3 => exact rfl); (case c4 => exact rfl); k_whole); intro p loose mean mg mb dp un fr gd s₁ h' tk g' L' X' T' F' N' l1 hro hdp hun; (try dsimp only at F' ⊢); (try k_lt l1); (try k_unmd); (try k_fold)))
local macro_rules | `(tactic| walk_at "FnEnd") => `(tactic| (k_dflt (refine' fnEnd_intro ?F ?N ?_; (case F => k_asm); (case N => k_asm))))
local macro_rules | `(tactic| walk_at "compareOp Lt") => `(tactic| (k_dflt (refine' LtOn.cmp ?H ?a ?b ?u ?r ?_; (case H => assumption); (case a => assumption); (case b => assumption); (case u => (simp only [units_in1, units_deeper, Around.mark_units]; omega)); (case r => exact ro_keep (by k_asm) (by assumption)); k_whole); intro tk'))
local macro_rules | `(tactic| walk_at "subscriptTail") => `(tactic| ((with_reducible show wpAny _ _ (subscriptTail _ _ (Value.ref _) (Value.int _ _)) _ _ _); k_dflt (refine' my_sub ?N ?m ?a ?b ?c ?_; (case N => k_asm); (case m => k_mem); (case a => omega); (case b => (first | omega | (simp only [List.length_set]; omega))); (case c => omega); k_whole)))
local macro_rules | `(tactic| walk_at "setItem ref int") => `(tactic| (k_dflt (refine' my_set ?F ?N ?U ?a ?b ?c ?_; (case F => k_asm); (case N => k_asm); (case U => k_upd); (case a => omega); (case b => (first | omega | (simp only [List.length_set]; omega))); (case c => omega); k_whole); intro h' F' N'; (try k_sweep)))
local macro_rules | `(tactic| walk_at "WhileStep2") => `(tactic| (k_dflt (first | ((with_reducible show WhileStep2 _ _ _ _ _ _ Flow.next _); refine' while_next ?F ?N ?_; (case F => k_asm); (case N => k_asm)) | ((with_reducible show WhileStep2 _ _ _ _ _ _ Flow.cont _); refine' while_cont ?F ?N ?_; (case F => k_asm); (case N => k_asm)) | ((with_reducible show WhileStep2 _ _ _ _ _ _ Flow.brk _); refine while_brk ?_; (try dsimp only); (try k_unmd)) | ((with_reducible show WhileStep2 _ _ _ _ _ _ (Flow.ret _) _); refine while_ret ?_; (try dsimp only); (try k_unmd)))))
noncomputable section
set_option maxRecDepth 100000
inductive InvSD (l : Addr) (vs : List Value) (n st : Nat) (t1 : Tok) (S : Value → Prop) (lt : Value → Value → Bool) (x : Value) (FIN : List Value × Nat) (k : Nat) (m : Str → Option Value) (nw : Led) : Prop
  | mk (vs' : List Value) (p f : Nat) (tp : Tok) (e : k = p) (hpf : p ≤ f) (hpl : p < vs.length) (hvl : vs'.length = vs.length) (hvS : ∀ y ∈ vs', S y) (e2 : nw = [(l, listOf vs'.toArray n)])
    (hm : ∀ q ∈ [(Str.ofString "heap", Value.ref l), (Str.ofString "startpos", Value.int (st : Nat) t1), (Str.ofString "pos", Value.int (p : Nat) tp), (Str.ofString "newitem", x)], m q.1 = some q.2) (hFIN : sdLoop lt x st f vs' p = FIN) : InvSD l vs n st t1 S lt x FIN k m nw
set_option maxHeartbeats 8000000 in
theorem siftdown_fn (w : World) {ro : Led} {S : Value → Prop} {lt : Value → Value → Bool} (H : LtOn w ro S lt) (l : Addr) (vs : List Value) (n : Nat) (st pos : Nat) (t1 t2 : Tok)
    (hS : ∀ x ∈ vs, S x) (hpos : pos < vs.length) (hlen : vs.length < 2 ^ 62) :
    FnR w 231 2 ⟨[.ref l, .int (st : Nat) t1, .int (pos : Nat) t2], []⟩ ro [(l, listOf vs.toArray n)] (fun v o => v = .none ∧ o = [(l, listOf (siftdown lt vs st pos).toArray n)]) := by
  walk_at "mine enter"
  rename_i hro hdp hun
  repeat' (first | (k_unfold; (try dsimp only)) | ((fail_if_success (with_reducible show wpAny _ _ (exec (Stmt.While _ _ _ _) _) _ _ _)); first | walk1 | (dsimp only; walk1)))
  rename Fr _ _ _ _ => F
  rename News _ _ _ _ => N
  generalize hx : vs.getD (Int.toNat (pos : Nat)) Value.none = x at *
  have hxS : S x := by
    rw [← hx]
    exact hS _ (by rw [List.getD_eq_getElem?_getD, Int.toNat_natCast, List.getElem?_eq_getElem hpos]; exact List.getElem_mem _)
  have hx' : vs.getD pos Value.none = x := hx
  generalize hFIN' : sdLoop lt x st pos vs pos = FIN
  refine While_inv2 (InvSD l vs n st t1 S lt x FIN) (n₀ := pos)
    F N ⟨vs, pos, pos, t2, rfl, Nat.le_refl _, hpos, rfl, hS, rfl, ?_, hFIN'⟩ ?_ PassesOwn.never
  · simp only [List.forall_mem_cons, List.not_mem_nil, false_implies, implies_true, and_true]
    exact ⟨rfl, rfl, rfl, rfl⟩
  · clear F N
    rintro k m₁ nw h₁ tk₁ F₁ N₁ ⟨vs', p, f, tp, rfl, hpf, hpl, hvl, hvS, rfl, hm, hFIN⟩
    replace F₁ := fr_ov F₁ hm
    (try clear hm)
    k_steps
    · have hk1 : ((k : Int) - 1).fdiv (2 ^ Int.toNat 1) = (((k - 1) / 2 : Nat) : Int) := by
        rw [show (2 : Int) ^ Int.toNat 1 = 2 from rfl, Int.fdiv_eq_ediv_of_nonneg _ (by decide)]
        omega
      simp only [hk1] at *
      have hpS : S (vs'.getD ((k - 1) / 2) Value.none) := by
        refine hvS _ ?_
        rw [List.getD_eq_getElem?_getD, List.getElem?_eq_getElem (by omega)]
        exact List.getElem_mem _
      k_steps
      · refine HeldP.mk ⟨(k - 1) / 2, by omega, ?_⟩
        rename_i hlt _ _ _ _
        simp only [Int.toNat_natCast] at hlt ⊢
        have hf : f ≠ 0 := by omega
        obtain ⟨f', rfl⟩ := Nat.exists_eq_succ_of_ne_zero hf
        refine ⟨vs'.set k (vs'.getD ((k - 1) / 2) Value.none), (k - 1) / 2, f', ?tk, rfl, by omega, by omega, by rw [List.length_set]; exact hvl, all_set hvS hpS, rfl, ?nm, ?fin⟩
        case nm => ((repeat' (first | exact all_nil | (refine all_cons ?_ ?_; (focus (with_unfolding_all rfl))))))
        case fin => rw [← hFIN, sdLoop, if_pos (by omega), if_pos hlt]
      · refine HeldP.mk ⟨rfl, ?_⟩
        rename_i hlt _ _ _
        simp only [Int.toNat_natCast] at hlt ⊢
        have hf : f ≠ 0 := by omega
        obtain ⟨f', rfl⟩ := Nat.exists_eq_succ_of_ne_zero hf
        rw [sdLoop, if_pos (by omega), if_neg (by simpa using hlt)] at hFIN
        rw [siftdown, hx', hFIN']
        simp only [← hFIN]
    · refine HeldP.mk ⟨rfl, ?_⟩
      rename_i hge _ _ _
      have : sdLoop lt x st f vs' k = (vs', k) := by
        cases f with
        | zero => rfl
        | succ f' => rw [sdLoop, if_neg (by omega)]
      rw [this] at hFIN
      rw [siftdown, hx', hFIN']
      simp only [← hFIN, Int.toNat_natCast]
end
local macro_rules | `(tactic| walk_at "compareOp Lt") => `(tactic| (k_dflt (refine' LtOn.cmp ?H ?a ?b ?u ?r ?_; (case H => assumption); (case a => first | assumption | exact all_getD (by assumption) (by first | omega | (simp only [List.length_set]; omega))); (case b => first | assumption | exact all_getD (by assumption) (by first | omega | (simp only [List.length_set]; omega))); (case u => (simp only [units_in1, units_deeper, Around.mark_units]; omega)); (case r => exact ro_keep (by k_asm) (by assumption)); k_whole); intro tk'))
local macro_rules | `(tactic| walk_at "call builtin:len") => `(tactic| ((with_reducible show wpAny _ _ (call (Value.builtin "len") [Value.ref _]) _ _ _); k_dflt (refine' my_len ?N ?m ?f ?_; (case N => k_asm); (case m => k_mem); (case f => (first | omega | (simp only [List.length_set]; omega))); k_whole)))
local macro_rules | `(tactic| walk_at "mine sB") => `(tactic| ((fail_if_success (with_reducible show wpAny _ _ (exec (Stmt.While _ _ _ _) _) _ _ _)); (fail_if_success (with_reducible show wpAny _ _ (exec (Stmt.For _ _ _ _ _) _) _ _ _)); (fail_if_success (with_reducible show wpAny _ _ (call (Value.ref _) _ _) _ _ _))))
set_option hygiene false in
local macro_rules | `(tactic| walk_at "mine cl") => `(tactic| ((try dsimp only); (try clear qk); (try clear ek)))
set_option hygiene false in
local macro_rules | `(tactic| walk_at "mine fd") => `(tactic| ((fail_if_success (fail_if_success k_fold)); refine fold_let ?_; intro qk))
set_option hygiene false in
local macro_rules | `(tactic| walk_at "mine ld") => `(tactic| first | (with_reducible refine ek_next ?_) | ((first | (with_reducible show wpAny _ _ (exec _ _) _ _ _) | (with_reducible show wpAny _ _ (eval (Expr.Call _ _ _ _) _) _ _ _) | (with_reducible show wpAny _ _ (eval (Expr.BinOp _ _ _ _) _) _ _ _) | (with_reducible show wpAny _ _ (eval (Expr.Compare _ _ _ _) _) _ _ _)); (fail_if_success (fail_if_success k_fold)); refine fold_let ?_; intro qk) | (k_end; wrow_close) | walk1 | (dsimp only; walk1))
noncomputable section
set_option maxRecDepth 100000
inductive InvSU (l : Addr) (vs : List Value) (n pos : Nat) (t2 : Tok) (S : Value → Prop) (lt : Value → Value → Bool) (x : Value) (FIN : List Value × Nat) (k : Nat) (m : Str → Option Value) (nw : Led) : Prop
  | mk (vs' : List Value) (p f : Nat) (tp tc te : Tok) (e : k = vs.length - p) (hpf : vs.length - p ≤ f) (hpl : p < vs.length) (hvl : vs'.length = vs.length) (hvS : ∀ y ∈ vs', S y) (e2 : nw = [(l, listOf vs'.toArray n)])
    (hm : ∀ q ∈ [(Str.ofString "heap", Value.ref l), (Str.ofString "startpos", Value.int (pos : Nat) t2), (Str.ofString "endpos", Value.int (vs.length : Nat) te), (Str.ofString "pos", Value.int (p : Nat) tp), (Str.ofString "childpos", Value.int (2 * (p : Nat) + 1) tc), (Str.ofString "newitem", x)], m q.1 = some q.2) (hFIN : suLoop lt f vs' p = FIN) : InvSU l vs n pos t2 S lt x FIN k m nw
set_option maxHeartbeats 8000000 in
theorem siftup_fn (w : World) {ro : Led} {S : Value → Prop} {lt : Value → Value → Bool} (H : LtOn w ro S lt) (l : Addr) (vs : List Value) (n : Nat) (pos : Nat) (t2 : Tok)
    (hS : ∀ x ∈ vs, S x) (hpos : pos < vs.length) (hlen : vs.length < 2 ^ 60) :
    FnR w 238 4 ⟨[.ref l, .int (pos : Nat) t2], []⟩ ro [(l, listOf vs.toArray n)] (fun v o => v = .none ∧ o = [(l, listOf (siftup lt vs pos).toArray n)]) := by
  walk_at "mine enter"
  rename_i hro hdp hun _
  (((repeat' (first | (k_unfold; walk_at "mine cl") | (walk_at "mine sB"; walk_at "mine ld"))); (all_goals try walk_at "mine fd")))
  rename Fr _ _ _ _ => F
  rename News _ _ _ _ => N
  generalize hx : vs.getD (Int.toNat (pos : Nat)) Value.none = x at *
  have hxS : S x := by rw [← hx]; exact hS _ (getD_mem hpos)
  have hx' : vs.getD pos Value.none = x := hx
  generalize hFIN' : suLoop lt vs.length vs pos = FIN
  refine While_inv2 (InvSU l vs n pos t2 S lt x FIN) (n₀ := vs.length - pos)
    F N ⟨vs, pos, vs.length, t2, ?tc, ?te, rfl, by omega, hpos, rfl, hS, rfl, ?nm, hFIN'⟩ ?turn PassesOwn.never
  case nm => ((repeat' (first | exact all_nil | (refine all_cons ?_ ?_; (focus (with_unfolding_all rfl))))))
  case turn =>
    (try clear F; try clear N)
    rintro k m₁ nw h₁ tk₁ F₁ N₁ ⟨vs', p, f, tp, tc, te, rfl, hpf, hpl, hvl, hvS, rfl, hm, hFIN⟩
    replace F₁ := fr_ov F₁ hm
    (try clear hm)
    (((repeat' (first | (k_unfold; walk_at "mine cl") | (walk_at "mine sB"; walk_at "mine ld"))); (all_goals try walk_at "mine fd")))
    all_goals (
      have e1 : (2 * (p : Int) + 1).toNat = 2 * p + 1 := by omega
      have e2 : (2 * (p : Int) + 1 + 1).toNat = 2 * p + 2 := by omega
      simp only [e1, e2, Int.toNat_natCast] at *
      obtain ⟨f', rfl⟩ : ∃ f', f = f' + 1 := ⟨f - 1, by omega⟩)
    · rename lt _ _ = _ => hlt
      rw [suLoop, if_pos (by omega), if_neg (fun q => Bool.noConfusion (hlt.symm.trans q.2))] at hFIN
      refine HeldP.mk ⟨vs.length - (2 * p + 1), by omega, _, 2 * p + 1, f', ?tp1, ?tc1, ?te1, rfl, by omega, by omega, by rw [List.length_set]; exact hvl, all_set hvS (all_getD hvS (by omega)), rfl, ?nm1, hFIN⟩
      case nm1 => ((repeat' (first | exact all_nil | (refine all_cons ?_ ?_; (focus (with_unfolding_all rfl))))))
    · rename lt _ _ = _ => hlt
      rw [suLoop, if_pos (by omega), if_pos ⟨by omega, hlt⟩] at hFIN
      refine HeldP.mk ⟨vs.length - (2 * p + 2), by omega, _, 2 * p + 2, f', ?tp2, ?tc2, ?te2, rfl, by omega, by omega, by rw [List.length_set]; exact hvl, all_set hvS (all_getD hvS (by omega)), rfl, ?nm2, hFIN⟩
      case nm2 => ((repeat' (first | exact all_nil | (refine all_cons ?_ ?_; (focus (with_unfolding_all rfl))))))
    · rw [suLoop, if_pos (by omega), if_neg (fun q => by omega)] at hFIN
      refine HeldP.mk ⟨vs.length - (2 * p + 1), by omega, _, 2 * p + 1, f', ?tp3, ?tc3, ?te3, rfl, by omega, by omega, by rw [List.length_set]; exact hvl, all_set hvS (all_getD hvS (by omega)), rfl, ?nm3, hFIN⟩
      case nm3 => ((repeat' (first | exact all_nil | (refine all_cons ?_ ?_; (focus (with_unfolding_all rfl))))))
    · rw [suLoop, if_neg (by omega)] at hFIN
      refine fn_call (rest := []) (siftdown_fn w H l (vs'.set p x) n pos p t2 tp (all_set hvS hxS) (by rw [List.length_set]; omega) (by rw [List.length_set]; omega)) (by assumption) (by assumption) (by assumption) (by assumption) (fun q hq => hq) (ro_for (by assumption) (by assumption) hro (fun q hq => hq)) all_nil (by omega) (by omega) (un_e ?_)
      rintro h' tk' F' N' -
      simp only [List.append_nil] at N'
      (((repeat' (first | (k_unfold; walk_at "mine cl") | (walk_at "mine sB"; walk_at "mine ld"))); (all_goals try walk_at "mine fd")))
      refine HeldP.mk ⟨rfl, ?_⟩
      rw [siftup, hx', hFIN', ← hFIN]
end
noncomputable section
set_option maxRecDepth 100000
noncomputable abbrev flip2 (lt : Value → Value → Bool) : Value → Value → Bool := fun a b => lt b a
set_option maxHeartbeats 8000000 in
theorem siftdownM_fn (w : World) {ro : Led} {S : Value → Prop} {lt : Value → Value → Bool} (H : LtOn w ro S lt) (l : Addr) (vs : List Value) (n : Nat) (st pos : Nat) (t1 t2 : Tok)
    (hS : ∀ x ∈ vs, S x) (hpos : pos < vs.length) (hlen : vs.length < 2 ^ 62) :
    FnR w 245 2 ⟨[.ref l, .int (st : Nat) t1, .int (pos : Nat) t2], []⟩ ro [(l, listOf vs.toArray n)] (fun v o => v = .none ∧ o = [(l, listOf (siftdown (flip2 lt) vs st pos).toArray n)]) := by
  walk_at "mine enter"
  rename_i hro hdp hun
  repeat' (first | (k_unfold; (try dsimp only)) | ((fail_if_success (with_reducible show wpAny _ _ (exec (Stmt.While _ _ _ _) _) _ _ _)); first | walk1 | (dsimp only; walk1)))
  rename Fr _ _ _ _ => F
  rename News _ _ _ _ => N
  generalize hx : vs.getD (Int.toNat (pos : Nat)) Value.none = x at *
  have hxS : S x := by
    rw [← hx]
    exact hS _ (by rw [List.getD_eq_getElem?_getD, Int.toNat_natCast, List.getElem?_eq_getElem hpos]; exact List.getElem_mem _)
  have hx' : vs.getD pos Value.none = x := hx
  generalize hFIN' : sdLoop (flip2 lt) x st pos vs pos = FIN
  refine While_inv2 (InvSD l vs n st t1 S (flip2 lt) x FIN) (n₀ := pos)
    F N ⟨vs, pos, pos, t2, rfl, Nat.le_refl _, hpos, rfl, hS, rfl, ?_, hFIN'⟩ ?_ PassesOwn.never
  · simp only [List.forall_mem_cons, List.not_mem_nil, false_implies, implies_true, and_true]
    exact ⟨rfl, rfl, rfl, rfl⟩
  · clear F N
    rintro k m₁ nw h₁ tk₁ F₁ N₁ ⟨vs', p, f, tp, rfl, hpf, hpl, hvl, hvS, rfl, hm, hFIN⟩
    replace F₁ := fr_ov F₁ hm
    (try clear hm)
    k_steps
    · have hk1 : ((k : Int) - 1).fdiv (2 ^ Int.toNat 1) = (((k - 1) / 2 : Nat) : Int) := by
        rw [show (2 : Int) ^ Int.toNat 1 = 2 from rfl, Int.fdiv_eq_ediv_of_nonneg _ (by decide)]
        omega
      simp only [hk1] at *
      have hpS : S (vs'.getD ((k - 1) / 2) Value.none) := by
        refine hvS _ ?_
        rw [List.getD_eq_getElem?_getD, List.getElem?_eq_getElem (by omega)]
        exact List.getElem_mem _
      k_steps
      · refine HeldP.mk ⟨(k - 1) / 2, by omega, ?_⟩
        rename_i hlt _ _ _ _
        simp only [Int.toNat_natCast] at hlt ⊢
        have hf : f ≠ 0 := by omega
        obtain ⟨f', rfl⟩ := Nat.exists_eq_succ_of_ne_zero hf
        refine ⟨vs'.set k (vs'.getD ((k - 1) / 2) Value.none), (k - 1) / 2, f', ?tk, rfl, by omega, by omega, by rw [List.length_set]; exact hvl, all_set hvS hpS, rfl, ?nm, ?fin⟩
        case nm => ((repeat' (first | exact all_nil | (refine all_cons ?_ ?_; (focus (with_unfolding_all rfl))))))
        case fin => rw [← hFIN, sdLoop, if_pos (by omega), if_pos hlt]
      · refine HeldP.mk ⟨rfl, ?_⟩
        rename_i hlt _ _ _
        simp only [Int.toNat_natCast] at hlt ⊢
        have hf : f ≠ 0 := by omega
        obtain ⟨f', rfl⟩ := Nat.exists_eq_succ_of_ne_zero hf
        rw [sdLoop, if_pos (by omega), if_neg (by simpa using hlt)] at hFIN
        rw [siftdown, hx', hFIN']
        simp only [← hFIN]
    · refine HeldP.mk ⟨rfl, ?_⟩
      rename_i hge _ _ _
      have : sdLoop (flip2 lt) x st f vs' k = (vs', k) := by
        cases f with
        | zero => rfl
        | succ f' => rw [sdLoop, if_neg (by omega)]
      rw [this] at hFIN
      rw [siftdown, hx', hFIN']
      simp only [← hFIN, Int.toNat_natCast]
set_option maxHeartbeats 8000000 in
theorem siftupM_fn (w : World) {ro : Led} {S : Value → Prop} {lt : Value → Value → Bool} (H : LtOn w ro S lt) (l : Addr) (vs : List Value) (n : Nat) (pos : Nat) (t2 : Tok)
    (hS : ∀ x ∈ vs, S x) (hpos : pos < vs.length) (hlen : vs.length < 2 ^ 60) :
    FnR w 252 4 ⟨[.ref l, .int (pos : Nat) t2], []⟩ ro [(l, listOf vs.toArray n)] (fun v o => v = .none ∧ o = [(l, listOf (siftup (flip2 lt) vs pos).toArray n)]) := by
  walk_at "mine enter"
  rename_i hro hdp hun _
  (((repeat' (first | (k_unfold; walk_at "mine cl") | (walk_at "mine sB"; walk_at "mine ld"))); (all_goals try walk_at "mine fd")))
  rename Fr _ _ _ _ => F
  rename News _ _ _ _ => N
  generalize hx : vs.getD (Int.toNat (pos : Nat)) Value.none = x at *
  have hxS : S x := by rw [← hx]; exact hS _ (getD_mem hpos)
  have hx' : vs.getD pos Value.none = x := hx
  generalize hFIN' : suLoop (flip2 lt) vs.length vs pos = FIN
  refine While_inv2 (InvSU l vs n pos t2 S (flip2 lt) x FIN) (n₀ := vs.length - pos)
    F N ⟨vs, pos, vs.length, t2, ?tc, ?te, rfl, by omega, hpos, rfl, hS, rfl, ?nm, hFIN'⟩ ?turn PassesOwn.never
  case nm => ((repeat' (first | exact all_nil | (refine all_cons ?_ ?_; (focus (with_unfolding_all rfl))))))
  case turn =>
    (try clear F; try clear N)
    rintro k m₁ nw h₁ tk₁ F₁ N₁ ⟨vs', p, f, tp, tc, te, rfl, hpf, hpl, hvl, hvS, rfl, hm, hFIN⟩
    replace F₁ := fr_ov F₁ hm
    (try clear hm)
    (((repeat' (first | (k_unfold; walk_at "mine cl") | (walk_at "mine sB"; walk_at "mine ld"))); (all_goals try walk_at "mine fd")))
    all_goals (
      have e1 : (2 * (p : Int) + 1).toNat = 2 * p + 1 := by omega
      have e2 : (2 * (p : Int) + 1 + 1).toNat = 2 * p + 2 := by omega
      simp only [e1, e2, Int.toNat_natCast] at *
      obtain ⟨f', rfl⟩ : ∃ f', f = f' + 1 := ⟨f - 1, by omega⟩)
    · rename lt _ _ = _ => hlt
      rw [suLoop, if_pos (by omega), if_neg (fun q => Bool.noConfusion (hlt.symm.trans q.2))] at hFIN
      refine HeldP.mk ⟨vs.length - (2 * p + 1), by omega, _, 2 * p + 1, f', ?tp1, ?tc1, ?te1, rfl, by omega, by omega, by rw [List.length_set]; exact hvl, all_set hvS (all_getD hvS (by omega)), rfl, ?nm1, hFIN⟩
      case nm1 => ((repeat' (first | exact all_nil | (refine all_cons ?_ ?_; (focus (with_unfolding_all rfl))))))
    · rename lt _ _ = _ => hlt
      rw [suLoop, if_pos (by omega), if_pos ⟨by omega, hlt⟩] at hFIN
      refine HeldP.mk ⟨vs.length - (2 * p + 2), by omega, _, 2 * p + 2, f', ?tp2, ?tc2, ?te2, rfl, by omega, by omega, by rw [List.length_set]; exact hvl, all_set hvS (all_getD hvS (by omega)), rfl, ?nm2, hFIN⟩
      case nm2 => ((repeat' (first | exact all_nil | (refine all_cons ?_ ?_; (focus (with_unfolding_all rfl))))))
    · rw [suLoop, if_pos (by omega), if_neg (fun q => by omega)] at hFIN
      refine HeldP.mk ⟨vs.length - (2 * p + 1), by omega, _, 2 * p + 1, f', ?tp3, ?tc3, ?te3, rfl, by omega, by omega, by rw [List.length_set]; exact hvl, all_set hvS (all_getD hvS (by omega)), rfl, ?nm3, hFIN⟩
      case nm3 => ((repeat' (first | exact all_nil | (refine all_cons ?_ ?_; (focus (with_unfolding_all rfl))))))
    · rw [suLoop, if_neg (by omega)] at hFIN
      refine fn_call (rest := []) (siftdownM_fn w H l (vs'.set p x) n pos p t2 tp (all_set hvS hxS) (by rw [List.length_set]; omega) (by rw [List.length_set]; omega)) (by assumption) (by assumption) (by assumption) (by assumption) (fun q hq => hq) (ro_for (by assumption) (by assumption) hro (fun q hq => hq)) all_nil (by omega) (by omega) (un_e ?_)
      rintro h' tk' F' N' -
      simp only [List.append_nil] at N'
      (((repeat' (first | (k_unfold; walk_at "mine cl") | (walk_at "mine sB"; walk_at "mine ld"))); (all_goals try walk_at "mine fd")))
      refine HeldP.mk ⟨rfl, ?_⟩
      rw [siftup, hx', hFIN', ← hFIN]
end
local macro_rules | `(tactic| walk_at "InvPostN") => `(tactic| (k_dflt (first | ((with_reducible show InvPostN _ _ _ _ _ _ _ Flow.next _); refine' inv_next ?F ?N ?_; (case F => k_asm); (case N => k_asm)) | ((with_reducible show InvPostN _ _ _ _ _ _ _ Flow.cont _); refine' inv_cont ?F ?N ?_; (case F => k_asm); (case N => k_asm)) | ((with_reducible show InvPostN _ _ _ _ _ _ _ Flow.brk _); refine inv_brk ?_; (try dsimp only); (try k_unmd)) | ((with_reducible show InvPostN _ _ _ _ _ _ _ (Flow.ret _) _); refine inv_ret ?_; (try dsimp only); (try k_unmd)))))
noncomputable section
set_option maxRecDepth 100000
set_option maxHeartbeats 8000000 in
theorem heapify_fn (w : World) {ro : Led} {S : Value → Prop} {lt : Value → Value → Bool} (H : LtOn w ro S lt) (l : Addr) (vs : List Value) (n : Nat)
    (hS : ∀ x ∈ vs, S x) (hlen : vs.length < 2 ^ 60) :
    FnR w 210 6 ⟨[.ref l], []⟩ ro [(l, listOf vs.toArray n)] (fun v o => v = .none ∧ o = [(l, listOf (heapify lt vs).toArray n)]) := by
  walk_at "mine enter"
  rename_i hro hdp hun _
  (((repeat' (first | (k_unfold; walk_at "mine cl") | (walk_at "mine sB"; walk_at "mine ld"))); (all_goals try walk_at "mine fd")))
  rename Fr _ _ _ _ => F
  rename News _ _ _ _ => N
  refine For_invVF F (by rfl) (by rfl) ?_ (fun _ => rfl) PassesOwn.never
  (((repeat' (first | (k_unfold; walk_at "mine cl") | (walk_at "mine sB"; walk_at "mine ld"))); (all_goals try walk_at "mine fd")))
  have hk : ((vs.length : Nat) : Int).fdiv 2 = ((vs.length / 2 : Nat) : Int) := by
    rw [Int.fdiv_eq_ediv_of_nonneg _ (by decide)]; omega
  rename IsRange _ _ _ _ _ _ _ _ => hR
  rw [hk] at hR
  rename Fr _ _ _ _ => F'
  rename News _ _ _ _ => N'
  refine my_reversed F' N' hR (by omega) (by omega) fun D h₂ F₂ N₂ hD => ?_
  (try clear F'; try clear N'; try clear hR)
  have hDl : l < D := hD _ (List.mem_cons_self ..)
  refine my_forRit (n := vs.length / 2) (news := [(l, listOf vs.toArray n)]) (fun i m nw => m (Str.ofString "x") = some (Value.ref l) ∧ nw = [(l, listOf (heapLoop lt ((List.range (vs.length / 2)).reverse.take i) vs).toArray n)]) rfl F₂ N₂ (all_cons (Nat.ne_of_lt hDl) all_nil) ⟨rfl, rfl⟩ ?turn ?done
  case turn =>
    rintro i t m₁ nw h tk own hi - hoff ⟨hm, rfl⟩ F₃ N₃
    have hks : ∀ k ∈ (List.range (vs.length / 2)).reverse.take i, k < vs.length := fun k hk => by
      have := List.mem_range.mp (List.mem_reverse.mp (List.mem_of_mem_take hk)); omega
    have hlen' := heapLoop_len (lt := lt) ((List.range (vs.length / 2)).reverse.take i) vs
    have hS' : ∀ y ∈ heapLoop lt ((List.range (vs.length / 2)).reverse.take i) vs, S y := fun y hy => hS y ((heapLoop_perm _ _ hks).mem_iff.mp hy)
    have hnext : heapLoop lt ((List.range (vs.length / 2)).reverse.take (i + 1)) vs = siftup lt (heapLoop lt ((List.range (vs.length / 2)).reverse.take i) vs) (vs.length / 2 - 1 - i) := by
      rw [List.take_add_one, List.getElem?_reverse (by rw [List.length_range]; exact hi), List.length_range, List.getElem?_range (by omega)]
      simp [heapLoop]
    have hi' : (((vs.length / 2 : Nat) : Int) - 1 + (i : Int) * -1) = ((vs.length / 2 - 1 - i : Nat) : Int) := by omega
    rw [hi'] at F₃
    simp only [hnext]
    generalize heapLoop lt ((List.range (vs.length / 2)).reverse.take i) vs = us at *
    replace F₃ := fr_ov (ps := [(Str.ofString "i", Value.int ((vs.length / 2 - 1 - i : Nat) : Int) t), (Str.ofString "x", Value.ref l)]) F₃ (all_cons (by rfl) (all_cons hm all_nil))
    (try dsimp only [envOf] at F₃ N₃)
    (try dsimp only)
    (((repeat' (first | (k_unfold; walk_at "mine cl") | (walk_at "mine sB"; walk_at "mine ld"))); (all_goals try walk_at "mine fd")))
    refine fn_call (rest := own) (siftup_fn w H l us n (vs.length / 2 - 1 - i) t hS' (by omega) (by omega)) (by assumption) (by assumption) F₃ N₃ (fun q hq => List.mem_append_left _ hq) (ro_for F₃ N₃ hro (fun q hq => List.mem_append_left _ hq)) (fun q hq => ⟨List.mem_append_right _ hq, off_one hoff q hq⟩) (by omega) (by omega) (un_e ?_)
    rintro h' tk' F₄ N₄ -
    (try clear F₃; try clear N₃)
    (((repeat' (first | (k_unfold; walk_at "mine cl") | (walk_at "mine sB"; walk_at "mine ld"))); (all_goals try walk_at "mine fd")))
    exact HeldP.mk ⟨_, rfl, rfl, rfl, rfl⟩
  case done =>
    rintro m₁ nw h tk ⟨hm, rfl⟩ F₃ N₃
    (try dsimp only [envOf] at F₃ N₃)
    (try dsimp only)
    (((repeat' (first | (k_unfold; walk_at "mine cl") | (walk_at "mine sB"; walk_at "mine ld"))); (all_goals try walk_at "mine fd")))
    refine HeldP.mk ⟨rfl, ?_⟩
    rw [List.take_of_length_le (by rw [List.length_reverse, List.length_range]; exact Nat.le_refl _)]
    rfl
end
noncomputable section
set_option maxRecDepth 100000
set_option maxHeartbeats 8000000 in
theorem heapifyM_fn (w : World) {ro : Led} {S : Value → Prop} {lt : Value → Value → Bool} (H : LtOn w ro S lt) (l : Addr) (vs : List Value) (n : Nat)
    (hS : ∀ x ∈ vs, S x) (hlen : vs.length < 2 ^ 60) :
    FnR w 224 6 ⟨[.ref l], []⟩ ro [(l, listOf vs.toArray n)] (fun v o => v = .none ∧ o = [(l, listOf (heapify (flip2 lt) vs).toArray n)]) := by
  walk_at "mine enter"
  rename_i hro hdp hun _
  (((repeat' (first | (k_unfold; walk_at "mine cl") | (walk_at "mine sB"; walk_at "mine ld"))); (all_goals try walk_at "mine fd")))
  rename Fr _ _ _ _ => F
  rename News _ _ _ _ => N
  refine For_invVF F (by rfl) (by rfl) ?_ (fun _ => rfl) PassesOwn.never
  (((repeat' (first | (k_unfold; walk_at "mine cl") | (walk_at "mine sB"; walk_at "mine ld"))); (all_goals try walk_at "mine fd")))
  have hk : ((vs.length : Nat) : Int).fdiv 2 = ((vs.length / 2 : Nat) : Int) := by
    rw [Int.fdiv_eq_ediv_of_nonneg _ (by decide)]; omega
  rename IsRange _ _ _ _ _ _ _ _ => hR
  rw [hk] at hR
  rename Fr _ _ _ _ => F'
  rename News _ _ _ _ => N'
  refine my_reversed F' N' hR (by omega) (by omega) fun D h₂ F₂ N₂ hD => ?_
  (try clear F'; try clear N'; try clear hR)
  have hDl : l < D := hD _ (List.mem_cons_self ..)
  refine my_forRit (n := vs.length / 2) (news := [(l, listOf vs.toArray n)]) (fun i m nw => m (Str.ofString "x") = some (Value.ref l) ∧ nw = [(l, listOf (heapLoop (flip2 lt) ((List.range (vs.length / 2)).reverse.take i) vs).toArray n)]) rfl F₂ N₂ (all_cons (Nat.ne_of_lt hDl) all_nil) ⟨rfl, rfl⟩ ?turn ?done
  case turn =>
    rintro i t m₁ nw h tk own hi - hoff ⟨hm, rfl⟩ F₃ N₃
    have hks : ∀ k ∈ (List.range (vs.length / 2)).reverse.take i, k < vs.length := fun k hk => by
      have := List.mem_range.mp (List.mem_reverse.mp (List.mem_of_mem_take hk)); omega
    have hlen' := heapLoop_len (lt := flip2 lt) ((List.range (vs.length / 2)).reverse.take i) vs
    have hS' : ∀ y ∈ heapLoop (flip2 lt) ((List.range (vs.length / 2)).reverse.take i) vs, S y := fun y hy => hS y ((heapLoop_perm _ _ hks).mem_iff.mp hy)
    have hnext : heapLoop (flip2 lt) ((List.range (vs.length / 2)).reverse.take (i + 1)) vs = siftup (flip2 lt) (heapLoop (flip2 lt) ((List.range (vs.length / 2)).reverse.take i) vs) (vs.length / 2 - 1 - i) := by
      rw [List.take_add_one, List.getElem?_reverse (by rw [List.length_range]; exact hi), List.length_range, List.getElem?_range (by omega)]
      simp [heapLoop]
    have hi' : (((vs.length / 2 : Nat) : Int) - 1 + (i : Int) * -1) = ((vs.length / 2 - 1 - i : Nat) : Int) := by omega
    rw [hi'] at F₃
    simp only [hnext]
    generalize heapLoop (flip2 lt) ((List.range (vs.length / 2)).reverse.take i) vs = us at *
    replace F₃ := fr_ov (ps := [(Str.ofString "i", Value.int ((vs.length / 2 - 1 - i : Nat) : Int) t), (Str.ofString "x", Value.ref l)]) F₃ (all_cons (by rfl) (all_cons hm all_nil))
    (try dsimp only [envOf] at F₃ N₃)
    (try dsimp only)
    (((repeat' (first | (k_unfold; walk_at "mine cl") | (walk_at "mine sB"; walk_at "mine ld"))); (all_goals try walk_at "mine fd")))
    refine fn_call (rest := own) (siftupM_fn w H l us n (vs.length / 2 - 1 - i) t hS' (by omega) (by omega)) (by assumption) (by assumption) F₃ N₃ (fun q hq => List.mem_append_left _ hq) (ro_for F₃ N₃ hro (fun q hq => List.mem_append_left _ hq)) (fun q hq => ⟨List.mem_append_right _ hq, off_one hoff q hq⟩) (by omega) (by omega) (un_e ?_)
    rintro h' tk' F₄ N₄ -
    (try clear F₃; try clear N₃)
    (((repeat' (first | (k_unfold; walk_at "mine cl") | (walk_at "mine sB"; walk_at "mine ld"))); (all_goals try walk_at "mine fd")))
    exact HeldP.mk ⟨_, rfl, rfl, rfl, rfl⟩
  case done =>
    rintro m₁ nw h tk ⟨hm, rfl⟩ F₃ N₃
    (try dsimp only [envOf] at F₃ N₃)
    (try dsimp only)
    (((repeat' (first | (k_unfold; walk_at "mine cl") | (walk_at "mine sB"; walk_at "mine ld"))); (all_goals try walk_at "mine fd")))
    refine HeldP.mk ⟨rfl, ?_⟩
    rw [List.take_of_length_le (by rw [List.length_reverse, List.length_range]; exact Nat.le_refl _)]
    rfl
end
local macro_rules | `(tactic| walk_at "subscriptTail") => `(tactic| ((with_reducible show wpAny _ _ (subscriptTail _ _ (Value.ref _) (Value.int _ _)) _ _ _); k_dflt (refine' my_sub ?N ?m ?a ?b ?c ?_; (case N => k_asm); (case m => k_mem); (case a => omega); (case b => (first | omega | (simp only [List.length_set, List.length_dropLast]; omega))); (case c => omega); k_whole)))
local macro_rules | `(tactic| walk_at "setItem ref int") => `(tactic| (k_dflt (refine' my_set ?F ?N ?U ?a ?b ?c ?_; (case F => k_asm); (case N => k_asm); (case U => k_upd); (case a => omega); (case b => (first | omega | (simp only [List.length_set, List.length_dropLast]; omega))); (case c => omega); k_whole); intro h' F' N'; (try k_sweep)))
local macro_rules | `(tactic| walk_at "call builtin:len") => `(tactic| ((with_reducible show wpAny _ _ (call (Value.builtin "len") [Value.ref _]) _ _ _); k_dflt (refine' my_len ?N ?m ?f ?_; (case N => k_asm); (case m => k_mem); (case f => (first | omega | (simp only [List.length_set, List.length_dropLast]; omega))); k_whole)))
local macro_rules | `(tactic| walk_at "call builtin:list.pop") => `(tactic| ((with_reducible show wpAny _ _ (call (Value.builtin "list.pop") [Value.ref _]) _ _ _); k_dflt (refine' my_pop ?F ?N ?U ?a ?b ?_; (case F => k_asm); (case N => k_asm); (case U => k_upd); (case a => omega); (case b => omega); k_whole); intro h' F' N'; (try k_sweep)))
local macro_rules | `(tactic| walk_at "truthy ref") => `(tactic| (k_dflt (refine' my_truthy ?N ?m ?f ?_; (case N => k_asm); (case m => k_mem); (case f => (first | omega | (simp only [List.length_dropLast]; omega))); k_whole)))
noncomputable section
set_option maxRecDepth 100000
/-- what heappop leaves -/
noncomputable def popped (lt : Value → Value → Bool) (vs : List Value) : List Value := if vs.length ≤ 1 then [] else siftup lt (vs.dropLast.set 0 (vs.getD (vs.length - 1) .none)) 0
noncomputable def replaced (lt : Value → Value → Bool) (vs : List Value) (x : Value) : List Value := siftup lt (vs.set 0 x) 0
theorem all_dropLast {P : Value → Prop} {vs : List Value} (h : ∀ x ∈ vs, P x) : ∀ x ∈ vs.dropLast, P x := fun x hx => h x (List.dropLast_subset _ hx)
set_option maxHeartbeats 8000000 in
theorem heappop_fn (w : World) {ro : Led} {S : Value → Prop} {lt : Value → Value → Bool} (H : LtOn w ro S lt) (l : Addr) (vs : List Value) (n : Nat)
    (hS : ∀ x ∈ vs, S x) (h0 : 0 < vs.length) (hlen : vs.length < 2 ^ 20) :
    FnR w 196 6 ⟨[.ref l], []⟩ ro [(l, listOf vs.toArray n)] (fun v o => v = vs.getD 0 .none ∧ o = [(l, listOf (popped lt vs).toArray (n + 1))]) := by
  walk_at "mine enter"
  rename_i hro hdp hun _
  (((repeat' (first | (k_unfold; walk_at "mine cl") | (walk_at "mine sB"; walk_at "mine ld"))); (all_goals try walk_at "mine fd")))
  · rename Fr _ _ _ _ => F
    rename News _ _ _ _ => N
    rename 0 < List.length _ => h1
    rw [List.length_dropLast] at h1
    refine fn_call (rest := []) (siftup_fn w H l _ (n + 1) 0 _ (all_set (all_dropLast hS) (all_getD hS (by omega))) (by rw [List.length_set, List.length_dropLast]; omega) (by rw [List.length_set, List.length_dropLast]; omega)) (by assumption) (by assumption) F N (fun q hq => hq) (ro_for F N hro (fun q hq => hq)) all_nil (by omega) (by omega) (un_e ?_)
    rintro h' tk' F₄ N₄ -
    (try clear F; try clear N)
    simp only [List.append_nil] at N₄
    (((repeat' (first | (k_unfold; walk_at "mine cl") | (walk_at "mine sB"; walk_at "mine ld"))); (all_goals try walk_at "mine fd")))
    refine HeldP.mk ⟨?_, ?_⟩
    · show vs.dropLast.getD 0 Value.none = _
      rw [List.getD_eq_getElem?_getD, List.getD_eq_getElem?_getD, List.getElem?_dropLast, if_pos (by omega)]
    · rw [popped, if_neg (by omega)]
      rfl
  · rename ¬ 0 < List.length _ => h1
    rw [List.length_dropLast] at h1
    refine HeldP.mk ⟨?_, ?_⟩
    · show vs.getD (vs.length - 1) Value.none = _
      rw [show vs.length - 1 = 0 by omega]
    · rw [popped, if_pos (by omega), List.length_eq_zero_iff.mp (show vs.dropLast.length = 0 by rw [List.length_dropLast]; omega)]
set_option maxHeartbeats 8000000 in
theorem heapreplace_fn (w : World) {ro : Led} {S : Value → Prop} {lt : Value → Value → Bool} (H : LtOn w ro S lt) (l : Addr) (vs : List Value) (n : Nat) (x : Value)
    (hS : ∀ x ∈ vs, S x) (hx : S x) (h0 : 0 < vs.length) (hlen : vs.length < 2 ^ 20) :
    FnR w 203 6 ⟨[.ref l, x], []⟩ ro [(l, listOf vs.toArray n)] (fun v o => v = vs.getD 0 .none ∧ o = [(l, listOf (replaced lt vs x).toArray n)]) := by
  walk_at "mine enter"
  rename_i hro hdp hun _
  (((repeat' (first | (k_unfold; walk_at "mine cl") | (walk_at "mine sB"; walk_at "mine ld"))); (all_goals try walk_at "mine fd")))
  rename Fr _ _ _ _ => F
  rename News _ _ _ _ => N
  refine fn_call (rest := []) (siftup_fn w H l _ n 0 _ (all_set hS hx) (by rw [List.length_set]; omega) (by rw [List.length_set]; omega)) (by assumption) (by assumption) F N (fun q hq => hq) (ro_for F N hro (fun q hq => hq)) all_nil (by omega) (by omega) (un_e ?_)
  rintro h' tk' F₄ N₄ -
  (try clear F; try clear N)
  simp only [List.append_nil] at N₄
  (((repeat' (first | (k_unfold; walk_at "mine cl") | (walk_at "mine sB"; walk_at "mine ld"))); (all_goals try walk_at "mine fd")))
  exact HeldP.mk ⟨rfl, rfl⟩
set_option maxHeartbeats 8000000 in
theorem heapreplaceM_fn (w : World) {ro : Led} {S : Value → Prop} {lt : Value → Value → Bool} (H : LtOn w ro S lt) (l : Addr) (vs : List Value) (n : Nat) (x : Value)
    (hS : ∀ x ∈ vs, S x) (hx : S x) (h0 : 0 < vs.length) (hlen : vs.length < 2 ^ 20) :
    FnR w 217 6 ⟨[.ref l, x], []⟩ ro [(l, listOf vs.toArray n)] (fun v o => v = vs.getD 0 .none ∧ o = [(l, listOf (replaced (flip2 lt) vs x).toArray n)]) := by
  walk_at "mine enter"
  rename_i hro hdp hun _
  (((repeat' (first | (k_unfold; walk_at "mine cl") | (walk_at "mine sB"; walk_at "mine ld"))); (all_goals try walk_at "mine fd")))
  rename Fr _ _ _ _ => F
  rename News _ _ _ _ => N
  refine fn_call (rest := []) (siftupM_fn w H l _ n 0 _ (all_set hS hx) (by rw [List.length_set]; omega) (by rw [List.length_set]; omega)) (by assumption) (by assumption) F N (fun q hq => hq) (ro_for F N hro (fun q hq => hq)) all_nil (by omega) (by omega) (un_e ?_)
  rintro h' tk' F₄ N₄ -
  (try clear F; try clear N)
  simp only [List.append_nil] at N₄
  (((repeat' (first | (k_unfold; walk_at "mine cl") | (walk_at "mine sB"; walk_at "mine ld"))); (all_goals try walk_at "mine fd")))
  exact HeldP.mk ⟨rfl, rfl⟩
end
noncomputable section
set_option maxRecDepth 100000
section
variable {prog : Program} {w : World} {A : Around} {E : Value → Shared → Prop} {s : Shared}
theorem nextOf_range_item {it : Addr} {x left step : Int} {Q : Value → Shared → Prop} (hit : IsRangeIter s.heap it x left step) (hleft : 0 < left)
    (hQ : ∀ h', IsRangeIter h' it (x + step) (left - 1) step → Heap.SameBut it s.heap h' → Q (.int x s.toks) { s with heap := h', toks := s.toks + 1 }) :
    wpAny (model prog w) A (Builtin.SmallTypes.nextOf (.ref it)) Q E s := by
  have hT : s.TypeIs (.ref it) "range_iterator" := ⟨_, hit, rfl⟩
  unfold Builtin.SmallTypes.nextOf
  refine wpAny_bind (wpAny_callSpecial?_slot (name := Str.ofString "__next__") hT F.slot_range_iterator_next
    (call_meets F.slot_range_iterator_next hT F.entry_range_iterator_next (F.args_range_iterator_next_1 _) (AutoRange.range_iterator___next___range_iterator_1 it x left step (by omega)) ⟨hit, ?_⟩))
  exact wpAny_pure (hQ _ (Heap.get?_update_self _ (Heap.get?_update_self _ hit rfl) rfl) ((Heap.SameBut.update ..).trans (Heap.SameBut.update ..)))
theorem nextOf_range_end {it : Addr} {x left step : Int} {Q : Value → Shared → Prop} (hh : A.handled = none) (hit : IsRangeIter s.heap it x left step) (hleft : left ≤ 0)
    (hE : ∀ h' e, Heap.ExtBut it s.heap h' → (∃ o, h'.get? e = some o ∧ o.cls = .type "StopIteration") → E (.ref e) { s with heap := h' }) :
    wpAny (model prog w) A (Builtin.SmallTypes.nextOf (.ref it)) Q E s := by
  have hT : s.TypeIs (.ref it) "range_iterator" := ⟨_, hit, rfl⟩
  unfold Builtin.SmallTypes.nextOf
  refine wpAny_bind (wpAny_callSpecial?_slot (name := Str.ofString "__next__") hT F.slot_range_iterator_next
    (wpAny_call_entry F.slot_range_iterator_next hT F.entry_range_iterator_next ?_ (F.args_range_iterator_next_1 _)))
  show wpAny _ _ (field (.ref it) 0 >>= _) _ _ s
  refine wpAny_bind (wpAny_field hit rfl (x := rawInt x) rfl ?_)
  show wpAny _ _ (field (.ref it) 1 >>= _) _ _ s
  refine wpAny_bind (wpAny_field hit rfl (x := rawInt left) rfl ?_)
  show wpAny _ _ (field (.ref it) 2 >>= _) _ _ s
  refine wpAny_bind (wpAny_field hit rfl (x := rawInt step) rfl ?_)
  show wpAny _ _ (if left ≤ 0 then _ else _) _ _ s
  rw [if_pos hleft]
  refine wpAny_bind (wpAny_rule ?_)
  refine wpAny_bind ?_
  show wpAny _ _ (newExc (.type "StopIteration") [] >>= _) _ _ _
  refine wpAny_bind ?_
  simp only [newExc, newTuple]
  refine wpAny_bind (wpAny_newObj_type ?_ (by size_fits))
  refine wpAny_bind (m := firstArgMember _ _) (wpAny_of_eq (a := Value.none) (by first | rfl | (simp only [firstArgMember]; rfl)) ?_)
  refine wpAny_newObj_type ?_ (by size_fits)
  simp only [raiseNew]
  refine wpAny_bind (wpAny_handled ?_)
  first | rw [show A.in1.handled = none from hh] | rw [hh]
  refine wpAny_bind (wpAny_pure (wpAny_throw ?_))
  exact hE _ _ (((Heap.ExtBut.refl it s.heap).push _).push _) ⟨_, Heap.get?_push_size _ rfl, rfl⟩
/-- the objects of a zip over a range iterator and a list iterator lie apart -/
structure ZApart (z TI TO i1 i2 l : Addr) : Prop where
  TIz : TI ≠ z
  TOz : TO ≠ z
  i1z : i1 ≠ z
  i2z : i2 ≠ z
  TITO : TI ≠ TO
  TIi1 : TI ≠ i1
  TIi2 : TI ≠ i2
  TOi1 : TO ≠ i1
  TOi2 : TO ≠ i2
  i12 : i1 ≠ i2
  lz : l ≠ z
  lTO : l ≠ TO
  li1 : l ≠ i1
  li2 : l ≠ i2
/-- where a zip over a range iterator and a list iterator stands -/
structure ZAt (h : Heap) (z TI TO i1 i2 l : Addr) (f0 : Value) (x left step : Int) (j : Nat) (ys : Array Value) : Prop where
  hz : IsZip h z TI TO f0
  hTI : IsPair h TI (.ref i1) (.ref i2)
  hTO : ∃ a b, IsPair h TO a b
  h1 : IsRangeIter h i1 x left step
  h2 : h.IsListIter i2 l j
  hl : h.IsList l ys
theorem ZAt.keeps {h h' : Heap} {z TI TO i1 i2 l : Addr} {f0 : Value} {x left step : Int} {j : Nat} {ys : Array Value} (a : ZAt h z TI TO i1 i2 l f0 x left step j ys)
    (hk : ∀ b ∈ [z, TI, TO, i1, i2, l], ∀ o, h.get? b = some o → h'.get? b = some o) : ZAt h' z TI TO i1 i2 l f0 x left step j ys :=
  ⟨hk z (by simp) _ a.hz, hk TI (by simp) _ a.hTI, (let ⟨p, q, r⟩ := a.hTO; ⟨p, q, hk TO (by simp) _ r⟩), hk i1 (by simp) _ a.h1, a.h2.at fun o e => hk i2 (by simp) o e, a.hl.at fun o e => hk l (by simp) o e⟩
theorem zr_next_item {z TI TO i1 i2 l : Addr} {v left step : Int} {j : Nat} {ys : Array Value} {y : Value} {Q : Value → Shared → Prop} (D : ZApart z TI TO i1 i2 l)
    (Z : ZAt s.heap z TI TO i1 i2 l .none v left step j ys) (hleft : 0 < left) (hy : ys[j]? = some y)
    (hQ : ∀ h', ZAt h' z TI TO i1 i2 l (rawInt s.heap.objs.size) (v + step) (left - 1) step (j + 1) ys → IsPair h' s.heap.objs.size (.int v s.toks) y → h'.objs.size = s.heap.objs.size + 1 →
      (∀ c o, c ≠ z → c ≠ TO → c ≠ i1 → c ≠ i2 → s.heap.get? c = some o → h'.get? c = some o) → Q (.ref s.heap.objs.size) { s with heap := h', toks := s.toks + 1 }) :
    wpAny (model prog w) A (Builtin.«zip.__next__» ⟨[.ref z], []⟩) (fun fin s' => ∃ v, fin = .done (.ret v) ∧ Q v s') E s := by
  obtain ⟨hz, hTI, ⟨a, b, hTO⟩, h1, h2, hl⟩ := Z
  show wpAny _ _ (field (.ref z) 2 >>= _) _ _ _
  refine wpAny_bind (wpAny_field hz rfl (x := .bool false) rfl ?_)
  show wpAny _ _ (field (.ref z) 3 >>= _) _ _ _
  refine wpAny_bind (wpAny_field hz rfl (x := .ref TI) rfl ?_)
  refine wpAny_bind (wpAny_seqItems hTI rfl ?_)
  show wpAny _ _ (Builtin.SmallTypes.ownedTupleIsFree (.ref z) >>= _) _ _ _
  refine wpAny_bind ?_
  unfold Builtin.SmallTypes.ownedTupleIsFree
  refine wpAny_bind (wpAny_field hz rfl (x := .none) rfl (wpAny_pure ?_))
  simp only [if_true]
  refine wpAny_bind (wpAny_rule ?_)
  refine wpAny_bind (wpAny_field hz rfl (x := .ref TO) rfl ?_)
  refine wpAny_bind (wpAny_setField_rec hz (by simp) fun h₁ hz₁ hs₁ => ?_)
  replace hz₁ : IsZip h₁ z TI TO .ellipsis := hz₁
  refine wpAny_bind ?_
  simp only [List.zipIdx_cons, List.zipIdx_nil, List.forIn_cons, List.forIn_nil]
  refine wpAny_bind (wpAny_bind (wpAny_onRaise ?_))
  show wpAny _ _ (Builtin.SmallTypes.nextOf (.ref i1) >>= _) _ _ _
  refine wpAny_bind (nextOf_range_item (hs₁.extBut _ _ D.i1z h1) hleft fun h₂ h1₂ hs₂ => wpAny_pure ?_)
  replace hs₂ : Heap.SameBut i1 h₁ h₂ := hs₂
  have hTO₂ : IsPair h₂ TO a b := hs₂.extBut _ _ D.TOi1 (hs₁.extBut _ _ D.TOz hTO)
  refine wpAny_bind (wpAny_seqItems hTO₂ rfl ?_)
  refine wpAny_bind (wpAny_updateSeq_pair hTO₂ fun h₃ hTO₃ hs₃ => ?_)
  replace hTO₃ : IsPair h₃ TO (.int v s.toks) b := hTO₃
  replace hs₃ : Heap.SameBut TO h₂ h₃ := hs₃
  refine wpAny_bind (wpAny_letGo (wpAny_pure ?_))
  refine wpAny_bind (wpAny_bind (wpAny_onRaise ?_))
  show wpAny _ _ (Builtin.SmallTypes.nextOf (.ref i2) >>= _) _ _ _
  refine wpAny_bind (wpAny_nextOf_list_item (((h2.extBut hs₁.extBut D.i2z).extBut hs₂.extBut D.i12.symm).extBut hs₃.extBut D.TOi2.symm)
    (((hl.extBut hs₁.extBut D.lz).extBut hs₂.extBut D.li1).extBut hs₃.extBut D.lTO) hy fun h₄ h2₄ hs₄ => wpAny_pure ?_)
  replace hs₄ : Heap.SameBut i2 h₃ h₄ := hs₄
  have hTO₄ : IsPair h₄ TO (.int v s.toks) b := hs₄.extBut _ _ D.TOi2 hTO₃
  refine wpAny_bind (wpAny_seqItems hTO₄ rfl ?_)
  refine wpAny_bind (wpAny_updateSeq_pair hTO₄ fun h₅ hTO₅ hs₅ => ?_)
  replace hTO₅ : IsPair h₅ TO (.int v s.toks) y := hTO₅
  replace hs₅ : Heap.SameBut TO h₄ h₅ := hs₅
  refine wpAny_bind (wpAny_letGo (wpAny_pure (wpAny_pure ?_)))
  refine wpAny_bind (wpAny_seqItems hTO₅ rfl ?_)
  refine wpAny_bind (wpAny_newTuple ?_)
  have hsz : h₅.objs.size = s.heap.objs.size := by rw [hs₅.1, hs₄.1, hs₃.1, hs₂.1, hs₁.1]
  have hk₅ : ∀ c o, c ≠ z → c ≠ TO → c ≠ i1 → c ≠ i2 → s.heap.get? c = some o → h₅.get? c = some o := fun c o c1 c2 c3 c4 e =>
    hs₅.extBut _ _ c2 (hs₄.extBut _ _ c4 (hs₃.extBut _ _ c2 (hs₂.extBut _ _ c3 (hs₁.extBut _ _ c1 e))))
  have hz₅ : IsZip h₅ z TI TO .ellipsis := hs₅.extBut _ _ D.TOz.symm (hs₄.extBut _ _ D.i2z.symm (hs₃.extBut _ _ D.TOz.symm (hs₂.extBut _ _ D.i1z.symm hz₁)))
  have h1₅ : IsRangeIter h₅ i1 (v + step) (left - 1) step := hs₅.extBut _ _ D.TOi1.symm (hs₄.extBut _ _ D.i12 (hs₃.extBut _ _ D.TOi1.symm h1₂))
  have h2₅ : h₅.IsListIter i2 l (j + 1) := h2₄.extBut hs₅.extBut D.TOi2.symm
  have hzlt : z < h₅.objs.size := Heap.lt_size hz₅
  show wpAny _ _ (Builtin.SmallTypes.ownedTupleHandOut (.ref z) (.ref h₅.objs.size) >>= _) _ _ _
  refine wpAny_bind ?_
  unfold Builtin.SmallTypes.ownedTupleHandOut
  have hz₆ : IsZip (h₅.push { cls := .type "tuple", data := .seq #[.int v s.toks, y] }) z TI TO .ellipsis := Heap.get?_push_of_some _ hz₅
  refine wpAny_bind (wpAny_setField_rec hz₆ (by simp) fun h₇ hz₇ hs₇ => ?_)
  replace hz₇ : IsZip h₇ z TI TO (rawInt h₅.objs.size) := hz₇
  refine wpAny_setField_rec hz₇ (by simp) fun h₈ hz₈ hs₈ => ?_
  replace hz₈ : IsZip h₈ z TI TO (rawInt h₅.objs.size) := hz₈
  have up : ∀ c o, c ≠ z → h₅.get? c = some o → h₈.get? c = some o := fun c o c1 e => hs₈.extBut _ _ c1 (hs₇.extBut _ _ c1 (Heap.get?_push_of_some _ e))
  have hT₈ : IsPair h₈ h₅.objs.size (.int v s.toks) y := hs₈.extBut _ _ (Nat.ne_of_gt hzlt) (hs₇.extBut _ _ (Nat.ne_of_gt hzlt) (Heap.get?_push_size _ rfl))
  have hz8 : h₈.objs.size = h₅.objs.size + 1 := by rw [hs₈.1, hs₇.1, Heap.size_push]
  rw [hsz] at hz₈ hT₈ hz8
  refine wpAny_pure ⟨_, rfl, ?_⟩
  show Q (.ref h₅.objs.size) _
  rw [hsz]
  exact hQ h₈ ⟨hz₈, up _ _ D.TIz (hk₅ _ _ D.TIz D.TITO D.TIi1 D.TIi2 hTI), ⟨_, _, up _ _ D.TOz hTO₅⟩, up _ _ D.i1z h1₅, h2₅.at fun o e => up _ o D.i2z e, hl.at fun o e => up _ o D.lz (hk₅ _ o D.lz D.lTO D.li1 D.li2 e)⟩ hT₈ hz8 fun c o c1 c2 c3 c4 e => up c o c1 (hk₅ c o c1 c2 c3 c4 e)
theorem zr_next_end {z TI TO i1 i2 l : Addr} {v left step : Int} {j : Nat} {ys : Array Value} {Q : Fin → Shared → Prop} (hh : A.handled = none) (D : ZApart z TI TO i1 i2 l)
    (Z : ZAt s.heap z TI TO i1 i2 l .none v left step j ys) (hleft : left ≤ 0)
    (hE : ∀ h' e, (∀ c o, c ≠ z → c ≠ i1 → s.heap.get? c = some o → h'.get? c = some o) → (∃ o, h'.get? e = some o ∧ o.cls = .type "StopIteration") → E (.ref e) { s with heap := h' }) :
    wpAny (model prog w) A (Builtin.«zip.__next__» ⟨[.ref z], []⟩) Q E s := by
  obtain ⟨hz, hTI, ⟨a, b, hTO⟩, h1, h2, hl⟩ := Z
  show wpAny _ _ (field (.ref z) 2 >>= _) _ _ _
  refine wpAny_bind (wpAny_field hz rfl (x := .bool false) rfl ?_)
  show wpAny _ _ (field (.ref z) 3 >>= _) _ _ _
  refine wpAny_bind (wpAny_field hz rfl (x := .ref TI) rfl ?_)
  refine wpAny_bind (wpAny_seqItems hTI rfl ?_)
  show wpAny _ _ (Builtin.SmallTypes.ownedTupleIsFree (.ref z) >>= _) _ _ _
  refine wpAny_bind ?_
  unfold Builtin.SmallTypes.ownedTupleIsFree
  refine wpAny_bind (wpAny_field hz rfl (x := .none) rfl (wpAny_pure ?_))
  simp only [if_true]
  refine wpAny_bind (wpAny_rule ?_)
  refine wpAny_bind (wpAny_field hz rfl (x := .ref TO) rfl ?_)
  refine wpAny_bind (wpAny_setField_rec hz (by simp) fun h₁ hz₁ hs₁ => ?_)
  replace hz₁ : IsZip h₁ z TI TO .ellipsis := hz₁
  refine wpAny_bind ?_
  simp only [List.zipIdx_cons, List.zipIdx_nil, List.forIn_cons, List.forIn_nil]
  refine wpAny_bind (wpAny_bind (wpAny_onRaise ?_))
  show wpAny _ _ (Builtin.SmallTypes.nextOf (.ref i1) >>= _) _ _ _
  refine wpAny_bind (nextOf_range_end hh (hs₁.extBut _ _ D.i1z h1) hleft fun h₂ e hs₂ he => ?_)
  obtain ⟨oe, hoe, hce⟩ := he
  have hz₂ : IsZip h₂ z TI TO .ellipsis := hs₂ _ _ D.i1z.symm hz₁
  have hez : e ≠ z := fun x => by subst x; rw [hz₂] at hoe; cases hoe; simp at hce
  refine wpAny_setField_rec hz₂ (by simp) fun h₃ _ hs₃ => hE h₃ e (fun c o c1 c3 x => hs₃.extBut _ _ c1 (hs₂ _ _ c3 (hs₁.extBut _ _ c1 x))) ⟨oe, hs₃.extBut _ _ hez hoe, hce⟩
theorem zr_pyNext_item {z TI TO i1 i2 l : Addr} {v left step : Int} {j : Nat} {ys : Array Value} {y : Value} {Q : Option Value → Shared → Prop} (D : ZApart z TI TO i1 i2 l)
    (Z : ZAt s.heap z TI TO i1 i2 l .none v left step j ys) (hleft : 0 < left) (hy : ys[j]? = some y)
    (hQ : ∀ h', ZAt h' z TI TO i1 i2 l (rawInt s.heap.objs.size) (v + step) (left - 1) step (j + 1) ys → IsPair h' s.heap.objs.size (.int v s.toks) y → h'.objs.size = s.heap.objs.size + 1 →
      (∀ c o, c ≠ z → c ≠ TO → c ≠ i1 → c ≠ i2 → s.heap.get? c = some o → h'.get? c = some o) → Q (some (.ref s.heap.objs.size)) { s with heap := h', toks := s.toks + 1 }) :
    wpAny (model prog w) A (pyNext (.ref z)) Q E s := by
  have hT : s.TypeIs (.ref z) "zip" := ⟨_, Z.hz, rfl⟩
  unfold pyNext
  exact wpAny_bind (wpAny_attempt (wpAny_callSpecial?_slot (name := Str.ofString "__next__") hT F.slot_zip_next
    (wpAny_call_entry F.slot_zip_next hT F.entry_zip_next
      (zr_next_item D Z hleft hy fun h' a1 a2 a3 a4 => wpAny_pure (hQ h' a1 a2 a3 a4)) (F.args_zip_next_1 _))))
theorem zr_pyNext_end {z TI TO i1 i2 l : Addr} {v left step : Int} {j : Nat} {ys : Array Value} {Q : Option Value → Shared → Prop} (hh : A.handled = none) (D : ZApart z TI TO i1 i2 l)
    (Z : ZAt s.heap z TI TO i1 i2 l .none v left step j ys) (hleft : left ≤ 0)
    (hQ : ∀ h', (∀ c o, c ≠ z → c ≠ i1 → s.heap.get? c = some o → h'.get? c = some o) → Q none { s with heap := h' }) : wpAny (model prog w) A (pyNext (.ref z)) Q E s := by
  have hT : s.TypeIs (.ref z) "zip" := ⟨_, Z.hz, rfl⟩
  unfold pyNext
  refine wpAny_bind (wpAny_attempt (wpAny_callSpecial?_slot (name := Str.ofString "__next__") hT F.slot_zip_next
    (wpAny_call_entry F.slot_zip_next hT F.entry_zip_next (zr_next_end hh D Z hleft fun h' e hk he => ?_) (F.args_zip_next_1 _))))
  obtain ⟨o, ho, hc⟩ := he
  refine wpAny_bind (wpAny_isInstance (T := "StopIteration") (b := true) ⟨o, ho, hc⟩ isSubtype_stop ?_)
  exact wpAny_pure (hQ _ hk)
noncomputable abbrev zq1 (h : Heap) (a n c : Int) : Heap := h.push { cls := .type "range_iterator", data := .fields #[rawInt a, rawInt n, rawInt c] }
noncomputable abbrev zq2 (h : Heap) (a n c : Int) (i2 : Addr) : Heap := (zq1 h a n c).push { cls := .type "tuple", data := .seq #[.ref h.objs.size, .ref i2] }
noncomputable abbrev zq3 (h : Heap) (a n c : Int) (i2 : Addr) : Heap := (zq2 h a n c i2).push { cls := .type "tuple", data := .seq #[.none, .none] }
noncomputable abbrev zq4 (h : Heap) (a n c : Int) (i2 : Addr) : Heap := (zq3 h a n c i2).push { cls := .type "zip", data := .fields #[.none, .bool false, .bool false, .ref (zq1 h a n c).objs.size, .ref (zq2 h a n c i2).objs.size] }
theorem meets_zr_new (r i2 : Addr) {a b c : Int} {t u v : Tok} (l : Addr) (hsmall : Builtin.Range.small a b c = true) :
    Meets (Builtin.«zip.__new__» ⟨[.type "zip", .ref r, .ref i2], []⟩) (fun _ R s => IsRange s.heap r a b c t u v ∧ s.heap.IsListIter i2 l 0 ∧
      R (.ok (.ret (.ref (zq3 s.heap a (Builtin.Range.rangeSize a b c) c i2).objs.size))) { s with heap := zq4 s.heap a (Builtin.Range.rangeSize a b c) c i2 }) :=
  .of_wp fun prog w A R s h => by
    obtain ⟨hp, g, d, tk, os⟩ := s; obtain ⟨hr, hi, h⟩ := h
    have hsub := sub_zip
    have hL1 : IsRange (Shared.heap ⟨hp, g, d, tk, os⟩) r a b c t u v := hr
    have hL2 : Heap.IsListIter (Shared.heap ⟨zq1 hp a (Builtin.Range.rangeSize a b c) c, g, d, tk, os⟩) i2 l 0 := Heap.IsListIter.at hi fun o e => Heap.get?_push_of_some _ e
    wp_walk using wpAny_pyIter_range hL1 hsmall, wpAny_pyIter_listiter hL2
    exact ⟨_, rfl, h⟩
theorem call_zr {r i2 l : Addr} {a b c : Int} {t u v : Tok} {ys : Array Value} {n : Int} {Q : Value → Shared → Prop} (hr : IsRange s.heap r a b c t u v) (hsmall : Builtin.Range.small a b c = true) (hn : Builtin.Range.rangeSize a b c = n) (hi : s.heap.IsListIter i2 l 0) (hl : s.heap.IsList l ys)
    (h : ∀ h', ZAt h' (s.heap.objs.size + 3) (s.heap.objs.size + 1) (s.heap.objs.size + 2) s.heap.objs.size i2 l .none a n c 0 ys → h'.objs.size = s.heap.objs.size + 4 →
      (∀ c o, s.heap.get? c = some o → h'.get? c = some o) → Q (.ref (s.heap.objs.size + 3)) { s with heap := h' }) :
    wpAny (model prog w) A (call (.type "zip") [.ref r, .ref i2]) Q E s := by
  subst hn
  refine callType_new F.called_zip (by decide) (F.typeCall_zip_2 _ _) (F.newCall_zip_2 _ _) (fun obj => F.args_object_init_3 obj _ _) F.entry_zip_new
    (meets_zr_new r i2 l hsmall) ⟨hr, hi, ?_⟩
  generalize Builtin.Range.rangeSize a b c = n at *
  have z1 : (zq1 s.heap a n c).objs.size = s.heap.objs.size + 1 := Heap.size_push ..
  have z2 : (zq2 s.heap a n c i2).objs.size = s.heap.objs.size + 2 := by rw [Heap.size_push, z1]
  have z3 : (zq3 s.heap a n c i2).objs.size = s.heap.objs.size + 3 := by rw [Heap.size_push, z2]
  have z4 : (zq4 s.heap a n c i2).objs.size = s.heap.objs.size + 4 := by rw [Heap.size_push, z3]
  have g4 : (zq4 s.heap a n c i2).get? (zq3 s.heap a n c i2).objs.size = some _ := Heap.get?_push_size _ rfl
  have g3 : (zq4 s.heap a n c i2).get? (zq2 s.heap a n c i2).objs.size = some _ := Heap.get?_push_of_some _ (Heap.get?_push_size _ rfl)
  have g2 : (zq4 s.heap a n c i2).get? (zq1 s.heap a n c).objs.size = some _ := Heap.get?_push_of_some _ (Heap.get?_push_of_some _ (Heap.get?_push_size _ rfl))
  have g1 : (zq4 s.heap a n c i2).get? s.heap.objs.size = some _ := Heap.get?_push_of_some _ (Heap.get?_push_of_some _ (Heap.get?_push_of_some _ (Heap.get?_push_size _ rfl)))
  have up : ∀ b o, s.heap.get? b = some o → (zq4 s.heap a n c i2).get? b = some o := fun b o x =>
    Heap.get?_push_of_some _ (Heap.get?_push_of_some _ (Heap.get?_push_of_some _ (Heap.get?_push_of_some _ x)))
  show _ ∧ _
  rw [z1, z2, z3] at g4
  rw [z1] at g2
  rw [z2] at g3
  rw [z3]
  exact ⟨⟨_, g4, rfl⟩, h _ ⟨g4, g2, ⟨_, _, g3⟩, g1, hi.at fun o e => up _ o e, hl.at fun o e => up _ o e⟩ z4 up⟩
theorem zApart_new {n i2 l : Addr} (h1 : i2 < n) (h2 : l < n) (hne : l ≠ i2) : ZApart (n + 3) (n + 1) (n + 2) n i2 l where
  TIz := Nat.ne_of_lt (Nat.add_lt_add_left (by decide) n)
  TOz := Nat.ne_of_lt (Nat.add_lt_add_left (by decide) n)
  i1z := Nat.ne_of_lt (Nat.lt_add_of_pos_right (by decide))
  i2z := Nat.ne_of_lt (Nat.lt_of_lt_of_le h1 (Nat.le_add_right n 3))
  TITO := Nat.ne_of_lt (Nat.add_lt_add_left (by decide) n)
  TIi1 := Nat.ne_of_gt (Nat.lt_add_of_pos_right (by decide))
  TIi2 := Nat.ne_of_gt (Nat.lt_of_lt_of_le h1 (Nat.le_add_right n 1))
  TOi1 := Nat.ne_of_gt (Nat.lt_add_of_pos_right (by decide))
  TOi2 := Nat.ne_of_gt (Nat.lt_of_lt_of_le h1 (Nat.le_add_right n 2))
  i12 := Nat.ne_of_gt h1
  lz := Nat.ne_of_lt (Nat.lt_of_lt_of_le h2 (Nat.le_add_right n 3))
  lTO := Nat.ne_of_lt (Nat.lt_of_lt_of_le h2 (Nat.le_add_right n 2))
  li1 := Nat.ne_of_lt h2
  li2 := hne
end
end
noncomputable section
set_option maxRecDepth 100000
open LCg LCp
noncomputable def pairObj (a b : Value) : Obj := { cls := .type "tuple", data := .seq #[a, b] }
/-- pairs (element, mark), the marks in steps -/
noncomputable def PairsOf (its : List Value) (a c : Int) (tups : Led) : Prop := ∀ j (h : j < tups.length), ∃ t, (tups[j]).2 = pairObj (its.getD j .none) (.int (a + (j : Int) * c) t)
noncomputable def Uniq (tups : Led) : Prop := tups.Pairwise (fun p q => p.1 ≠ q.1)
theorem pairsOf_nil {its : List Value} {a c : Int} : PairsOf its a c [] := fun j h => absurd h (Nat.not_lt_zero j)
theorem pairsOf_snoc {its : List Value} {a c : Int} {tups : Led} (h : PairsOf its a c tups) (T : Addr) (t : Tok) : PairsOf its a c (tups ++ [(T, pairObj (its.getD tups.length .none) (.int (a + (tups.length : Int) * c) t))]) := fun j hj => by
  by_cases hlt : j < tups.length
  · obtain ⟨t, e⟩ := h j hlt
    exact ⟨t, by rw [List.getElem_append_left hlt]; exact e⟩
  · have : j = tups.length := by rw [List.length_append, List.length_singleton] at hj; omega
    subst this
    exact ⟨t, by simp⟩
/-- what stands behind zip's making -/
theorem m1 {b z : Addr} {l : List Addr} (q : b = z) : b ∈ z :: l := q ▸ .head _
theorem m46 {b z TI TO i1 i2 l : Addr} (h : b ∈ [z, TO, i1, i2]) : b ∈ [z, TI, TO, i1, i2, l] := by
  simp only [List.mem_cons, List.not_mem_nil, or_false] at h ⊢
  rcases h with h | h | h | h <;> simp [h]
theorem m24 {b z TO i1 i2 : Addr} (h : b ∈ [z, i1]) : b ∈ [z, TO, i1, i2] := by
  simp only [List.mem_cons, List.not_mem_nil, or_false] at h ⊢
  rcases h with h | h <;> simp [h]
theorem m26 {b z TI TO i1 i2 l : Addr} (h : b ∈ [z, i1]) : b ∈ [z, TI, TO, i1, i2, l] := m46 (m24 h)
inductive SrcZ (A : Around) (h₀ : Heap) (L : Addr) (m : Str → Option Value) (y : Str) (Q : Flow → Shared → Prop) (xv : Value) (s₁ : Shared) : Prop
  | mk (z TI TO i1 i2 l : Addr) (a c : Int) (its : List Value) (k : Nat) (news : Led) (e : xv = .ref z) (hh : A.handled = none) (D : ZApart z TI TO i1 i2 l) (Z : ZAt s₁.heap z TI TO i1 i2 l .none a ((k : Nat) : Int) c 0 (List.toArray its)) (hk : k ≤ its.length) (hkz : k ≤ sizeLine)
      (F : Fr h₀ L s₁.heap m) (N : News h₀ L s₁.heap news) (hnw : ∀ p ∈ news, p.1 ∉ [z, TO, i1, i2]) (hLf : L ∉ [z, TI, TO, i1, i2, l]) (hwr : ∀ b ∈ [z, TO, i1, i2], h₀.get? b = none)
      (fin : ∀ D h tk tups, PairsOf its a c tups → Uniq tups → tups.length = k → (∀ p ∈ tups, D < p.1) → (∀ p ∈ news, p.1 < D) → i2 < D → Fr h₀ L h (fun z => if z = y then some (.ref D) else m z) →
        (∃ oI : Obj, oI.cls = .type "list_iterator" ∧ oI.data = .fields #[.ref l, .int k 0] ∧ News h₀ L h ((D, listOf (tups.map fun q => Value.ref q.1).toArray k) :: (i2, oI) :: (tups ++ news))) → Q .next { s₁ with heap := h, toks := tk }) : SrcZ A h₀ L m y Q xv s₁
inductive LoopZ (s₁ : Shared) (k : Nat) (z TI TO i1 i2 l : Addr) (a c : Int) (its : List Value) (S : Nat) (n : Nat) (s' : Shared) : Prop
  | mk (h' : Heap) (tk i : Nat) (m' : Str → Option Value) (tups : Led) (e : s' = { s₁ with heap := h', toks := tk }) (hi : i ≤ k) (hn : n = k + 1 - i) (hlen : tups.length = i) (Z' : ZAt h' z TI TO i1 i2 l .none (a + (i : Nat) * c) ((k : Int) - (i : Nat)) c i its.toArray)
      (hn' : h'.Ns (S + 1) m') (hD' : h'.get? S = some (lst (tups.map fun q => Value.ref q.1))) (hT' : ∀ p ∈ tups, h'.get? p.1 = some p.2 ∧ S + 1 < p.1) (hP' : PairsOf its a c tups) (hU' : Uniq tups) (hsz' : S + 2 ≤ h'.objs.size)
      (hk' : ∀ b o, b ∉ [z, TO, i1, i2] → s₁.heap.get? b = some o → h'.get? b = some o) : LoopZ s₁ k z TI TO i1 i2 l a c its S n s'
section
variable {prog : Program} {w : World} {A : Around} {E : Value → Shared → Prop} {s : Shared} {h₀ : Heap} {m : Str → Option Value} {env : Env}
theorem zr_comp {iter : Expr} {xi xe y : Str} {pi pe pi2 pe2 tp tp2 py : Pos} {tk tk2} {scope : Scope} {cl : List (Str × Addr)} {pos spos : Pos} {Q : Flow → Shared → Prop} (F₀ : Fr h₀ env.locals s.heap m)
    (hsw : swapsWith (.ListComp (.Tuple [.Name xe pe2, .Name xi pi2] tk2 tp2) [⟨.Tuple [.Name xi pi, .Name xe pe] tk tp, iter, [], 0⟩] scope pos) (some (.Name y py)) spos.line env = pure true)
    (hclos : closureFor scope env = pure cl) (hcell : ∀ z ∈ scope.names, z.2 ≠ .cell) (hkind : scope.kind = .function)
    (hnames : ∀ z ∈ scope.names, z.2 = .local → scope.names.lookup z.1 = some .local) (hx : scope.names.lookup xi = some .local) (hx₂ : scope.names.lookup xe = some .local) (hxx : xi ≠ xe)
    (hdx : (xi == ("__debug__" : Str)) = false) (hdx₂ : (xe == ("__debug__" : Str)) = false)
    (hy : env.kindOf y = some .local) (hp : (env.scope.kind == .class || (env.scope.kind == .module && env.locals != env.globals)) = false)
    (h : wpAny (model prog w) A (eval iter env) (SrcZ A h₀ env.locals m y Q) E s)
    (hs : ∀ x, foldedSetIterable iter env x = pure x := by intro _; rfl) :
    wpAny (model prog w) A (exec (.Assign [.Name y py] (.ListComp (.Tuple [.Name xe pe2, .Name xi pi2] tk2 tp2) [⟨.Tuple [.Name xi pi, .Name xe pe] tk tp, iter, [], 0⟩] scope pos) spos) env) Q E s := by
  rw [exec_Assign_Name_used _ _ _ _ hsw]
  refine wpAny_bind (wpAny_standAt (wpAny_bind ?_))
  show wpAny _ A (do let _ ← comprehension (.ListComp (.Tuple [.Name xe pe2, .Name xi pi2] tk2 tp2) [⟨.Tuple [.Name xi pi, .Name xe pe] tk tp, iter, [], 0⟩] scope pos) scope env _ (newList []) false (eval iter env) (some (assign (.Name y py) env))) _ _ s
  refine wpAny_bind (wpAny_mono (wpAny_comprehension_free (use := some (assign (.Name y py) env)) (Q := fun _ s' => Q .next s') rfl hs hclos hkind hnames
    (wpAny_mono h (fun xv s₁ h₁ => ?_) fun _ _ e => e)) (fun _ s' hq => wpAny_pure (wpAny_pure hq)) fun _ _ e => e)
  obtain ⟨z, TI, TO, i1, i2, l, a, c, its, k, news, rfl, hh, D, Z, hk, hkz, F, N, hnw, hLf, hwr, fin⟩ := h₁
  refine wpAny_pyIter_zip Z.hz ?_
  have Zs := Z
  obtain ⟨hz, hTI, ⟨ta, tb, hTO⟩, hi1, hi2, hl⟩ := Zs
  have zlt : ∀ b ∈ [z, TI, TO, i1, i2, l], b < s₁.heap.objs.size := by
    intro b hb
    simp only [List.mem_cons, List.not_mem_nil, or_false] at hb
    rcases hb with rfl | rfl | rfl | rfl | rfl | rfl
    · exact Heap.lt_size hz
    · exact Heap.lt_size hTI
    · exact Heap.lt_size hTO
    · exact Heap.lt_size hi1
    · obtain ⟨_, e, _⟩ := hi2; exact Heap.lt_size e
    · obtain ⟨_, e, _⟩ := hl; exact Heap.lt_size e
  refine wpAny_newObj_type (wpAny_newFunctionEnv hcell (by intro y hy; simp at hy) (fun h₁ hns₁ hsb₁ => ?_) hkind)
  dsimp only at hns₁ hsb₁ ⊢
  generalize hS : s₁.heap.objs.size = S at *
  generalize hH2 : s₁.heap.push { cls := .type "list", dict := none, data := .seq ([] : List Value).toArray } = H2 at hns₁ hsb₁ ⊢
  have hC : H2.objs.size = S + 1 := by rw [← hH2, Heap.size_push, hS]
  generalize hCe : H2.objs.size = C at hns₁ hsb₁ hC ⊢
  subst hC
  have old : ∀ b o, s₁.heap.get? b = some o → h₁.get? b = some o := fun b o e => by
    have hb : b < S := hS ▸ Heap.lt_size e
    exact hsb₁.extBut b o (Nat.ne_of_lt (Nat.lt_succ_of_lt hb)) (Heap.get?_push_of_some _ (hH2 ▸ Heap.get?_push_of_some _ e))
  have hacc : h₁.get? S = some (lst []) := by
    have e := Heap.get?_push_size s.heap (o := lst []) rfl
    refine hsb₁.extBut _ _ (Nat.ne_of_lt (Nat.lt_succ_self S)) (Heap.get?_push_of_some _ ?_)
    rw [← hH2, ← hS]
    exact Heap.get?_push_size _ rfl
  have hsz₁ : h₁.objs.size = S + 2 := by rw [hsb₁.1, Heap.size_push, hCe]
  have hLlt : env.locals < S := hS ▸ F.ns.lt
  have fresh₀ : ∀ b, S ≤ b → h₀.get? b = none := fun b hb => by
    cases e : h₀.get? b with
    | none => rfl
    | some o' => have := Heap.lt_size (F.keep b o' e); rw [hS] at this; exact absurd this (Nat.not_lt.mpr hb)
  have loop : ∀ s₃ : Shared, s₃ = { s₁ with heap := h₁, toks := s₁.toks + ([] : List (Str × Value)).length } →
      codeAny (model prog w) A (.compLoop (.ListComp (.Tuple [.Name xe pe2, .Name xi pi2] tk2 tp2) [⟨.Tuple [.Name xi pi, .Name xe pe] tk tp, iter, [], 0⟩] scope pos) 0 (.ref z) (.ref S) (compEnvC scope cl (S + 1) env))
        (compPost (model prog w) A E (some (assign (.Name y py) env)) (fun _ s' => Q .next s') (.ref S) (S + 1)) s₃ := by
    rintro s₃ rfl
    refine codeAny_compLoop_pair
      (LoopZ s₁ k z TI TO i1 i2 l a c its S) ?_ (k + 1)
      ⟨h₁, _, 0, _, [], rfl, Nat.zero_le _, rfl, rfl, ?_, hns₁, hacc, (fun p hp => nomatch hp), pairsOf_nil, List.Pairwise.nil, by rw [hsz₁]; exact Nat.le_refl _, fun b o _ e => old b o e⟩
    · rintro n s' ⟨h', tk, i, m', tups, rfl, hi, rfl, hlen, Z', hn', hD', hT', hP', hU', hsz', hk'⟩
      by_cases hlt : i < k
      · refine zr_pyNext_item D Z' (by omega) (y := its.getD i .none) (by
          rw [List.getElem?_toArray]; exact getD_some (by omega)) fun h₂ Z₂ hT₂ hsz₂ hk₂ => ?_
        replace hsz₂ : h₂.objs.size = h'.objs.size + 1 := hsz₂
        replace hT₂ : IsPair h₂ h'.objs.size (.int (a + (i : Nat) * c) tk) (its.getD i .none) := hT₂
        refine wpAny_letOwnedTupleGo_zip Z₂.hz fun h₃ hz₃ hs₃ => ?_
        replace hs₃ : Heap.SameBut z h₂ h₃ := hs₃
        have hzlt' : z < h'.objs.size := Nat.lt_of_lt_of_le (zlt z (.head _)) (Nat.le_trans (Nat.le_add_right S 2) hsz')
        have hT₃ : IsTup h₃ h'.objs.size #[.int (a + (i : Nat) * c) tk, its.getD i .none] := ⟨_, hs₃.extBut _ _ (Nat.ne_of_gt hzlt') hT₂, rfl, _, rfl⟩
        refine assign_Tuple_tuple hh hT₃ rfl rfl fun h₅ he => ?_
        replace he : ∀ b o, h₃.get? b = some o → h₅.get? b = some o := fun b o e => he b o (Nat.ne_of_lt (Heap.lt_size e)) e
        have nz : ∀ {b}, b ∈ [z, TO, i1, i2] → b < S := fun {b} hb => zlt b (m46 hb)
        have up5 : ∀ b o, b ∉ [z, TO, i1, i2] → h'.get? b = some o → h₅.get? b = some o := fun b o hb e =>
          he b o (hs₃.extBut b o (fun q => hb (by first | exact m1 q | exact .tail _ (m1 q) | exact .tail _ (.tail _ (m1 q)) | exact .tail _ (.tail _ (.tail _ (m1 q))) | simp [q])) (hk₂ b o (fun q => hb (by first | exact m1 q | exact .tail _ (m1 q) | exact .tail _ (.tail _ (m1 q)) | exact .tail _ (.tail _ (.tail _ (m1 q))) | simp [q])) (fun q => hb (by first | exact m1 q | exact .tail _ (m1 q) | exact .tail _ (.tail _ (m1 q)) | exact .tail _ (.tail _ (.tail _ (m1 q))) | simp [q])) (fun q => hb (by first | exact m1 q | exact .tail _ (m1 q) | exact .tail _ (.tail _ (m1 q)) | exact .tail _ (.tail _ (.tail _ (m1 q))) | simp [q])) (fun q => hb (by first | exact m1 q | exact .tail _ (m1 q) | exact .tail _ (.tail _ (m1 q)) | exact .tail _ (.tail _ (.tail _ (m1 q))) | simp [q])) e))
        have off : ∀ {b}, S ≤ b → b ∉ [z, TO, i1, i2] := fun {b} hb hm => Nat.lt_irrefl _ (Nat.lt_of_lt_of_le (nz hm) hb)
        refine assignInOrder_cons (wpAny_assign_Name (wpAny_storeName_local (lookup_relabel_local hx) (hn'.at' fun o e => up5 _ o (off (Nat.le_succ S)) e) (fun h₆ hn₆ hs₆ => ?_) (by simp [compEnvC, relabel, hkind])))
        refine assignInOrder_cons (wpAny_assign_Name (wpAny_storeName_local (lookup_relabel_local hx₂) hn₆ (fun h₇ hn₇ hs₇ => ?_) (by simp [compEnvC, relabel, hkind])))
        refine assignInOrder_nil ?_
        replace hs₆ : Heap.SameBut (S + 1) h₅ h₆ := hs₆
        replace hs₇ : Heap.SameBut (S + 1) h₆ h₇ := hs₇
        have up7 : ∀ b o, b ≠ S + 1 → h₅.get? b = some o → h₇.get? b = some o := fun b o hb e => hs₇.extBut b o hb (hs₆.extBut b o hb e)
        refine wpAny_Tuple ?_
        refine wpAny_items_cons ?_
        refine ldVarK (v := its.getD i .none) hn₇ (by simp) ?_ hkind (lookup_relabel_local hx₂) hdx₂
        refine wpAny_items_cons ?_
        refine ldVarK (v := .int (a + (i : Nat) * c) tk) hn₇ (by simp [hxx]) ?_ hkind (lookup_relabel_local hx) hdx
        refine wpAny_items_nil ⟨by size_fits, ?_⟩
        have up5' : ∀ b ∈ [z, TI, TO, i1, i2, l], ∀ o, h₂.get? b = some o → b ≠ z → h₇.get? b = some o := fun b hb o e hbz =>
          up7 _ _ (Nat.ne_of_lt (Nat.lt_succ_of_lt (zlt b hb))) (he _ _ (hs₃.extBut _ _ hbz e))
        have Z₇ : ZAt h₇ z TI TO i1 i2 l .none (a + (i : Nat) * c + c) ((k : Int) - (i : Nat) - 1) c (i + 1) its.toArray := by
          refine ⟨up7 _ _ (Nat.ne_of_lt (Nat.lt_succ_of_lt (zlt z (.head _)))) (he _ _ hz₃), up5' _ (by simp) _ Z₂.hTI D.TIz, ?_, up5' _ (by simp) _ Z₂.h1 D.i1z, Z₂.h2.at fun o e => up5' _ (by simp) o e D.i2z, Z₂.hl.at fun o e => up5' _ (by simp) o e D.lz⟩
          obtain ⟨p, q, r⟩ := Z₂.hTO
          exact ⟨p, q, up5' _ (by simp) _ r D.TOz⟩
        have hD₇ : h₇.get? S = some (lst (tups.map fun q => Value.ref q.1)) := up7 _ _ (Nat.ne_of_lt (Nat.lt_succ_self S)) (up5 _ _ (off (Nat.le_refl S)) hD')
        have hT₇ : ∀ p ∈ tups, h₇.get? p.1 = some p.2 := fun p hp => up7 _ _ (Nat.ne_of_gt (hT' p hp).2) (up5 _ _ (off (Nat.le_of_lt (Nat.lt_of_succ_lt (hT' p hp).2))) (hT' p hp).1)
        have hsz₇ : h'.objs.size < h₇.objs.size := by
          have : h₇.get? h'.objs.size = some (pairObj (.int (a + (i : Nat) * c) tk) (its.getD i .none)) := up7 _ _ (Nat.ne_of_gt (by omega)) (he _ _ (hs₃.extBut _ _ (Nat.ne_of_gt hzlt') hT₂))
          exact Heap.lt_size this
        have hk₇ : ∀ b o, b ∉ [z, TO, i1, i2] → s₁.heap.get? b = some o → h₇.get? b = some o := fun b o hb e => up7 _ _ (Nat.ne_of_lt (Nat.lt_succ_of_lt (hS ▸ Heap.lt_size e))) (up5 _ _ hb (hk' _ _ hb e))
        refine append_at (its := (tups.map fun q => Value.ref q.1).toArray) (n := (tups.map fun q => Value.ref q.1).length) (Heap.get?_push_of_some _ hD₇) (hsz := by show _ ≤ sizeLine; rw [List.size_toArray, List.length_map, hlen]; exact Nat.le_trans hi hkz) fun h₈ hs₈ hD₈ => ?_
        replace hs₈ : Heap.SameBut S (h₇.push (pairObj (its.getD i .none) (.int (a + (i : Nat) * c) tk))) h₈ := hs₈
        have up8 : ∀ b o, b ≠ S → h₇.get? b = some o → h₈.get? b = some o := fun b o hb e => hs₈.extBut b o hb (Heap.get?_push_of_some _ e)
        refine ⟨k + 1 - (i + 1), by omega, h₈, _, i + 1, _, tups ++ [(h₇.objs.size, pairObj (its.getD i .none) (.int (a + (i : Nat) * c) tk))], rfl, hlt, rfl, by rw [List.length_append, List.length_singleton, hlen], ?_, hn₇.at' fun o e => up8 _ o (Nat.ne_of_gt (Nat.lt_succ_self S)) e, ?_, ?_, ?_, ?_, ?_, ?_⟩
        · have e1 : a + ((i + 1 : Nat) : Int) * c = a + (i : Nat) * c + c := by push_cast; rw [Int.add_mul, Int.one_mul, Int.add_assoc]
          have e2 : (k : Int) - ((i + 1 : Nat) : Int) = (k : Int) - (i : Nat) - 1 := by push_cast; omega
          rw [e1, e2]
          exact Z₇.keeps fun b hb o e => up8 b o (Nat.ne_of_lt (zlt b hb)) e
        · rw [hD₈, lst_snoc, List.map_append]; rfl
        · intro p hp
          rcases List.mem_append.mp hp with hp | hp
          · exact ⟨up8 _ _ (Nat.ne_of_gt (Nat.lt_of_succ_lt (hT' p hp).2)) (hT₇ p hp), (hT' p hp).2⟩
          · rw [List.mem_singleton.mp hp]
            refine ⟨hs₈.extBut _ _ (Nat.ne_of_gt (by omega)) (Heap.get?_push_size _ rfl), by omega⟩
        · have := pairsOf_snoc hP' h₇.objs.size tk
          rw [hlen] at this
          exact this
        · refine List.pairwise_append.mpr ⟨hU', List.pairwise_singleton _ _, fun p hp q hq => ?_⟩
          rw [List.mem_singleton.mp hq]
          exact Nat.ne_of_lt (Heap.lt_size (hT₇ p hp))
        · rw [hs₈.1, Heap.size_push]; omega
        · exact fun b o hb e => up8 _ _ (Nat.ne_of_lt (hS ▸ Heap.lt_size e)) (hk₇ b o hb e)
      · obtain rfl : i = k := Nat.le_antisymm hi (Nat.not_lt.mp hlt)
        refine zr_pyNext_end hh D Z' (by omega) fun h₂ hk₂ => ?_
        have nz : ∀ {b}, b ∈ [z, TO, i1, i2] → b < S := fun {b} hb => zlt b (m46 hb)
        have off : ∀ {b}, S ≤ b → b ∉ [z, TO, i1, i2] := fun {b} hb hm => Nat.lt_irrefl _ (Nat.lt_of_lt_of_le (nz hm) hb)
        have up2 : ∀ b o, b ∉ [z, i1] → h'.get? b = some o → h₂.get? b = some o := fun b o hb e => hk₂ b o (fun q => hb (by first | exact m1 q | exact .tail _ (m1 q) | exact .tail _ (.tail _ (m1 q)) | exact .tail _ (.tail _ (.tail _ (m1 q))) | simp [q])) (fun q => hb (by first | exact m1 q | exact .tail _ (m1 q) | exact .tail _ (.tail _ (m1 q)) | exact .tail _ (.tail _ (.tail _ (m1 q))) | simp [q])) e
        have off2 : ∀ {b}, S ≤ b → b ∉ [z, i1] := fun {b} hb hm => off hb (m24 hm)
        have F₂ : Fr h₀ env.locals h₂ m := by
          refine ⟨F.ns.at' fun o e => up2 _ o (fun q => hLf ?_) (hk' _ o (fun q => hLf ?_) e), fun b o e => ?_, F.above⟩
          · exact m26 q
          · exact m46 q
          · have nb : b ∉ [z, TO, i1, i2] := fun q => by rw [hwr b q] at e; cases e
            exact up2 b o (fun q => nb (m24 q)) (hk' b o nb (F.keep b o e))
        show wpAny _ A (assign (.Name y py) env (.ref S)) _ _ _
        refine wpAny_assign_Name (wpAny_storeName_local hy F₂.ns (fun h₃ hn₃ hs₃ => ?_) hp)
        replace hs₃ : Heap.SameBut env.locals h₂ h₃ := hs₃
        have hL₀ : h₀.get? env.locals = none := Heap.get?_none_of_le F₂.above
        have F₃ : Fr h₀ env.locals h₃ (fun z => if z = y then some (.ref S) else m z) := ⟨hn₃, fun b o e => hs₃.extBut b o (fun q => by rw [q, hL₀] at e; cases e) (F₂.keep b o e), F₂.above⟩
        refine ⟨m', (hn'.at' fun o e => up2 _ o (off2 (Nat.le_succ S)) e).sameBut hs₃ (Nat.ne_of_gt (Nat.lt_succ_of_lt hLlt)), fun h'' hs'' => ?_⟩
        replace hs'' : Heap.SameBut (S + 1) h₃ h'' := hs''
        have hC₀ : h₀.get? (S + 1) = none := fresh₀ _ (Nat.le_succ S)
        have hi2lt : i2 < S := zlt i2 (by simp)
        have upE : ∀ b o, b ∉ [z, i1] → b ≠ env.locals → b ≠ S + 1 → h'.get? b = some o → h''.get? b = some o := fun b o h1 h2 h3 e => hs''.extBut b o h3 (hs₃.extBut b o h2 (up2 b o h1 e))
        have hI2 := Z'.h2
        obtain ⟨oI, heI, hcI, hdI⟩ := hI2
        refine fin S h'' _ tups hP' hU' hlen (fun p hp => Nat.lt_of_succ_lt (hT' p hp).2) (fun p hp => hS ▸ Heap.lt_size (N p hp).1) hi2lt (F₃.change hs'' (Nat.ne_of_gt (Nat.lt_succ_of_lt hLlt)) hC₀) ⟨oI, hcI, hdI, fun p hp => ?_⟩
        rcases List.mem_cons.mp hp with rfl | hp
        · refine ⟨upE _ _ (off2 (Nat.le_refl S)) (Nat.ne_of_gt hLlt) (Nat.ne_of_lt (Nat.lt_succ_self S)) ?_, Nat.ne_of_gt hLlt, fresh₀ _ (Nat.le_refl S)⟩
          rw [hD', ← hlen]
          simp only [lst, List.length_map]
        rcases List.mem_cons.mp hp with rfl | hp
        · refine ⟨upE _ _ ?_ ?_ (Nat.ne_of_lt (Nat.lt_succ_of_lt hi2lt)) heI, ?_, hwr _ (by simp)⟩
          · simp; exact ⟨D.i2z, D.i12.symm⟩
          · intro q; exact hLf (by simp [← q])
          · intro q; exact hLf (by simp [← q])
        rcases List.mem_append.mp hp with hp | hp
        · have hpS := (hT' p hp).2
          have hSp : S < p.1 := Nat.lt_of_succ_lt hpS
          exact ⟨upE _ _ (off2 (Nat.le_of_lt hSp)) (Nat.ne_of_gt (Nat.lt_trans hLlt hSp)) (Nat.ne_of_gt hpS) (hT' p hp).1, Nat.ne_of_gt (Nat.lt_trans hLlt hSp), fresh₀ _ (Nat.le_of_lt hSp)⟩
        · have hnp := hnw p hp
          have hlt' : p.1 < S := hS ▸ Heap.lt_size (N p hp).1
          refine ⟨upE _ _ (fun q => hnp ?_) (N p hp).2.1 (Nat.ne_of_lt (Nat.lt_succ_of_lt hlt')) (hk' _ _ hnp (N p hp).1), (N p hp).2⟩
          exact m24 q
    · have e1 : a + ((0 : Nat) : Int) * c = a := by simp
      have e2 : (k : Int) - ((0 : Nat) : Int) = k := by simp
      rw [e1, e2]
      exact Z.keeps fun b _ o e => old b o e
  exact codeAny_compStart_list (loop _ rfl) (wpAny_pyIter_zip (old _ _ hz) (loop _ rfl))
end
end
noncomputable section
set_option maxRecDepth 100000
/-- the pair that a ledger tells of a value -/
noncomputable def tkey (ro : Led) (v : Value) : List UInt8 × Int :=
  match v with
  | .ref a => match ro.lookup a with
    | some ⟨_, _, .seq xs _, _⟩ => (bk (xs.getD 0 .none), match xs.getD 1 .none with | .int x _ => x | _ => 0)
    | _ => ([], 0)
  | _ => ([], 0)
noncomputable def IsTu (ro : Led) (v : Value) : Prop := ∃ a b t x u, v = .ref a ∧ ro.lookup a = some (pairObj (.bytes b t) (.int x u))
noncomputable def plt (p q : List UInt8 × Int) : Bool := blt p.1 q.1 || (decide (p.1 = q.1) && decide (p.2 < q.2))
noncomputable def tlt (ro : Led) (x y : Value) : Bool := plt (tkey ro x) (tkey ro y)
theorem mem_of_look {ro : Led} {a : Addr} {o : Obj} (h : ro.lookup a = some o) : (a, o) ∈ ro := by
  obtain ⟨p, q, h1, h2⟩ := List.lookup_eq_some_iff.mp h
  rw [h1]; simp
theorem tkey_eq {ro : Led} {a : Addr} {b : Array UInt8} {t u : Tok} {x : Int} (h : ro.lookup a = some (pairObj (.bytes b t) (.int x u))) : tkey ro (.ref a) = (b.toList, x) := by
  unfold tkey
  simp only [h, pairObj]
  rfl
theorem plt_asymm (p q : List UInt8 × Int) (h : plt p q = true) : plt q p = false := by
  unfold plt at *
  simp only [Bool.or_eq_true, Bool.and_eq_true, decide_eq_true_eq] at h
  rcases h with h | ⟨h1, h2⟩
  · rw [blt_asymm _ _ h]
    have hne : q.1 ≠ p.1 := fun e => by rw [e, blt_irrefl] at h; cases h
    simp [hne]
  · rw [h1, blt_irrefl]
    simp
    omega
theorem plt_ftrans (p q r : List UInt8 × Int) (h1 : plt p q = false) (h2 : plt q r = false) : plt p r = false := by
  unfold plt at *
  simp only [Bool.or_eq_false_iff, Bool.and_eq_false_iff, decide_eq_false_iff_not] at *
  obtain ⟨a1, a2⟩ := h1
  obtain ⟨b1, b2⟩ := h2
  refine ⟨blt_ftrans _ _ _ a1 b1, ?_⟩
  by_cases e : p.1 = r.1
  · right
    have e1 : p.1 = q.1 := by
      refine blt_total _ _ a1 ?_
      rw [e]; exact b1
    have e2 : q.1 = r.1 := e1 ▸ e
    have c1 := a2.resolve_left (fun n => n e1)
    have c2 := b2.resolve_left (fun n => n e2)
    omega
  · exact .inl e
theorem weak_tup (ro : Led) : Weak (IsTu ro) (tlt ro) := ⟨fun _ _ h => plt_asymm _ _ h, fun _ _ _ h1 h2 => plt_ftrans _ _ _ h1 h2⟩
theorem weak_flip {S : Value → Prop} {lt : Value → Value → Bool} (W : Weak S lt) : Weak S (fun a b => lt b a) := ⟨fun ha hb h => W.asymm hb ha h, fun ha hb hc h1 h2 => W.trans hc hb ha h2 h1⟩
section
variable {prog : Program} {w : World} {A : Around} {E : Value → Shared → Prop} {s : Shared}
theorem isSub_tuple : isSubtype (.type "tuple") (.type "tuple") = pure true := by rw [isSubtype_type]; kernel_rfl
theorem tuple_lt_tree {a b : Addr} {x y : Array UInt8} {t1 t2 u1 u2 : Tok} {i j : Int} {P : PySem.Fin → Shared → Prop} (ha : s.heap.get? a = some (pairObj (.bytes x t1) (.int i u1))) (hb : s.heap.get? b = some (pairObj (.bytes y t2) (.int j u2)))
    (h : P (.done (.ret (.bool (plt (x.toList, i) (y.toList, j))))) s) :
    wpAny (model prog w) A (Builtin.«tuple.__lt__» ⟨[.ref a, .ref b], []⟩) P E s := by
  have hTb : s.TypeIs (.ref b) "tuple" := ⟨_, hb, rfl⟩
  show wpAny _ _ (isInstance (.ref b) (.type "tuple") >>= _) _ _ s
  refine wpAny_bind (wpAny_isInstance hTb isSub_tuple ?_)
  simp only [Bool.not_true, Bool.false_eq_true, if_false]
  refine wpAny_bind (wpAny_tupleItemsOf ha rfl ?_)
  refine wpAny_bind (wpAny_tupleItemsOf hb rfl ?_)
  refine wpAny_bind ?_
  simp only [List.zip_cons_cons, List.zip_nil_left, List.forIn_cons, List.forIn_nil]
  refine wpAny_bind (wpAny_bind (eqBool_bytes ?_))
  by_cases he : x.toList = y.toList
  · rw [decide_eq_true he]
    simp only [Bool.not_true, Bool.false_eq_true, if_false]
    refine wpAny_pure ?_
    refine wpAny_bind (wpAny_bind (wpAny_eqBool_int ?_))
    by_cases hij : (i == j) = true
    · rw [hij]
      simp only [Bool.not_true, Bool.false_eq_true, if_false]
      refine wpAny_pure ?_
      refine wpAny_pure ?_
      have e : i = j := by simpa using hij
      have ep : plt (x.toList, i) (y.toList, j) = false := by unfold plt; rw [he, blt_irrefl, e]; simp
      rw [ep] at h
      exact wpAny_pure h
    · rw [Bool.not_eq_true] at hij
      rw [hij]
      simp only [Bool.not_false, if_true]
      refine wpAny_bind (wpAny_rule ?_)
      refine wpAny_bind ?_
      show wpAny _ _ (compareOp .Lt (.int i u1) (.int j u2)) _ _ _
      have ep : plt (x.toList, i) (y.toList, j) = decide (i < j) := by unfold plt; rw [he, blt_irrefl]; simp
      rw [ep] at h
      exact lt_int (wpAny_bind (wpAny_pure (wpAny_pure (wpAny_pure (wpAny_pure h)))))
  · rw [decide_eq_false he]
    simp only [Bool.not_false, if_true]
    refine wpAny_bind (wpAny_rule ?_)
    refine wpAny_bind ?_
    show wpAny _ _ (compareOp .Lt (.bytes x t1) (.bytes y t2)) _ _ _
    have ep : plt (x.toList, i) (y.toList, j) = blt x.toList y.toList := by
      unfold plt
      dsimp only
      rw [decide_eq_false he]
      simp
    rw [ep] at h
    exact lt_bytes (wpAny_bind (wpAny_pure (wpAny_pure (wpAny_pure (wpAny_pure h)))))
theorem lt_tuple {a b : Addr} {x y : Array UInt8} {t1 t2 u1 u2 : Tok} {i j : Int} {Q : Value → Shared → Prop} (ha : s.heap.get? a = some (pairObj (.bytes x t1) (.int i u1))) (hb : s.heap.get? b = some (pairObj (.bytes y t2) (.int j u2))) (hu : A.units < cLine)
    (h : Q (.bool (plt (x.toList, i) (y.toList, j))) s) : wpAny (model prog w) A (compareOp .Lt (.ref a) (.ref b)) Q E s := by
  have hTa : s.TypeIs (.ref a) "tuple" := ⟨_, ha, rfl⟩
  have hTb : s.TypeIs (.ref b) "tuple" := ⟨_, hb, rfl⟩
  show wpAny _ _ (richCompare .Lt (.ref a) (.ref b)) _ _ _
  exact wpAny_richCompare_same_room (op := .Lt) hTa hTb F.slot_tuple_lt (wpAny_call_entry F.slot_tuple_lt hTa F.entry_tuple_lt (tuple_lt_tree ha hb ⟨_, rfl, ⟨(by intro e; cases e), h⟩⟩) (F.args_tuple_lt_2 _ _)) hu
end
theorem ltOn_tup (w : World) (ro : Led) : LtOn w ro (IsTu ro) (tlt ro) := ⟨fun {A E s Q x y} hx hy hu hro h => by
  obtain ⟨a, b, t, i, u, rfl, ha⟩ := hx
  obtain ⟨a', b', t', i', u', rfl, ha'⟩ := hy
  refine lt_tuple (hro _ (mem_of_look ha)) (hro _ (mem_of_look ha')) (by omega) ?_
  have := h s.toks
  unfold tlt at this
  rw [tkey_eq ha, tkey_eq ha'] at this
  exact this⟩
end
noncomputable section
set_option maxRecDepth 100000
set_option linter.unusedVariables false
noncomputable def Dist (ro : Led) (us : List Value) : Prop := us.Pairwise (fun a b => (tkey ro a).2 ≠ (tkey ro b).2)
theorem Dist.perm {ro : Led} {us vs : List Value} (h : us.Perm vs) (hd : Dist ro us) : Dist ro vs := (h.pairwise_iff (fun {_ _} h => Ne.symm h)).mp hd
theorem Dist.get {ro : Led} {us : List Value} (hd : Dist ro us) {i j : Nat} (hi : i < us.length) (hj : j < us.length) (hne : i ≠ j) : (tkey ro (us.getD i .none)).2 ≠ (tkey ro (us.getD j .none)).2 := by
  have h := List.pairwise_iff_getElem.mp hd
  rw [List.getD_eq_getElem?_getD, List.getElem?_eq_getElem hi, List.getD_eq_getElem?_getD, List.getElem?_eq_getElem hj]
  rcases Nat.lt_or_gt_of_ne hne with h1 | h1
  · exact h i j hi hj h1
  · exact Ne.symm (h j i hj hi h1)
theorem plt_total {p q : List UInt8 × Int} (h : p.2 ≠ q.2) : plt p q = true ∨ plt q p = true := by
  cases h1 : plt p q with
  | true => exact .inl rfl
  | false =>
    cases h2 : plt q p with
    | true => exact .inr rfl
    | false =>
      exfalso
      unfold plt at h1 h2
      simp only [Bool.or_eq_false_iff, Bool.and_eq_false_iff, decide_eq_false_iff_not] at h1 h2
      have e := blt_total _ _ h1.1 h2.1
      have c1 := h1.2.resolve_left (fun n => n e)
      have c2 := h2.2.resolve_left (fun n => n e.symm)
      omega
theorem plt_irrefl (p : List UInt8 × Int) : plt p p = false := by unfold plt; rw [blt_irrefl]; simp
theorem lin_tup {ro : Led} {us : List Value} (hd : Dist ro us) : Lin (fun i j => tlt ro (us.getD i .none) (us.getD j .none)) us.length where
  irr := fun i _ => plt_irrefl _
  tot := fun i j hi hj hne => plt_total (hd.get hi hj hne)
  asy := fun i j _ _ h => plt_asymm _ _ h
  tr := fun i j k _ _ _ h1 h2 => plt_ftrans _ _ _ h1 h2
theorem katTups_of {h : Heap} {ro : Led} (hro : ∀ q ∈ ro, h.get? q.1 = some q.2) : ∀ {vs : List Value}, (∀ v ∈ vs, IsTu ro v) → ∃ fs : List Value, KatTups h vs fs ∧ fs.length = vs.length ∧ ∀ f ∈ fs, IsB f
  | [], _ => ⟨[], KatTups.nil, rfl, fun _ hf => nomatch hf⟩
  | v :: vs, hv => by
    obtain ⟨fs, h1, h2, h3⟩ := katTups_of hro (vs := vs) fun x hx => hv x (.tail _ hx)
    obtain ⟨a, b, t, x, u, rfl, ha⟩ := hv v (.head _)
    refine ⟨.bytes b t :: fs, KatTups.cons (hro _ (mem_of_look ha)) rfl rfl rfl h1, by simp [h2], fun f hf => ?_⟩
    rcases List.mem_cons.mp hf with rfl | hf
    · exact ⟨b, t, rfl⟩
    · exact h3 f hf
section
variable {prog : Program} {w : World} {A : Around} {E : Value → Shared → Prop} {s : Shared}
theorem keyLt_tup {ro : Led} {x y : Value} {Q : Bool → Shared → Prop} (hx : IsTu ro x) (hy : IsTu ro y) (hro : ∀ q ∈ ro, s.heap.get? q.1 = some q.2) (h : Q (tlt ro x y) s) :
    wpAny (model prog w) A (keyLt' (tuples' true) x y) Q E s := by
  obtain ⟨a, b, t, i, u, rfl, ha⟩ := hx
  obtain ⟨a', b', t', i', u', rfl, ha'⟩ := hy
  unfold tlt at h
  rw [tkey_eq ha, tkey_eq ha'] at h
  refine kat_lt (hro _ (mem_of_look ha)) rfl (hro _ (mem_of_look ha')) rfl ?_
  show KatLex prog w A true _ Q [(.bytes b t, .bytes b' t'), (.int i u, .int i' u')] 0 s
  refine kat_cons (eqBool_bytes ?_)
  by_cases he : b.toList = b'.toList
  · rw [decide_eq_true he]
    refine kat_yes (kat_cons (wpAny_eqBool_int ?_))
    by_cases hi : (i == i') = true
    · rw [hi]
      refine kat_yes (kat_nil ?_)
      have e : i = i' := by simpa using hi
      rw [show plt (b.toList, i) (b'.toList, i') = false by unfold plt; rw [he, blt_irrefl, e]; simp] at h
      exact h
    · rw [Bool.not_eq_true] at hi
      rw [hi]
      refine kat_no ?_
      show wpAny _ _ (oneLt' false _ _) _ _ _
      refine kat_one _ _ (lt_int ?_)
      rw [show plt (b.toList, i) (b'.toList, i') = decide (i < i') by unfold plt; rw [he, blt_irrefl]; simp] at h
      exact h
  · rw [decide_eq_false he]
    refine kat_no ?_
    show wpAny _ _ (oneLt' true _ _) _ _ _
    refine oneLt_bytes ?_
    rw [show plt (b.toList, i) (b'.toList, i') = blt b.toList b'.toList by unfold plt; dsimp only; rw [decide_eq_false he]; simp] at h
    exact h
noncomputable def outOf (vs : List Value) (p : Array Nat) : List Value := p.toList.map fun i => vs.getD i Value.none
theorem outOf_perm {vs : List Value} {p : Array Nat} (h : IsPerm p vs.length) : (outOf vs p).Perm vs := by
  have e : (List.range vs.length).map (fun i => vs.getD i Value.none) = vs := by
    apply List.ext_getElem
    · simp
    · intro i h1 h2
      simp [h2]
  have := h.perm.map (fun i => vs.getD i Value.none)
  rw [e] at this
  exact this
theorem outOf_asc {ro : Led} {vs : List Value} {p : Array Nat} (h : IsPerm p vs.length) (ha : Asc (fun i j => tlt ro (vs.getD i .none) (vs.getD j .none)) p vs.length) : (outOf vs p).Pairwise fun a b => tlt ro b a = false := by
  rw [List.pairwise_iff_getElem]
  intro i j hi hj hij
  have hs := h.size
  unfold outOf at hi hj
  rw [List.length_map, Array.length_toList] at hi hj
  have z := ha i j (Nat.le_of_lt hij) (by omega)
  simp only [outOf, List.getElem_map, Array.getElem_toList]
  have e1 : p.getD i 0 = p[i] := by simp [Array.getD, hi]
  have e2 : p.getD j 0 = p[j] := by simp [Array.getD, hj]
  rw [e1, e2] at z
  exact z
theorem ask_tup {ro : Led} {vs us : List Value} (hp : us.length = vs.length) (hvs : ∀ v ∈ vs, IsTu ro v) (hS : ∀ v ∈ us, IsTu ro v) (hd : Dist ro us) (h1 : 1 ≤ us.length) {Q : Array Nat → Shared → Prop} (hro : ∀ q ∈ ro, s.heap.get? q.1 = some q.2)
    (h : ∀ p : Array Nat, IsPerm p us.length → Asc (fun i j => tlt ro (us.getD i .none) (us.getD j .none)) p us.length → Q p s) :
    wpAny (model prog w) A (keyKind' vs.toArray) (fun κ s' => (kas_sort vs.length).kasWp (kas_ask prog w A κ us) Q s') (fun _ _ => False) s := by
  obtain ⟨fs, hk, hl, hb⟩ := katTups_of hro hvs
  refine kat_kind (T := .type "bytes") hk (by omega) (fun f hf => ?_) (by decide) ?_
  · obtain ⟨b, t, rfl⟩ := hb f hf
    exact Looks.now
  show (kas_sort vs.length).kasWp (kas_ask prog w A (tuples' true) us) Q s
  rw [← hp]
  refine kgood_wp (Rel := fun s' => s' = s) (fun i j C s' hi hj e hC => ?_) (fun p s' hp e => ?_) _ s (sort_good (lin_tup hd) h1) rfl
  · subst e
    exact keyLt_tup (hS _ (getD_mem hi)) (hS _ (getD_mem hj)) hro (hC _ rfl)
  · subst e
    exact h p hp.1 hp.2
variable {h₀ : Heap} {L D : Addr} {m : Str → Option Value} {vs : List Value} {n : Nat} {ro rest : Led}
theorem my_tsort {Q : Value → Shared → Prop} (F : Fr h₀ L s.heap m) (N : News h₀ L s.heap ((D, listOf vs.toArray n) :: rest)) (hne : ∀ p ∈ rest, p.1 ≠ D) (hS : ∀ v ∈ vs, IsTu ro v) (hd : Dist ro vs) (hro : ∀ q ∈ ro, q ∈ rest) (h2 : 2 ≤ vs.length) (h64 : vs.length < 64)
    (h : ∀ (out : List Value) h' c, out.Perm vs → out.Pairwise (fun a b => tlt ro b a = false) → Fr h₀ L h' m → News h₀ L h' ((D, listOf out.toArray c) :: rest) → Q .none { s with heap := h' }) :
    wpAny (model prog w) A (call (.builtin "list.sort") [.ref D]) Q E s := by
  refine kat_lsort F N (UpdF.head hne) rfl h2 h64 fun e1 h' F' N' => ?_
  refine ask_tup rfl hS hS hd (by omega) (fun q hq => (N' q (List.mem_cons_of_mem _ (hro q hq))).1) fun p hp ha => ?_
  exact KasFin.intro F' N' (UpdF.head hne) fun h'' c F'' N'' => h _ h'' c (outOf_perm hp) (outOf_asc hp ha) F'' N''
theorem my_tsortR {Q : Value → Shared → Prop} (F : Fr h₀ L s.heap m) (N : News h₀ L s.heap ((D, listOf vs.toArray n) :: rest)) (hne : ∀ p ∈ rest, p.1 ≠ D) (hS : ∀ v ∈ vs, IsTu ro v) (hd : Dist ro vs) (hro : ∀ q ∈ ro, q ∈ rest) (h2 : 2 ≤ vs.length) (h64 : vs.length < 64)
    (h : ∀ (out : List Value) h' c, out.Perm vs → out.Pairwise (fun a b => tlt ro a b = false) → Fr h₀ L h' m → News h₀ L h' ((D, listOf out.toArray c) :: rest) → Q .none { s with heap := h' }) :
    wpAny (model prog w) A (call (.builtin "list.sort") [.ref D] [(Str.ofString "reverse", .bool true)]) Q E s := by
  have nz := N (D, listOf vs.toArray n) (.head _)
  have ho : s.heap.get? D = some (seqObj "list" vs.toArray n) := nz.1
  have haL := nz.2.1
  have ha0 := nz.2.2
  have N₀ : News h₀ L s.heap rest := fun p hp => N p (.tail _ hp)
  refine wpAny_call_entry_kw slot_list_sort ⟨_, nz.1, rfl⟩ entry_list_sort ?_ (args_list_sort_rev _ _)
  have ha : D < s.heap.objs.size := Heap.lt_size ho
  have s1 := Heap.SameBut.update s.heap D (Obj.mapSeq fun _ => (#[] : Array Value))
  obtain ⟨e1, ho1⟩ : ∃ e1, (s.heap.update D (Obj.mapSeq fun _ => (#[] : Array Value))).get? D = some (seqObj "list" #[] e1) := ⟨_, get?_update_seq ho fun _ => #[]⟩
  have F3 : Fr h₀ L (((s.heap.update D (Obj.mapSeq fun _ => (#[] : Array Value))).push (seqObj "tuple" vs.toArray 0)).push (seqObj "list" #[] 0)) m := ((kas_fr F s1 haL ha0).push _).push _
  have N2 : News h₀ L (((s.heap.update D (Obj.mapSeq fun _ => (#[] : Array Value))).push (seqObj "tuple" vs.toArray 0)).push (seqObj "list" #[] 0)) rest :=
    (kas_news N₀ s1 hne).grown fun b x e => Heap.get?_push_of_some _ (Heap.get?_push_of_some _ e)
  have na1 : (((s.heap.update D (Obj.mapSeq fun _ => (#[] : Array Value))).push (seqObj "tuple" vs.toArray 0)).push (seqObj "list" #[] 0)).get? D = some (seqObj "list" #[] e1) := Heap.get?_push_of_some _ (Heap.get?_push_of_some _ ho1)
  rw [list_sort_rev]
  refine wpAny_bind (listItems_at ho rfl ?_)
  refine wpAny_bind (listUpdate_at ho rfl ?_ (by rw [List.size_toArray, sizeLine_eq]; omega) (Nat.zero_le _))
  refine wpAny_bind (seqEpoch_at ho1 rfl ?_)
  refine wpAny_bind (wpAny_newTuple ?_ (by show vs.length ≤ _; rw [sizeLine_eq]; omega))
  refine wpAny_bind (wpAny_newList ?_ (Nat.zero_le _))
  refine wpAny_holding ?_
  show wpAny (model prog w) A.in1 _ _ E { s with heap := ((s.heap.update D (Obj.mapSeq fun _ => (#[] : Array Value))).push (seqObj "tuple" vs.toArray 0)).push (seqObj "list" #[] 0) }
  dsimp only
  generalize hH : ((s.heap.update D (Obj.mapSeq fun _ => (#[] : Array Value))).push (seqObj "tuple" vs.toArray 0)).push (seqObj "list" #[] 0) = H at *
  rw [if_pos rfl]
  refine wpAny_bind (wpAny_rule ?_)
  have hn2 : ¬ vs.toArray.size < 2 := by rw [List.size_toArray]; omega
  rw [if_neg hn2, if_neg hn2]
  have hrev : vs.reverse.length = vs.length := List.length_reverse
  have hSr : ∀ v ∈ vs.reverse, IsTu ro v := fun v hv => hS v (List.mem_reverse.mp hv)
  have hdr : Dist ro vs.reverse := Dist.perm (List.reverse_perm vs).symm hd
  have hz : (vs.toArray.zip vs.toArray).reverse = (vs.reverse.toArray).zip (vs.reverse.toArray) := by
    have := kat_pairs (ks := vs) (vs := vs) true rfl
    rw [if_pos rfl] at this
    exact this
  have ask := ask_tup (prog := prog) (w := w) (A := A.in1) (s := { s with heap := H }) (ro := ro) (vs := vs) (us := vs.reverse) hrev hS hSr hdr (by omega)
    (Q := fun p s' => s' = { s with heap := H } ∧ IsPerm p vs.reverse.length ∧ Asc (fun i j => tlt ro (vs.reverse.getD i .none) (vs.reverse.getD j .none)) p vs.reverse.length) (fun q hq => (N2 q (hro q hq)).1) fun p hp ha => ⟨rfl, hp, ha⟩
  refine wpAny_bind (wpAny_mono ask (fun κ s0 hk => ?_) fun _ _ x => x.elim)
  rw [← hrev] at hk
  rw [if_pos rfl, hz]
  refine wpAny_bind (wpAny_mono (kat_run (vs := vs.reverse) (ks := vs.reverse) (Q := fun st' s' => ∃ p : Array Nat, arrOf st' = p.map (kas_item (vs.reverse.toArray.zip vs.reverse.toArray)) ∧ failedOf st' = none ∧ s' = { s with heap := H } ∧ IsPerm p vs.reverse.length ∧ Asc (fun i j => tlt ro (vs.reverse.getD i .none) (vs.reverse.getD j .none)) p vs.reverse.length)
    rfl (by omega) (by omega) (fun p' st' s' _ a2 a3 a4 => ⟨p', a2, a3, a4⟩) hk) ?_ fun _ _ e => e)
  rintro ⟨⟨⟩, st'⟩ s' ⟨p, har, hf, rfl, hp, hasc⟩
  dsimp only
  have hout := kat_snds rfl har
  rw [hout]
  show wpAny _ _ _ _ _ _
  refine wpAny_bind (seqEpoch_at na1 rfl ?_)
  have hlo : (outOf vs.reverse p).length = vs.length := by rw [(outOf_perm hp).length_eq, hrev]
  have eR : (if true = true then (List.toArray (p.toList.map fun i => vs.reverse.getD i Value.none)).reverse else List.toArray (p.toList.map fun i => vs.reverse.getD i Value.none)) = (outOf vs.reverse p).reverse.toArray := by rw [if_pos rfl, List.reverse_toArray]; rfl
  rw [eR]
  have s2 := Heap.SameBut.update H D (Obj.mapSeq fun _ => (outOf vs.reverse p).reverse.toArray)
  obtain ⟨c2, hc2⟩ : ∃ c2, (H.update D (Obj.mapSeq fun _ => (outOf vs.reverse p).reverse.toArray)).get? D = some (seqObj "list" (outOf vs.reverse p).reverse.toArray c2) := ⟨_, get?_update_seq na1 fun _ => (outOf vs.reverse p).reverse.toArray⟩
  refine wpAny_bind (listUpdate_at na1 rfl ?_ (Nat.zero_le _) (by show (outOf vs.reverse p).reverse.toArray.size ≤ _; rw [List.size_toArray, List.length_reverse, hlo, sizeLine_eq]; omega))
  rw [hf]
  simp only [bne_self_eq_false, Bool.false_eq_true, if_false]
  refine wpAny_pure ⟨_, rfl, ?_⟩
  refine h (outOf vs.reverse p).reverse _ c2 ((List.reverse_perm _).trans ((outOf_perm hp).trans (List.reverse_perm vs))) ?_ (kas_fr F3 s2 haL ha0) ?_
  · rw [List.pairwise_reverse]
    exact outOf_asc hp hasc
  · intro q hq
    rcases List.mem_cons.mp hq with rfl | hq
    · exact ⟨hc2, haL, ha0⟩
    · exact (kas_news N2 s2 hne) q hq
end
end
noncomputable section
set_option linter.unusedVariables false
/-- K stands at place i of the ordered row -/
noncomputable def Rank (lb : List UInt8 → List UInt8 → Bool) (i : Nat) (K : List UInt8) (all : List (List UInt8)) : Prop :=
  ∃ A B, (A ++ K :: B).Perm all ∧ A.length = i ∧ (∀ a ∈ A, lb K a = false) ∧ (∀ b ∈ B, lb b K = false)
theorem rank_unique {i : Nat} {K K' : List UInt8} {all : List (List UInt8)} (h : Rank blt i K all) (h' : Rank blt i K' all) : K = K' := by
  have key : ∀ {K K' : List UInt8}, Rank blt i K all → Rank blt i K' all → blt K K' = false := by
    intro K K' ⟨A, B, hp, hl, ha, hb⟩ ⟨A', B', hp', hl', ha', hb'⟩
    cases q : blt K K' with
    | false => rfl
    | true =>
      exfalso
      have c1 := (hp.trans hp'.symm).countP_eq (fun x => blt x K')
      simp only [List.countP_append, List.countP_cons] at c1
      have e1 : A.countP (fun x => blt x K') = A.length := by
        rw [List.countP_eq_length]
        intro a ha0
        have := ha a ha0
        cases z : blt a K' with
        | true => rfl
        | false => have := blt_ftrans _ _ _ this z; rw [q] at this; cases this
      have e2 : B'.countP (fun x => blt x K') = 0 := by
        rw [List.countP_eq_zero]
        intro b hb0
        rw [hb' b hb0]; simp
      have e3 : A'.countP (fun x => blt x K') ≤ A'.length := List.countP_le_length
      rw [blt_irrefl, q, e1, e2] at c1
      simp at c1
      omega
  exact blt_total _ _ (key h h') (key h' h)
theorem rank_perm {lb : List UInt8 → List UInt8 → Bool} {i : Nat} {K : List UInt8} {all all' : List (List UInt8)} (hp : all.Perm all') (h : Rank lb i K all) : Rank lb i K all' := by
  obtain ⟨A, B, h1, h2⟩ := h
  exact ⟨A, B, h1.trans hp, h2⟩
theorem rank_flip {i : Nat} {K : List UInt8} {all : List (List UInt8)} (h : Rank (fun a b => blt b a) i K all) : Rank blt (all.length - 1 - i) K all := by
  obtain ⟨A, B, h1, h2, h3, h4⟩ := h
  refine ⟨B, A, ?_, ?_, h4, h3⟩
  · exact (List.perm_middle.trans ((List.perm_append_comm.cons K).trans List.perm_middle.symm)).trans h1
  · have := h1.length_eq
    simp at this
    omega
noncomputable def dlt : Bool → Led → Value → Value → Bool
  | true, ro => fun a b => tlt ro b a
  | false, ro => tlt ro
noncomputable def dlb : Bool → List UInt8 → List UInt8 → Bool
  | true => blt
  | false => fun a b => blt b a
noncomputable def dc : Bool → Int
  | true => 1
  | false => -1
theorem dlb_asymm (up : Bool) {a b : List UInt8} (h : dlb up a b = true) : dlb up b a = false := by
  cases up
  · exact blt_asymm _ _ h
  · exact blt_asymm _ _ h
theorem dlb_ftrans (up : Bool) {a b c : List UInt8} (h1 : dlb up a b = false) (h2 : dlb up b c = false) : dlb up a c = false := by
  cases up
  · exact blt_ftrans _ _ _ h2 h1
  · exact blt_ftrans _ _ _ h1 h2
theorem dlb_irrefl (up : Bool) (a : List UInt8) : dlb up a a = false := by cases up <;> exact blt_irrefl a
theorem dlt_weak (up : Bool) (ro : Led) : Weak (IsTu ro) (dlt up ro) := by
  cases up
  · exact weak_tup ro
  · exact weak_flip (weak_tup ro)
theorem tlt_key {ro : Led} {x y : Value} (h : tlt ro x y = false) : blt (tkey ro x).1 (tkey ro y).1 = false := by
  unfold tlt plt at h
  simp only [Bool.or_eq_false_iff] at h
  exact h.1
theorem dlt_key {up : Bool} {ro : Led} {x y : Value} (h : dlt up ro x y = false) : dlb up (tkey ro y).1 (tkey ro x).1 = false := by
  cases up
  · exact tlt_key h
  · exact tlt_key h
theorem look_of : ∀ {tups : Led}, Uniq tups → ∀ {q : Addr × Obj}, q ∈ tups → tups.lookup q.1 = some q.2
  | [], _, _, h => nomatch h
  | p :: r, hu, q, h => by
    obtain ⟨h1, h2⟩ := List.pairwise_cons.mp hu
    rcases List.mem_cons.mp h with rfl | h
    · exact List.lookup_cons_self
    · rw [List.lookup_cons]
      have : (q.1 == p.1) = false := by
        rw [beq_eq_false_iff_ne]
        exact Ne.symm (h1 q h)
      rw [this]
      exact look_of h2 h
theorem look_app {tups more : Led} {a : Addr} {o : Obj} (h : tups.lookup a = some o) : (tups ++ more).lookup a = some o := by
  rw [List.lookup_append, h]; rfl
theorem isTu_app {tups more : Led} {v : Value} (h : IsTu tups v) : IsTu (tups ++ more) v := by
  obtain ⟨a, b, t, x, u, rfl, e⟩ := h
  exact ⟨a, b, t, x, u, rfl, look_app e⟩
theorem tkey_app {tups more : Led} {v : Value} (h : IsTu tups v) : tkey (tups ++ more) v = tkey tups v := by
  obtain ⟨a, b, t, x, u, rfl, e⟩ := h
  rw [tkey_eq e, tkey_eq (look_app e)]
theorem tlt_app {tups more : Led} {v w : Value} (h : IsTu tups v) (h' : IsTu tups w) : tlt (tups ++ more) v w = tlt tups v w := by
  unfold tlt; rw [tkey_app h, tkey_app h']
theorem dlt_app (up : Bool) {tups more : Led} {v w : Value} (h : IsTu tups v) (h' : IsTu tups w) : dlt up (tups ++ more) v w = dlt up tups v w := by
  cases up
  · exact tlt_app h h'
  · exact tlt_app h' h
/-- what the loop of nsmallest and of nlargest keeps -/
structure NInv (up : Bool) (tups : Led) (us : List Value) (order : Int) (seen : List (List UInt8)) (k : Nat) : Prop where
  len : us.length = k
  tu : ∀ u ∈ us, IsTu tups u
  dist : Dist tups us
  mark : ∀ u ∈ us, dc up * (tkey tups u).2 < dc up * order
  heap : HeapFrom (dlt up tups) 0 us
  rank : ∃ disc, (us.map (fun u => (tkey tups u).1) ++ disc).Perm seen ∧ ∀ d ∈ disc, ∀ u ∈ us, dlb up d (tkey tups u).1 = false
theorem heap_set0 {S : Value → Prop} {lt : Value → Value → Bool} {us : List Value} {x : Value} (h : HeapFrom lt 0 us) : HeapFrom lt 1 (us.set 0 x) := fun i h0 hi hk => by
  rw [List.length_set] at hi
  rw [getD_set_ne (by omega), getD_set_ne (by omega)]
  exact h i h0 hi (by omega)
theorem replaced_heap {S : Value → Prop} {lt : Value → Value → Bool} (W : Weak S lt) {us : List Value} {x : Value} (hS : AllS S us) (hx : S x) (h0 : 0 < us.length) (h : HeapFrom lt 0 us) : HeapFrom lt 0 (replaced lt us x) :=
  siftup_heap W _ 0 (by rw [List.length_set]; exact h0) (hS.set hx) (heap_set0 (S := S) h)
theorem replaced_perm {lt : Value → Value → Bool} {us : List Value} {x : Value} (h0 : 0 < us.length) : (replaced lt us x).Perm (us.set 0 x) := siftup_perm _ _ (by rw [List.length_set]; exact h0)
theorem heap_congr {lt lt' : Value → Value → Bool} {us : List Value} (h : ∀ x ∈ us, ∀ y ∈ us, lt' x y = lt x y) (H : HeapFrom lt 0 us) : HeapFrom lt' 0 us := fun i h0 hi hk => by
  rw [h _ (getD_mem hi) _ (getD_mem (by omega))]
  exact H i h0 hi hk
theorem ninv_start {up : Bool} {tups : Led} {its : List Value} {k : Nat} (hP : PairsOf its 0 (dc up) tups) (hl : tups.length = k) (hk : k ≤ its.length) (hB : ∀ v ∈ its, IsB v) (hu : Uniq tups) :
    NInv up tups (heapify (dlt up tups) (tups.map fun q => Value.ref q.1)) (dc up * k) ((its.take k).map bk) k := by
  have hT : ∀ j (h : j < tups.length), ∃ b t u, its.getD j .none = .bytes b t ∧ tups.lookup (tups[j]).1 = some (pairObj (.bytes b t) (.int (0 + (j : Int) * dc up) u)) := fun j h => by
    obtain ⟨u, e⟩ := hP j h
    obtain ⟨b, t, e2⟩ := hB _ (getD_mem (vs := its) (j := j) (by omega))
    refine ⟨b, t, u, e2, ?_⟩
    rw [look_of hu (List.getElem_mem h), e, e2]
  have hperm := heapify_perm (lt := dlt up tups) (tups.map fun q => Value.ref q.1)
  have htu : ∀ u ∈ tups.map (fun q => Value.ref q.1), IsTu tups u := fun u hm => by
    obtain ⟨q, hq, rfl⟩ := List.mem_map.mp hm
    obtain ⟨j, hj, rfl⟩ := List.getElem_of_mem hq
    obtain ⟨b, t, x, e1, e2⟩ := hT j hj
    exact ⟨_, b, t, _, x, rfl, e2⟩
  have hkey : ∀ j (h : j < tups.length), tkey tups (.ref (tups[j]).1) = (bk (its.getD j .none), 0 + (j : Int) * dc up) := fun j h => by
    obtain ⟨b, t, x, e1, e2⟩ := hT j h
    rw [tkey_eq e2, e1]; rfl
  have hd0 : Dist tups (tups.map fun q => Value.ref q.1) := by
    unfold Dist
    rw [List.pairwise_iff_getElem]
    intro i j hi hj hij
    rw [List.length_map] at hi hj
    simp only [List.getElem_map]
    rw [hkey i hi, hkey j hj]
    cases up <;> simp only [dc] <;> omega
  refine ⟨by rw [heapify_len, List.length_map, hl], fun u hm => htu u (hperm.mem_iff.mp hm), Dist.perm hperm.symm hd0, fun u hm => ?_, heapify_heap (dlt_weak up tups) _ htu, [], ?_, fun d hd => nomatch hd⟩
  · obtain ⟨q, hq, rfl⟩ := List.mem_map.mp (hperm.mem_iff.mp hm)
    obtain ⟨j, hj, rfl⟩ := List.getElem_of_mem hq
    rw [hkey j hj]
    cases up <;> simp only [dc] <;> omega
  · rw [List.append_nil]
    refine (hperm.map _).trans (List.Perm.of_eq ?_)
    apply List.ext_getElem
    · simp; omega
    · intro i h1 h2
      simp only [List.length_map] at h1
      simp only [List.getElem_map, List.getElem_take]
      rw [hkey i h1]
      have : i < its.length := by omega
      rw [List.getD_eq_getElem?_getD, List.getElem?_eq_getElem this]; rfl
/-- the root's key is the last of its order -/
theorem ninv_top {up : Bool} {tups : Led} {us : List Value} {order : Int} {seen : List (List UInt8)} {k : Nat} (I : NInv up tups us order seen k) (h0 : 0 < k) : ∀ u ∈ us, dlb up (tkey tups (us.getD 0 .none)).1 (tkey tups u).1 = false := fun u hu =>
  dlt_key (heap_least (dlt_weak up tups) I.tu I.heap (by rw [I.len]; exact h0) u hu)
theorem ninv_no {up : Bool} {tups : Led} {us : List Value} {order : Int} {seen : List (List UInt8)} {k : Nat} {e : List UInt8} (I : NInv up tups us order seen k) (h0 : 0 < k) (he : dlb up e (tkey tups (us.getD 0 .none)).1 = false) : NInv up tups us order (seen ++ [e]) k := by
  obtain ⟨disc, h1, h2⟩ := I.rank
  refine ⟨I.len, I.tu, I.dist, I.mark, I.heap, e :: disc, ?_, fun d hd u hu => ?_⟩
  · exact (List.perm_middle.trans (h1.cons e)).trans (List.perm_append_singleton e seen).symm
  · rcases List.mem_cons.mp hd with rfl | hd
    · exact dlb_ftrans up he (ninv_top I h0 u hu)
    · exact h2 d hd u hu
theorem ninv_yes {up : Bool} {tups : Led} {us : List Value} {order : Int} {seen : List (List UInt8)} {k : Nat} {T : Addr} {b : Array UInt8} {t u : Tok} (I : NInv up tups us order seen k) (h0 : 0 < k) (he : dlb up b.toList (tkey tups (us.getD 0 .none)).1 = true)
    (hT : ∀ q ∈ tups, q.1 ≠ T) :
    NInv up (tups ++ [(T, pairObj (.bytes b t) (.int order u))]) (replaced (dlt up (tups ++ [(T, pairObj (.bytes b t) (.int order u))])) us (.ref T)) (order + dc up) (seen ++ [b.toList]) k := by
  generalize hro : tups ++ [(T, pairObj (.bytes b t) (.int order u))] = ro
  have lk : ro.lookup T = some (pairObj (.bytes b t) (.int order u)) := by
    rw [← hro, List.lookup_append]
    have : tups.lookup T = none := by
      rw [List.lookup_eq_none_iff]
      intro q hq
      rw [bne_iff_ne]
      exact Ne.symm (hT q hq)
    rw [this]
    simp
  have hlen := I.len
  have htT : IsTu ro (.ref T) := ⟨T, b, t, order, u, rfl, lk⟩
  have kT : tkey ro (.ref T) = (b.toList, order) := tkey_eq lk
  have htu : ∀ v ∈ us, IsTu ro v := fun v hv => by rw [← hro]; exact isTu_app (I.tu v hv)
  have hk : ∀ v ∈ us, tkey ro v = tkey tups v := fun v hv => by rw [← hro]; exact tkey_app (I.tu v hv)
  have hne : us ≠ [] := fun q => by rw [q] at hlen; simp at hlen; omega
  obtain ⟨r, us', rfl⟩ : ∃ r us', us = r :: us' := by
    cases us with
    | nil => exact absurd rfl hne
    | cons r us' => exact ⟨r, us', rfl⟩
  have hp : (replaced (dlt up ro) (r :: us') (.ref T)).Perm (.ref T :: us') := replaced_perm (by simp)
  have hmem : ∀ v, v ∈ replaced (dlt up ro) (r :: us') (.ref T) → v = .ref T ∨ v ∈ us' := fun v hv => List.mem_cons.mp (hp.mem_iff.mp hv)
  have hr0 : (r :: us').getD 0 .none = r := rfl
  rw [hr0] at he
  have htop := ninv_top I h0
  rw [hr0] at htop
  refine ⟨by rw [hp.length_eq]; exact I.len, fun v hv => ?_, Dist.perm hp.symm ?_, fun v hv => ?_, ?_, ?_⟩
  · rcases hmem v hv with rfl | hv
    · exact htT
    · exact htu v (.tail _ hv)
  · unfold Dist
    refine List.pairwise_cons.mpr ⟨fun v hv => ?_, ?_⟩
    · rw [kT, hk v (.tail _ hv)]
      have := I.mark v (.tail _ hv)
      intro q
      dsimp only at q
      rw [q] at this
      exact absurd this (Int.lt_irrefl _)
    · refine (List.pairwise_cons.mp I.dist).2.imp_of_mem fun {x y} hx hy h => ?_
      rw [hk x (.tail _ hx), hk y (.tail _ hy)]; exact h
  · rcases hmem v hv with rfl | hv
    · rw [kT]; cases up <;> simp only [dc] <;> omega
    · rw [hk v (.tail _ hv)]
      have := I.mark v (.tail _ hv)
      cases up <;> simp only [dc] at * <;> omega
  · refine replaced_heap (dlt_weak up ro) htu htT (by simp) (heap_congr (fun x hx y hy => ?_) I.heap)
    rw [← hro]
    exact dlt_app up (I.tu x hx) (I.tu y hy)
  · obtain ⟨disc, h1, h2⟩ := I.rank
    refine ⟨(tkey tups r).1 :: disc, ?_, fun d hd v hv => ?_⟩
    · refine ((hp.map _).append_right _).trans ?_
      rw [List.map_cons, kT]
      have e1 : us'.map (fun u => (tkey ro u).1) = us'.map (fun u => (tkey tups u).1) := List.map_congr_left fun v hv => by rw [hk v (.tail _ hv)]
      rw [e1]
      refine List.Perm.trans ?_ (List.perm_append_singleton b.toList seen).symm
      show (b.toList :: (us'.map _ ++ ((tkey tups r).1 :: disc))).Perm (b.toList :: seen)
      refine List.Perm.cons _ ?_
      exact List.perm_middle.trans h1
    · have hkv : dlb up (tkey tups r).1 (tkey ro v).1 = false := by
        rcases hmem v hv with rfl | hv
        · rw [kT]; exact dlb_asymm up he
        · rw [hk v (.tail _ hv)]; exact htop v (.tail _ hv)
      rcases List.mem_cons.mp hd with rfl | hd
      · exact hkv
      · exact dlb_ftrans up (h2 d hd r (.head _)) hkv
/-- what the ordered row of the loop's end tells -/
theorem ninv_end {up : Bool} {tups : Led} {us out : List Value} {order : Int} {seen : List (List UInt8)} {k : Nat} (I : NInv up tups us order seen k) (h0 : 0 < k) (hp : out.Perm us) (ho : out.Pairwise fun a b => dlb up (tkey tups b).1 (tkey tups a).1 = false) :
    Rank (dlb up) (k - 1) (tkey tups (out.getD (k - 1) .none)).1 seen := by
  have hl : out.length = k := by rw [hp.length_eq]; exact I.len
  obtain ⟨disc, h1, h2⟩ := I.rank
  have hne : out ≠ [] := fun q => by rw [q] at hl; simp at hl; omega
  have hsplit : out.dropLast ++ [out.getD (k - 1) .none] = out := by
    have := List.dropLast_concat_getLast hne
    rw [List.getLast_eq_getElem hne] at this
    rw [List.getD_eq_getElem?_getD, List.getElem?_eq_getElem (by omega)]
    simp only [Option.getD_some]
    simp only [hl] at this
    exact this
  generalize out.getD (k - 1) .none = K at *
  generalize out.dropLast = A at *
  subst hsplit
  refine ⟨A.map (fun u => (tkey tups u).1), disc, ?_, ?_, ?_, ?_⟩
  · have e : (A ++ [K]).map (fun u => (tkey tups u).1) ++ disc = A.map (fun u => (tkey tups u).1) ++ (tkey tups K).1 :: disc := by simp
    rw [← e]
    exact ((hp.map _).append_right _).trans h1
  · simp at hl; simp; omega
  · intro a ha
    obtain ⟨u, hu, rfl⟩ := List.mem_map.mp ha
    exact (List.pairwise_append.mp ho).2.2 u hu K (by simp)
  · intro d hd
    exact h2 d hd K (hp.mem_iff.mp (by simp))
/-- the same of a whole ordered row of bytes -/
theorem rank_sorted {out vs : List Value} {i : Nat} (hp : out.Perm vs) (ho : out.Pairwise fun a b => vlt b a = false) (hi : i < out.length) : Rank blt i (bk (out.getD i .none)) (vs.map bk) := by
  have hsplit : out.take i ++ out.getD i .none :: out.drop (i + 1) = out := by
    rw [List.getD_eq_getElem?_getD, List.getElem?_eq_getElem hi]
    simp
  generalize hK : out.getD i .none = K at *
  have hl : (out.take i).length = i := by rw [List.length_take]; omega
  generalize out.take i = A at *
  generalize out.drop (i + 1) = B at *
  subst hsplit
  obtain ⟨h1, h2, h3⟩ := List.pairwise_append.mp ho
  refine ⟨A.map bk, B.map bk, ?_, by simpa using hl, ?_, ?_⟩
  · have e : (A ++ K :: B).map bk = A.map bk ++ bk K :: B.map bk := by simp
    rw [← e]; exact hp.map _
  · intro a ha
    obtain ⟨u, hu, rfl⟩ := List.mem_map.mp ha
    exact h3 u hu K (by simp)
  · intro b hb
    obtain ⟨u, hu, rfl⟩ := List.mem_map.mp hb
    exact (List.pairwise_cons.mp h2).1 u hu
end
noncomputable section
set_option linter.unusedVariables false
theorem rank_le {i j : Nat} {K K' : List UInt8} {all : List (List UInt8)} (h : Rank blt i K all) (h' : Rank blt j K' all) (hij : i ≤ j) : blt K' K = false := by
  obtain ⟨A, B, hp, hl, ha, hb⟩ := h
  obtain ⟨A', B', hp', hl', ha', hb'⟩ := h'
  cases q : blt K' K with
  | false => rfl
  | true =>
    exfalso
    have c1 := (hp'.trans hp.symm).countP_eq (fun x => blt x K)
    simp only [List.countP_append, List.countP_cons] at c1
    have e1 : A'.countP (fun x => blt x K) = A'.length := by
      rw [List.countP_eq_length]
      intro a ha0
      have := ha' a ha0
      cases z : blt a K with
      | true => rfl
      | false => have := blt_ftrans _ _ _ this z; rw [q] at this; cases this
    have e2 : B.countP (fun x => blt x K) = 0 := by
      rw [List.countP_eq_zero]
      intro b hb0
      rw [hb b hb0]; simp
    have e3 : A.countP (fun x => blt x K) ≤ A.length := List.countP_le_length
    rw [blt_irrefl, q, e1, e2] at c1
    simp at c1
    omega
theorem rank_replace {i : Nat} {K K₁ r : List UInt8} {all rest : List (List UInt8)} (h : Rank blt i K all) (hi : 1 ≤ i) (hr : ∀ x ∈ all, blt x r = false) (hp : (r :: rest).Perm all) (hK : blt K K₁ = false) : Rank blt i K (K₁ :: rest) := by
  obtain ⟨A, B, h1, h2, h3, h4⟩ := h
  have hrm : r ∈ A := by
    have hm : r ∈ A ++ K :: B := (h1.mem_iff).mpr (hp.mem_iff.mp (.head _))
    rcases List.mem_append.mp hm with hm | hm
    · exact hm
    · have hKr : blt r K = false := by
        rcases List.mem_cons.mp hm with e | hm
        · rw [e]; exact blt_irrefl K
        · exact h4 r hm
      cases A with
      | nil => simp at h2; omega
      | cons a A' =>
        have ha : blt K a = false := h3 a (.head _)
        have hra : blt a r = false := hr a (h1.mem_iff.mp (by simp))
        have : blt r a = false := blt_ftrans _ _ _ hKr ha
        rw [blt_total _ _ this hra]
        exact .head _
  have hAe : (r :: A.erase r).Perm A := (List.perm_cons_erase hrm).symm
  refine ⟨K₁ :: A.erase r, B, ?_, ?_, ?_, h4⟩
  · show (K₁ :: (A.erase r ++ K :: B)).Perm (K₁ :: rest)
    refine List.Perm.cons _ ?_
    have : (r :: (A.erase r ++ K :: B)).Perm (r :: rest) := ((hAe.append_right (K :: B)).trans h1).trans hp.symm
    exact this.cons_inv
  · rw [List.length_cons, List.length_erase_of_mem hrm]; omega
  · intro a ha
    rcases List.mem_cons.mp ha with rfl | ha
    · exact hK
    · exact h3 a (List.mem_of_mem_erase ha)
theorem popped_perm {lt : Value → Value → Bool} {vs : List Value} (h0 : 0 < vs.length) : (vs.getD 0 .none :: popped lt vs).Perm vs := by
  unfold popped
  cases vs with
  | nil => exact absurd h0 (Nat.lt_irrefl 0)
  | cons r vs' =>
    by_cases h1 : (r :: vs').length ≤ 1
    · rw [if_pos h1]
      have : vs' = [] := List.length_eq_zero_iff.mp (by rw [List.length_cons] at h1; omega)
      subst this
      exact List.Perm.refl _
    · rw [if_neg h1]
      have hne : vs' ≠ [] := fun q => by rw [q] at h1; exact h1 (Nat.le_refl 1)
      have e1 : (r :: vs').dropLast = r :: vs'.dropLast := List.dropLast_cons_of_ne_nil hne
      have hlast : (r :: vs').getD ((r :: vs').length - 1) .none = vs'.getLast hne := by
        rw [List.getD_eq_getElem?_getD, List.getElem?_eq_getElem (by simp)]
        simp only [Option.getD_some, List.length_cons, Nat.add_sub_cancel]
        rw [List.getLast_eq_getElem]
        rw [List.getElem_cons, dif_neg (Nat.ne_of_gt (List.length_pos_iff.mpr hne))]
      rw [hlast, e1]
      show (r :: siftup lt (vs'.getLast hne :: vs'.dropLast) 0).Perm (r :: vs')
      refine List.Perm.cons _ ((siftup_perm _ _ (by simp)).trans ?_)
      refine List.Perm.trans (List.perm_append_singleton _ _).symm ?_
      rw [List.dropLast_concat_getLast hne]
theorem heap_dropLast {lt : Value → Value → Bool} {vs : List Value} (h : HeapFrom lt 0 vs) : HeapFrom lt 0 vs.dropLast := fun i h0 hi hk => by
  rw [List.length_dropLast] at hi
  have e : ∀ j, j < vs.length - 1 → vs.dropLast.getD j .none = vs.getD j .none := fun j hj => by
    rw [List.getD_eq_getElem?_getD, List.getD_eq_getElem?_getD, List.getElem?_dropLast, if_pos hj]
  rw [e i hi, e _ (by omega)]
  exact h i h0 (by omega) hk
theorem popped_heap {S : Value → Prop} {lt : Value → Value → Bool} (W : Weak S lt) {vs : List Value} (hS : AllS S vs) (h : HeapFrom lt 0 vs) : HeapFrom lt 0 (popped lt vs) := by
  unfold popped
  by_cases h1 : vs.length ≤ 1
  · rw [if_pos h1]; exact fun i h0 hi => absurd hi (Nat.not_lt_zero i)
  · rw [if_neg h1]
    have hS' : AllS S vs.dropLast := fun x hx => hS x (List.dropLast_subset _ hx)
    exact siftup_heap W _ 0 (by rw [List.length_set, List.length_dropLast]; omega) (hS'.set (hS _ (getD_mem (by omega)))) (heap_set0 (S := S) (heap_dropLast h))
/-- what i pops leave, and what they gave -/
structure Pops (vs hv ys : List Value) (i : Nat) : Prop where
  len : ys.length = i
  perm : (ys ++ hv).Perm vs
  heap : HeapFrom vlt 0 hv
  le : ∀ y ∈ ys, ∀ h ∈ hv, vlt h y = false
  rank : ∀ j, j < i → Rank blt j (bk (ys.getD j .none)) (vs.map bk)
theorem pops_start {vs : List Value} (hS : ∀ v ∈ vs, IsB v) : Pops vs (heapify vlt vs) [] 0 :=
  ⟨rfl, heapify_perm vs, heapify_heap weak_bytes vs hS, fun y hy => (nomatch hy), fun j hj => absurd hj (Nat.not_lt_zero j)⟩
theorem pops_len {vs hv ys : List Value} {i : Nat} (P : Pops vs hv ys i) : hv.length + i = vs.length := by
  have := P.perm.length_eq
  rw [List.length_append, P.len] at this
  omega
theorem pops_all {vs hv ys : List Value} {i : Nat} (P : Pops vs hv ys i) (hS : ∀ v ∈ vs, IsB v) : ∀ v ∈ hv, IsB v := fun v hv' => hS v (P.perm.mem_iff.mp (List.mem_append_right _ hv'))
theorem pops_step {vs hv ys : List Value} {i : Nat} (hS : ∀ v ∈ vs, IsB v) (P : Pops vs hv ys i) (h0 : i < vs.length) : Pops vs (popped vlt hv) (ys ++ [hv.getD 0 .none]) (i + 1) := by
  have hl := pops_len P
  have hh : 0 < hv.length := by omega
  have hSv := pops_all P hS
  have hp := popped_perm (lt := vlt) hh
  have hleast : ∀ h ∈ hv, vlt h (hv.getD 0 .none) = false := heap_least weak_bytes hSv P.heap hh
  have hsub : ∀ h ∈ popped vlt hv, h ∈ hv := fun h hm => hp.mem_iff.mp (.tail _ hm)
  refine ⟨(by rw [List.length_append, P.len]; rfl), ?_, popped_heap weak_bytes hSv P.heap, fun y hy h hm => ?_, fun j hj => ?_⟩
  · rw [List.append_assoc]
    exact (List.Perm.append_left ys hp).trans P.perm
  · rcases List.mem_append.mp hy with hy | hy
    · exact P.le y hy h (hsub h hm)
    · rw [List.mem_singleton.mp hy]; exact hleast h (hsub h hm)
  · by_cases hji : j < i
    · rw [List.getD_eq_getElem?_getD, List.getElem?_append_left (by rw [P.len]; exact hji), ← List.getD_eq_getElem?_getD]
      exact P.rank j hji
    · have : j = i := by omega
      subst this
      have e : (ys ++ [hv.getD 0 .none]).getD j .none = hv.getD 0 .none := by
        rw [List.getD_eq_getElem?_getD, List.getElem?_append_right (by rw [P.len]; exact Nat.le_refl _), P.len, Nat.sub_self]; rfl
      rw [e]
      refine ⟨ys.map bk, (popped vlt hv).map bk, ?_, by rw [List.length_map, P.len], ?_, ?_⟩
      · have e2 : ys.map bk ++ bk (hv.getD 0 .none) :: (popped vlt hv).map bk = (ys ++ (hv.getD 0 .none :: popped vlt hv)).map bk := by simp
        rw [e2]
        exact ((List.Perm.append_left ys hp).trans P.perm).map bk
      · intro a ha
        obtain ⟨y, hy, rfl⟩ := List.mem_map.mp ha
        exact P.le y hy _ (getD_mem hh)
      · intro a ha
        obtain ⟨y, hy, rfl⟩ := List.mem_map.mp ha
        exact hleast y (hsub y hy)
theorem replaced_rank {vs : List Value} {i : Nat} {K : List UInt8} {x : Value} (hS : ∀ v ∈ vs, IsB v) (h : Rank blt i K (vs.map bk)) (hi : 1 ≤ i) (h0 : 0 < vs.length) (hK : blt K (bk x) = false) : Rank blt i K ((replaced vlt (heapify vlt vs) x).map bk) := by
  have hp := heapify_perm (lt := vlt) vs
  have hl : (heapify vlt vs).length = vs.length := heapify_len vs
  have hSv : ∀ v ∈ heapify vlt vs, IsB v := fun v hv => hS v (hp.mem_iff.mp hv)
  have hleast : ∀ y ∈ heapify vlt vs, vlt y ((heapify vlt vs).getD 0 .none) = false := heap_least weak_bytes hSv (heapify_heap weak_bytes vs hS) (by omega)
  have hrep := replaced_perm (lt := vlt) (us := heapify vlt vs) (x := x) (by omega)
  generalize heapify vlt vs = hv at *
  cases hv with
  | nil => exact absurd h0 (by rw [← hl]; exact Nat.lt_irrefl 0)
  | cons r tl =>
    refine rank_perm (hrep.symm.map bk) ?_
    show Rank blt i K (bk x :: tl.map bk)
    refine rank_replace h hi (r := bk r) (fun y hy => ?_) (hp.map bk) hK
    obtain ⟨v, hv, rfl⟩ := List.mem_map.mp hy
    exact hleast v (hp.mem_iff.mpr hv)
theorem rank_root {vs : List Value} (hS : ∀ v ∈ vs, IsB v) (h0 : 0 < vs.length) : Rank blt 0 (bk ((heapify vlt vs).getD 0 .none)) (vs.map bk) :=
  (pops_step hS (pops_start hS) h0).rank 0 (Nat.lt_succ_self 0)
end
noncomputable section
set_option maxRecDepth 100000
set_option linter.unusedVariables false
/-- a list iterator that stands at k -/
noncomputable def LIt (o : Obj) (l : Addr) (k : Nat) : Prop := o.cls = .type "list_iterator" ∧ o.data = .fields #[.ref l, .int k 0]
theorem LIt.at {h : Heap} {I l : Addr} {o : Obj} {k : Nat} (a : LIt o l k) (e : h.get? I = some o) : h.IsListIter I l k := ⟨o, e, a.1, a.2⟩
section
variable {prog : Program} {w : World} {A : Around} {E : Value → Shared → Prop} {s : Shared} {h₀ : Heap} {L l : Addr} {m : Str → Option Value} {news : Led} {vs : List Value}
theorem my_iterB {Q : Value → Shared → Prop} (F : Fr h₀ L s.heap m) (N : News h₀ L s.heap news) (hl : h₀.IsList l vs.toArray)
    (h : ∀ (I : Addr) h' oI, Fr h₀ L h' m → News h₀ L h' ((I, oI) :: news) → (∀ p ∈ news, p.1 < I) → LIt oI l 0 → Q (.ref I) { s with heap := h' }) :
    wpAny (model prog w) A (call (.builtin "iter") [.ref l]) Q E s := by
  refine call_function_entry (by decide +kernel) (by decide +kernel) kdk_entry_iter (kdk_args_iter _) ?_
  unfold Builtin.«iter»
  refine wpAny_bind (m := someArgs "iter" 1 2 _) (wpAny_of_eq (a := [Value.ref l]) (by first | rfl | kernel_rfl!) ?_)
  show wpAny _ _ (pyIter (.ref l) >>= _) _ _ _
  refine wpAny_bind (wpAny_pyIter_list (hl.at fun o e => F.keep _ o e) ?_)
  exact wpAny_pure ⟨_, rfl, h _ _ _ (F.push _) (News.push F N _ rfl) (fun q hq => Heap.lt_size (N q hq).1) ⟨rfl, rfl⟩⟩
theorem my_lenB {Q : Value → Shared → Prop} (F : Fr h₀ L s.heap m) (hl : h₀.IsList l vs.toArray) (hfit : vs.length < 2 ^ 62) (h : Q (.int (vs.length : Nat) (s.toks + 1)) { s with toks := s.toks + 1 + 1 }) :
    wpAny (model prog w) A (call (.builtin "len") [.ref l]) Q E s :=
  len_list (hl.at fun o e => F.keep _ o e) (by rw [List.size_toArray]; omega) (by rw [List.size_toArray]; exact h)
theorem walks_from {k : Nat} (hh : A.handled = none) (I ax : Addr) (hne : ax ≠ I) (items : Array Value) (hk : k ≤ items.size) :
    Walks prog w A I [I, ax] [I] (items.size - k) (fun i v => items[k + i]? = some v) (fun i h => h.IsListIter I ax (k + i) ∧ h.IsList ax items) where
  sub := fun b hb => by simp at hb; simp [hb]
  frame := fun _ _ _ st hk => ⟨st.1.at fun o e => hk I (by simp) o e, st.2.at fun o e => hk ax (by simp) o e⟩
  item := fun i s Q E hi st hQ => by
    have hi' : k + i < items.size := by omega
    refine wpAny_pyNext_list_item st.1 st.2 (x := items[k + i]) (by simp [hi']) fun h' hit' hs' => ?_
    exact hQ _ h' s.toks (by simp [hi']) ⟨hit', st.2.extBut hs'.extBut hne⟩ fun b o hb e => hs'.extBut b o (fun h => hb (by simp [h])) e
  done := fun s Q E st hQ => wpAny_pyNext_list_end hh st.1 st.2 (by rw [show k + (items.size - k) = items.size by omega]; simp) fun h' he' => hQ h' s.toks fun b o hb e => he' b o (fun h => hb (by simp [h])) e
  self := fun _ _ _ _ st hQ => wpAny_pyIter_listiter st.1 hQ
/-- the end of a turn of a loop whose ledger may grow -/
noncomputable def GPost (h₀ : Heap) (L I : Addr) (oI : Obj) (J : (Str → Option Value) → Led → Prop) (s₁ : Shared) (Q : Flow → Shared → Prop) (f : Flow) (s₂ : Shared) : Prop :=
  match f with
  | .ret v => Q (.ret v) s₂
  | .brk => Q .next s₂
  | _ => ∃ h' tk m' all nx, s₂ = { s₁ with heap := h', toks := tk } ∧ Fr h₀ L h' m' ∧ News h₀ L h' all ∧ (I, oI) ∈ all ∧ (∀ p ∈ nx, p ∈ all) ∧ (∀ p ∈ nx, p.1 ≠ I) ∧ J m' nx
theorem gpost_next {I : Addr} {oI : Obj} {J : (Str → Option Value) → Led → Prop} {s₁ : Shared} {Q : Flow → Shared → Prop} {h' : Heap} {tk : Nat} {m' : Str → Option Value} {all : Led} (F : Fr h₀ L h' m') (N : News h₀ L h' all)
    (hJ : HeldP (∃ nx, (I, oI) ∈ all ∧ (∀ p ∈ nx, p ∈ all) ∧ (∀ p ∈ nx, p.1 ≠ I) ∧ J m' nx)) : GPost h₀ L I oI J s₁ Q .next { s₁ with heap := h', toks := tk } := by
  obtain ⟨nx, a, b, c, d⟩ := hJ.out
  exact ⟨h', tk, m', all, nx, rfl, F, N, a, b, c, d⟩
theorem gpost_cont {I : Addr} {oI : Obj} {J : (Str → Option Value) → Led → Prop} {s₁ : Shared} {Q : Flow → Shared → Prop} {h' : Heap} {tk : Nat} {m' : Str → Option Value} {all : Led} (F : Fr h₀ L h' m') (N : News h₀ L h' all)
    (hJ : HeldP (∃ nx, (I, oI) ∈ all ∧ (∀ p ∈ nx, p ∈ all) ∧ (∀ p ∈ nx, p.1 ≠ I) ∧ J m' nx)) : GPost h₀ L I oI J s₁ Q .cont { s₁ with heap := h', toks := tk } := by
  obtain ⟨nx, a, b, c, d⟩ := hJ.out
  exact ⟨h', tk, m', all, nx, rfl, F, N, a, b, c, d⟩
theorem my_forIt {env : Env} {x : Str} {body : List Stmt} {Q : Flow → Shared → Prop} {I : Addr} {oI : Obj} {k : Nat} (J : Nat → (Str → Option Value) → Led → Prop) (hh : A.handled = none)
    (F : Fr h₀ env.locals s.heap m) (N : News h₀ env.locals s.heap ((I, oI) :: news)) (hI : ∀ p ∈ news, p.1 ≠ I) (hO : LIt oI l k) (hl : h₀.IsList l vs.toArray) (hk : k ≤ vs.length) (hj : J 0 m news)
    (turn : ∀ i m₁ news₁ h tk oI', k + i < vs.length → (∀ p ∈ news₁, p.1 ≠ I) → J i m₁ news₁ → Fr h₀ env.locals h (fun y => if y = x then some (vs.getD (k + i) .none) else m₁ y) → News h₀ env.locals h ((I, oI') :: news₁) →
      wpAny (model prog w) A (execs body env) (GPost h₀ env.locals I oI' (J (i + 1)) { s with heap := h, toks := tk } Q) E { s with heap := h, toks := tk })
    (done : ∀ m₁ news₁ h tk, J (vs.length - k) m₁ news₁ → Fr h₀ env.locals h m₁ → News h₀ env.locals h news₁ → Q .next { s with heap := h, toks := tk }) :
    wpAny (model prog w) A (pyIter (.ref I)) (fun it s₂ => LoopAtV prog w A h₀ env x body Q E it s₂) E s := by
  have hIx := N _ (List.mem_cons_self ..)
  have hl' : s.heap.IsList l vs.toArray := hl.at fun o e => F.keep _ o e
  have hne : l ≠ I := fun q => by
    obtain ⟨o, e, _⟩ := hl
    have := hIx.2.2
    simp only at this
    rw [← q, e] at this; cases this
  have W := walks_from (prog := prog) (w := w) hh I l hne vs.toArray (k := k) (by rw [List.size_toArray]; exact hk)
  have st0 : s.heap.IsListIter I l (k + 0) ∧ s.heap.IsList l vs.toArray := ⟨hO.at hIx.1, hl'⟩
  refine W.self 0 s _ _ st0 ?_
  have lbase : ∀ {b}, b ∈ [I, l] → h₀.get? b = none → b = I := fun {b} hb hn => by
    rcases List.mem_cons.mp hb with rfl | hb
    · rfl
    · rw [List.mem_singleton.mp hb] at hn
      obtain ⟨o, e, _⟩ := hl
      rw [e] at hn; cases hn
  refine ⟨I, [I, l], [I], vs.toArray.size - k, _, _, m, news, J, rfl, W, ?_, ?_, ?_, st0, F, fun p hp => N p (List.mem_cons_of_mem _ hp), hj, ?_, ?_⟩
  · intro hm
    rcases List.mem_cons.mp hm with e | hm
    · exact hIx.2.1 e.symm
    · have := List.mem_singleton.mp hm
      obtain ⟨o, e, _⟩ := hl
      have hL := Heap.get?_none_of_le F.above
      rw [this, e] at hL; cases hL
  · intro b hb; rw [List.mem_singleton.mp hb]; exact hIx.2.2
  · intro p hp hm; exact hI p hp (List.mem_singleton.mp hm)
  · rintro i v m₁ news₁ s₁ own ⟨h, tk, rfl⟩ hi hP hJ hnw hown hget hall hst F₁ N₁
    obtain ⟨oI', heI, hcI, hdI⟩ := hst.1
    have hmem : (I, oI') ∈ own := hall I (List.mem_cons_self ..) hIx.2.2 _ heI
    have hv : v = vs.getD (k + i) .none := by
      have : vs[k + i]? = some v := by simpa using hP
      rw [List.getD_eq_getElem?_getD, this]; rfl
    subst hv
    have hI' : ∀ p ∈ news₁, p.1 ≠ I := fun p hp e => hnw p hp (by rw [e]; simp)
    have N₂ : News h₀ env.locals h ((I, oI') :: news₁) := fun p hp => by
      rcases List.mem_cons.mp hp with rfl | hp
      · exact N₁ _ (List.mem_append_left _ hmem)
      · exact N₁ _ (List.mem_append_right _ hp)
    refine wpAny_mono (turn i m₁ news₁ h tk oI' (by rw [List.size_toArray] at hi; omega) hI' hJ F₁ N₂) (fun f s₂ hp => ?_) fun _ _ e => e
    have fin : GPost h₀ env.locals I oI' (J (i + 1)) { s with heap := h, toks := tk } Q .next s₂ → LoopStepU h₀ env.locals [I] own (J (i + 1)) { s with heap := h, toks := tk } .next s₂ := by
      rintro ⟨h', tk', m', all, nx, e, F', N', hIa, hsub, hoff, hj'⟩
      refine ⟨rfl, h', tk', m', nx, e, F', fun p hp => ?_, fun p hp hb => hoff p hp (List.mem_singleton.mp hb), hj'⟩
      rcases List.mem_append.mp hp with hp | hp
      · have hpI : p.1 = I := lbase (hown p hp) (N₁ p (List.mem_append_left _ hp)).2.2
        have e1 := hget p hp
        rw [hpI] at e1
        have e2 : p.2 = oI' := by rw [heI] at e1; exact (Option.some.inj e1).symm
        have : p = (I, oI') := Prod.ext hpI e2
        rw [this]
        exact N' _ hIa
      · exact N' _ (hsub p hp)
    cases f with
    | ret v => exact .ret hp
    | brk => exact .brk hp
    | next => exact .next (fin hp)
    | cont => exact .cont (fin hp)
  · rintro h' tk m' news' F' N' _ hJ
    rw [List.size_toArray] at hJ
    exact done m' news' h' tk hJ F' N'
end
section
variable {prog : Program} {w : World} {A : Around} {E : Value → Shared → Prop} {s : Shared} {h₀ : Heap} {L D T : Addr} {m : Str → Option Value} {news : Led} {vs : List Value} {n : Nat} {u : Tok} {x y : Value}
theorem my_sub0 {value slice : Expr} {Q : Value → Shared → Prop} (N : News h₀ L s.heap news) (hm : (D, listOf (x :: vs).toArray n) ∈ news) (h : Q x s)
    (hs : subscripted slice false (.ref D) (.int 0 u) = operate [.ref D, .int 0 u] (getItem (.ref D) (.int 0 u)) := by with_unfolding_all rfl) (hg : ∀ r, letTemporaryGo value (.ref D) r = pure () := by intro _; with_unfolding_all rfl) :
    wpAny (model prog w) A (subscriptTail value slice (.ref D) (.int 0 u)) Q E s :=
  kim_list N hm rfl rfl (by decide) (by decide) rfl h hs hg
theorem my_tup0 {value slice : Expr} {Q : Value → Shared → Prop} (N : News h₀ L s.heap news) (hm : (T, pairObj x y) ∈ news) (h : Q x s)
    (hs : subscripted slice false (.ref T) (.int 0 u) = operate [.ref T, .int 0 u] (getItem (.ref T) (.int 0 u)) := by with_unfolding_all rfl) (hg : ∀ r, letTemporaryGo value (.ref T) r = pure () := by intro _; with_unfolding_all rfl) :
    wpAny (model prog w) A (subscriptTail value slice (.ref T) (.int 0 u)) Q E s :=
  kim_tup (l := [x, y]) (lo := pairObj x y) (n := 0) (j := 0) N hm rfl rfl (by decide) (by decide) (by rfl) rfl h hs hg
end
theorem base_ne {h₀ h : Heap} {L l : Addr} {its : Array Value} {news : Led} {q : Addr × Obj} (hl : h₀.IsList l its) (N : News h₀ L h news) (hq : q ∈ news) : l ≠ q.1 := fun e => by
  obtain ⟨o, x, _⟩ := hl
  have := (N q hq).2.2
  rw [← e, x] at this; cases this
section
variable {prog : Program} {w : World} {A : Around} {E : Value → Shared → Prop} {s : Shared} {h₀ : Heap} {L l r I : Addr} {oI : Obj} {m : Str → Option Value} {news : Led} {vs : List Value}
theorem zr_src {a b c : Int} {t u v : Tok} {k : Nat} {y : Str} {Q : Flow → Shared → Prop} (hh : A.handled = none) (hR : IsRange s.heap r a b c t u v) (hsm : Builtin.Range.small a b c = true ∧ Builtin.Range.rangeSize a b c = ((k : Nat) : Int)) (hk : k ≤ vs.length) (h64 : vs.length < 64)
    (F : Fr h₀ L s.heap m) (N : News h₀ L s.heap ((I, oI) :: news)) (hO : LIt oI l 0) (hl : h₀.IsList l vs.toArray) (hnI : ∀ p ∈ news, p.1 ≠ I)
    (fin : ∀ D h tk tups oI', PairsOf vs a c tups → Uniq tups → tups.length = k → (∀ p ∈ tups, D < p.1) → (∀ p ∈ news, p.1 < D) → I < D → LIt oI' l k → Fr h₀ L h (fun z => if z = y then some (.ref D) else m z) →
      News h₀ L h ((D, listOf (tups.map fun q => Value.ref q.1).toArray k) :: (I, oI') :: (tups ++ news)) → Q .next { s with heap := h, toks := tk }) :
    wpAny (model prog w) A (call (.type "zip") [.ref r, .ref I]) (SrcZ A h₀ L m y Q) E s := by
  have hI := N _ (List.mem_cons_self ..)
  have hIlt := Heap.lt_size hI.1
  have hl₁ : s.heap.IsList l vs.toArray := hl.at fun o e => F.keep _ o e
  have hllt : l < s.heap.objs.size := let ⟨_, e, _⟩ := hl₁; Heap.lt_size e
  have hlI : l ≠ I := base_ne hl N (List.mem_cons_self ..)
  have hL := F.ns.lt
  have hLl : L ≠ l := fun q => by
    obtain ⟨o, e, _⟩ := hl
    have := Heap.get?_none_of_le F.above
    rw [q, e] at this; cases this
  have fresh : ∀ d, h₀.get? (s.heap.objs.size + d) = none := fun d => by
    cases e : h₀.get? (s.heap.objs.size + d) with
    | none => rfl
    | some o' => exact absurd (Heap.lt_size (F.keep _ o' e)) (Nat.not_lt.mpr (Nat.le_add_right _ d))
  refine call_zr hR hsm.1 hsm.2 (hO.at hI.1) hl₁ fun h₂ Z hz₂ hk₂ => ?_
  refine ⟨_, _, _, _, _, _, a, c, vs, k, news, rfl, hh, zApart_new hIlt hllt hlI, Z, hk, by rw [sizeLine_eq]; omega, F.keeps hk₂, News.grown (fun p hp => N p (List.mem_cons_of_mem _ hp)) hk₂, ?offI, ?offL, ?new, ?_⟩
  case offI =>
    intro p hp hm
    have h1 := Heap.lt_size (N p (List.mem_cons_of_mem _ hp)).1
    have h2 := hnI p hp
    simp only [List.mem_cons, List.not_mem_nil, or_false] at hm
    rcases hm with e | e | e | e
    · exact absurd h1 (Nat.not_lt.mpr (by rw [e]; exact Nat.le_add_right _ 3))
    · exact absurd h1 (Nat.not_lt.mpr (by rw [e]; exact Nat.le_add_right _ 2))
    · exact absurd h1 (Nat.not_lt.mpr (by rw [e]; exact Nat.le_refl _))
    · exact h2 e
  case offL =>
    intro hm
    simp only [List.mem_cons, List.not_mem_nil, or_false] at hm
    rcases hm with e | e | e | e | e | e
    · exact absurd hL (Nat.not_lt.mpr (by rw [e]; exact Nat.le_add_right _ 3))
    · exact absurd hL (Nat.not_lt.mpr (by rw [e]; exact Nat.le_add_right _ 1))
    · exact absurd hL (Nat.not_lt.mpr (by rw [e]; exact Nat.le_add_right _ 2))
    · exact absurd hL (Nat.not_lt.mpr (by rw [e]; exact Nat.le_refl _))
    · exact hI.2.1 e.symm
    · exact hLl e
  case new =>
    intro b hb
    simp only [List.mem_cons, List.not_mem_nil, or_false] at hb
    rcases hb with rfl | rfl | rfl | rfl
    · exact fresh 3
    · exact fresh 2
    · exact fresh 0
    · exact hI.2.2
  rintro D h tk tups hP hU hlen hD hn hID F' ⟨oI', hc, hd, N'⟩
  exact fin D h tk tups oI' hP hU hlen hD hn hID ⟨hc, hd⟩ F' N'
end
theorem ro_tups {h₀ h : Heap} {L D : Addr} {o : Obj} {tups rest : Led} (N : News h₀ L h ((D, o) :: rest)) (hs : ∀ q ∈ tups, q ∈ rest) (hne : ∀ q ∈ rest, q.1 ≠ D) : ∀ q ∈ tups, h.get? q.1 = some q.2 ∧ q.1 ∉ ([(D, o)] : Led).map (·.1) := fun q hq =>
  ⟨(N q (.tail _ (hs q hq))).1, fun hm => hne q (hs q hq) (by simpa using hm)⟩
theorem rest_off {D : Addr} {o : Obj} {rest : Led} (hne : ∀ q ∈ rest, q.1 ≠ D) : ∀ q ∈ rest, q ∈ (D, o) :: rest ∧ ∀ r ∈ ([(D, o)] : Led), q.1 ≠ r.1 := fun q hq =>
  ⟨.tail _ hq, fun r hr => by rw [List.mem_singleton.mp hr]; exact hne q hq⟩
theorem small_up : ∀ k : Nat, k < 64 → Builtin.Range.small 0 (k : Int) 1 = true ∧ Builtin.Range.rangeSize 0 (k : Int) 1 = ((k : Nat) : Int) := by decide +kernel
theorem small_dn : ∀ k : Nat, k < 64 → Builtin.Range.small 0 (-(k : Int)) (-1) = true ∧ Builtin.Range.rangeSize 0 (-(k : Int)) (-1) = ((k : Nat) : Int) := by decide +kernel
theorem tup_at {h₀ h : Heap} {L T : Addr} {news : Led} {o : Obj} {items : Array Value} {n : Nat} (N : News h₀ L h news) (hm : (T, o) ∈ news) (hc : o.cls = .type "tuple") (hd : o.data = .seq items n) : IsTup h T items := ⟨o, (N _ hm).1, hc, n, hd⟩
theorem rest_ne {I D c : Addr} {oI oc : Obj} {tups : Led} (hID : I < D) (hDt : ∀ p ∈ tups, D < p.1) (hDc : c < D) : ∀ q ∈ (((I, oI) :: (tups ++ [(c, oc)])) : Led), q.1 ≠ D := fun q hq => by
  rcases List.mem_cons.mp hq with rfl | hq
  · exact Nat.ne_of_lt hID
  · rcases List.mem_append.mp hq with hq | hq
    · exact Nat.ne_of_gt (hDt q hq)
    · rw [List.mem_singleton.mp hq]; exact Nat.ne_of_lt hDc
theorem tups_sub {q₀ : Addr × Obj} {tups more : Led} : ∀ q ∈ tups, q ∈ q₀ :: (tups ++ more) := fun q hq => .tail _ (List.mem_append_left _ hq)
/-- the first of the heap's pairs -/
theorem ninv_head {up : Bool} {tups : Led} {us : List Value} {order : Int} {seen : List (List UInt8)} {k : Nat} (I : NInv up tups us order seen k) (h0 : 0 < k) : ∃ T us' b t x u, us = .ref T :: us' ∧ (T, pairObj (.bytes b t) (.int x u)) ∈ tups ∧ (tkey tups (us.getD 0 .none)).1 = b.toList := by
  have hl := I.len
  cases us with
  | nil => simp at hl; omega
  | cons v us' =>
    obtain ⟨T, b, t, x, u, rfl, e⟩ := I.tu v (.head _)
    exact ⟨T, us', b, t, x, u, rfl, mem_of_look e, congrArg (·.1) (tkey_eq e)⟩
theorem news_swap {h₀ h : Heap} {L : Addr} {p q : Addr × Obj} {r : Led} (N : News h₀ L h (p :: q :: r)) : News h₀ L h (q :: p :: r) := fun x hx => by
  rcases List.mem_cons.mp hx with rfl | hx
  · exact N _ (.tail _ (.head _))
  · rcases List.mem_cons.mp hx with rfl | hx
    · exact N _ (.head _)
    · exact N _ (.tail _ (.tail _ hx))
theorem rest_ne2 {D c : Addr} {oc : Obj} {tups : Led} (hDt : ∀ p ∈ tups, D < p.1) (hDc : c < D) : ∀ q ∈ ((tups ++ [(c, oc)]) : Led), q.1 ≠ D := fun q hq => by
  rcases List.mem_append.mp hq with hq | hq
  · exact Nat.ne_of_gt (hDt q hq)
  · rw [List.mem_singleton.mp hq]; exact Nat.ne_of_lt hDc
theorem news_in {h₀ h : Heap} {L : Addr} {d q i : Addr × Obj} {tups r : Led} (N : News h₀ L h (d :: q :: i :: (tups ++ r))) : News h₀ L h (d :: i :: ((tups ++ [q]) ++ r)) := fun x hx => N x (by
  simp only [List.mem_cons, List.mem_append, List.not_mem_nil, or_false] at hx ⊢
  rcases hx with h | h | (h | h) | h <;> simp [h])
theorem names_not {m : Str → Option Value} {ps : List (Str × Value)} {x : Str} {v : Option Value} (h : ∀ q ∈ ps, m q.1 = some q.2) (hx : ∀ q ∈ ps, q.1 ≠ x) : ∀ q ∈ ps, (fun y => if y = x then v else m y) q.1 = some q.2 := fun q hq => by
  show (if q.1 = x then v else m q.1) = _
  rw [if_neg (hx q hq)]; exact h q hq
theorem take_snoc {vs : List Value} {j : Nat} {v : Value} (hj : j < vs.length) (hv : vs.getD j .none = v) : (vs.take (j + 1)).map bk = (vs.take j).map bk ++ [bk v] := by
  rw [List.take_add_one, List.map_append, List.getElem?_eq_getElem hj, ← hv, List.getD_eq_getElem?_getD, List.getElem?_eq_getElem hj]
  rfl
theorem iter_off {I D c : Addr} {o oc : Obj} {tups : Led} (hID : I < D) (hDt : ∀ p ∈ tups, D < p.1) (hc : c < I) : ∀ q ∈ (((D, o) :: (tups ++ [(c, oc)])) : Led), q.1 ≠ I := fun q hq => by
  rcases List.mem_cons.mp hq with rfl | hq
  · exact Nat.ne_of_gt hID
  · rcases List.mem_append.mp hq with hq | hq
    · exact Nat.ne_of_gt (Nat.lt_trans hID (hDt q hq))
    · rw [List.mem_singleton.mp hq]; exact Nat.ne_of_lt hc
theorem allLt_mem {D : Addr} : ∀ {l : Led}, AllLt D l → ∀ p ∈ l, p.1 < D
  | [], _, p, hp => nomatch hp
  | _ :: _, h, p, hp => by
    rcases List.mem_cons.mp hp with rfl | hp
    · exact h.1
    · exact allLt_mem h.2 p hp
theorem news_up3 {h₀ h : Heap} {L : Addr} {p q r : Addr × Obj} {l : Led} (N : News h₀ L h (p :: q :: r :: l)) : News h₀ L h (r :: p :: q :: l) := fun x hx => N x (by
  simp only [List.mem_cons] at hx ⊢
  rcases hx with h | h | h | h <;> simp [h])
theorem ninv_new {tups : Led} {T : Addr} {b : Array UInt8} {t u : Tok} {x : Int} (hT : ∀ q ∈ tups, q.1 ≠ T) : IsTu (tups ++ [(T, pairObj (.bytes b t) (.int x u))]) (.ref T) := by
  refine ⟨T, b, t, x, u, rfl, ?_⟩
  rw [List.lookup_append]
  have : tups.lookup T = none := by
    rw [List.lookup_eq_none_iff]
    intro q hq
    rw [bne_iff_ne]
    exact Ne.symm (hT q hq)
  rw [this]
  simp
theorem sub_skip {α : Type} {a b : α} {l : List α} : ∀ p ∈ a :: l, p ∈ a :: b :: l := fun p hp => by
  rcases List.mem_cons.mp hp with rfl | hp
  · exact .head _
  · exact .tail _ (.tail _ hp)
end
noncomputable section
set_option maxRecDepth 100000
set_option linter.unusedVariables false
open LCg LCp
/-- the first entries of a row of pairs -/
noncomputable def Firsts (tups : Led) (out ys : List Value) : Prop := ys.length = out.length ∧ ∀ j, j < out.length → IsB (ys.getD j .none) ∧ bk (ys.getD j .none) = (tkey tups (out.getD j .none)).1
section
variable {prog : Program} {w : World} {A : Around} {E : Value → Shared → Prop} {s : Shared} {h₀ : Heap} {L D : Addr} {m : Str → Option Value} {env : Env} {tups news : Led} {out : List Value} {c : Nat}
theorem firsts_rest {x x₂ : Str} {px : Pos} {scope : Scope} {cl : List (Str × Addr)} {Fin : List Value → Led → Prop}
    (hkind : scope.kind = .function) (hx : scope.names.lookup x = some .local) (hdx : (x == ("__debug__" : Str)) = false)
    (hm : (D, listOf out.toArray c) ∈ news) (htn : ∀ q ∈ tups, q ∈ news) (hS : ∀ v ∈ out, IsTu tups v) (fin : ∀ ys, Firsts tups out ys → Fin ys news) :
    ∀ (n i : Nat) (ys : List Value), ys.length = i → n + i = out.length → (∀ j, j < i → IsB (ys.getD j .none) ∧ bk (ys.getD j .none) = (tkey tups (out.getD j .none)).1) →
      CompRestP prog w A h₀ L m env (.Name x px) x x₂ scope cl s (SrcAt h₀ D out.toArray) (fun i v => out.toArray[i]? = some v) Fin n i ys news
  | 0, i, ys, hl, hi, hg => CompRestP.zero (fin ys ⟨by omega, fun j hj => hg j (by omega)⟩)
  | n + 1, i, ys, hl, hi, hg => CompRestP.succ fun v hv => by
    have hi' : i < out.length := by omega
    have hv' : out.getD i .none = v := by
      have : out[i]? = some v := by simpa using hv
      rw [List.getD_eq_getElem?_getD, this]; rfl
    obtain ⟨a, b, t, xi, u, rfl, ha⟩ := hS v (by rw [← hv']; exact getD_mem hi')
    refine ⟨a, pairObj (.bytes b t) (.int xi u), .bytes b t, .int xi u, 0, rfl, htn _ (mem_of_look ha), rfl, rfl, fun I oI C oC D' m₂ h tk E' hC hx1 hx2 F' N' off ne => ?_⟩
    refine ldVarK (v := .bytes b t) (hC.ns (N' _ (.tail _ (.head _))).1) hx1 ?_ hkind (lookup_relabel_local hx) hdx
    refine CompEnd.intro F' N' news (fun p hp => hp) off (.inr ⟨_, hm, rfl, _, rfl⟩) ?_
    refine firsts_rest hkind hx hdx hm htn hS fin n (i + 1) (ys ++ [.bytes b t]) (by simp [hl]) (by omega) fun j hj => ?_
    by_cases hji : j < i
    · rw [List.getD_eq_getElem?_getD, List.getElem?_append_left (by omega), ← List.getD_eq_getElem?_getD]
      exact hg j hji
    · have : j = i := by omega
      subst this
      have e : (ys ++ [Value.bytes b t]).getD j .none = .bytes b t := by
        rw [List.getD_eq_getElem?_getD, List.getElem?_append_right (by omega), hl, Nat.sub_self]; rfl
      rw [e, hv', tkey_eq ha]
      exact ⟨⟨b, t, rfl⟩, rfl⟩
theorem my_firsts {iter : Expr} {x x₂ : Str} {px px₁ px₂ tp : Pos} {tk} {scope : Scope} {cl : List (Str × Addr)} {pos : Pos} {Q : Value → Shared → Prop} (F : Fr h₀ L s.heap m) (N : News h₀ L s.heap news)
    (hclos : closureFor scope env = pure cl) (hcell : ∀ y ∈ scope.names, y.2 ≠ .cell) (hkind : scope.kind = .function)
    (hnames : ∀ y ∈ scope.names, y.2 = .local → scope.names.lookup y.1 = some .local) (hx : scope.names.lookup x = some .local) (hx₂ : scope.names.lookup x₂ = some .local) (hxx : x ≠ x₂) (hdx : (x == ("__debug__" : Str)) = false)
    (hh : A.handled = none) (hm : (D, listOf out.toArray c) ∈ news) (htn : ∀ q ∈ tups, q ∈ news) (hS : ∀ v ∈ out, IsTu tups v) (hsz : out.length ≤ sizeLine)
    (hit : ∀ {R : Value → Shared → Prop}, R (.ref D) s → wpAny (model prog w) A (eval iter env) R E s)
    (h : ∀ R h' tk' ys, Firsts tups out ys → Fr h₀ L h' m → News h₀ L h' ((R, listOf ys.toArray ys.length) :: news) → (∀ p ∈ news, p.1 ≠ R) → Q (.ref R) { s with heap := h', toks := tk' })
    (hs : ∀ x, foldedSetIterable iter env x = pure x := by intro _; rfl) :
    wpAny (model prog w) A (eval (.ListComp (.Name x px₁) [⟨.Tuple [.Name x px, .Name x₂ px₂] tk tp, iter, [], 0⟩] scope pos) env) Q E s := by
  refine LCp.ListComp_P F hclos hcell hkind hnames hx hx₂ hxx (hit ?_) hs
  refine SrcLP.ledger hh F N hm (by rw [List.size_toArray]; exact hsz) fun g => ?_
  rw [List.size_toArray]
  refine firsts_rest hkind hx hdx hm htn hS (fun ys hy => ?_) out.length 0 [] rfl (by omega) (fun j hj => absurd hj (Nat.not_lt_zero j))
  intro R h' tk' F' N' off
  refine h R h' tk' ys hy F' N' ?_
  have : ∀ {l : Led}, Off1 R l → ∀ p ∈ l, p.1 ≠ R := by
    intro l
    induction l with
    | nil => exact fun _ p hp => nomatch hp
    | cons q l ih =>
      intro ho p hp
      rcases List.mem_cons.mp hp with rfl | hp
      · exact ho.1
      · exact ih ho.2 p hp
  exact this off
end
section
variable {M : Model} {A : Around} {E : Value → Shared → Prop} {s : Shared} {env : Env}
theorem method_kw1 {pos kp : Pos} {id : String} {v : Value} {e : Expr} {name : Str} {Q : Value → Shared → Prop} (h : wpAny M A (eval e env) (fun x s₁ => wpAny M A (call (.builtin id) [v] [(name, x)]) Q E s₁) E s) :
    wpAny M A (callWith pos (.builtin id) [v] (backTo pos (starEach [] env)) (backToKw pos (keywordEach [⟨some name, e, kp⟩] env))) Q E s := by
  refine callWith_builtin_kwB rfl rfl ?_
  unfold evalArgs
  show wpAny M A (spliced [] >>= _) _ E s
  refine wpAny_bind (wpAny_pure ?_)
  refine wpAny_bind (wpAny_pure ?_)
  refine wpAny_holding ?_
  have hall : (backToKw pos (keywordEach [⟨some name, e, kp⟩] env)).all (·.1.isSome) = true := rfl
  rw [if_pos hall]
  refine wpAny_bind ?_
  show wpAny M A (evalAll ((backToKw pos (keywordEach [⟨some name, e, kp⟩] env)).map (·.2))) _ E s
  refine kws_cons (wpAny_mono h (fun x s₁ h₁ => kws_nil ?_) fun _ _ x => x)
  exact wpAny_bind (wpAny_pure (wpAny_pure h₁))
end
end
noncomputable section
set_option maxRecDepth 100000
set_option linter.unusedVariables false
open LCg LCp
section
variable {prog : Program} {w : World} {A : Around} {E : Value → Shared → Prop} {s : Shared} {h₀ : Heap} {L : Addr} {m : Str → Option Value} {env : Env}
theorem comp_go {elt : Expr} {x : Str} {scope : Scope} {cl : List (Str × Addr)} {S : Led → Prop} {P : Nat → Value → Prop} {Fin : List Value → Led → Prop} (n : Nat) (I : Nat → List Value → Led → Prop)
    (hz : ∀ ys nw, I n ys nw → Fin ys nw)
    (hs : ∀ i ys nw, i < n → I i ys nw → ∀ v Ia oI C oC D m₂ h tk (E' : Value → Shared → Prop), P i v → NsObj oC m₂ → m₂ x = some v → Fr h₀ L h m → News h₀ L h ((Ia, oI) :: (C, oC) :: (D, lst ys) :: nw) → Off3 Ia C D nw → ((@Ne Nat Ia C) ∧ (@Ne Nat Ia D) ∧ (@Ne Nat C D)) →
      wpAny (model prog w) A (eval elt (compEnvC scope cl C env)) (CompEnd h₀ L m { s with heap := h, toks := tk } Ia oI C oC D (lst ys) S (fun y nw' => I (i + 1) (ys ++ [y]) nw')) E' { s with heap := h, toks := tk }) :
    ∀ (k i : Nat) (ys : List Value) (nw : Led), i + k = n → I i ys nw → CompRest prog w A h₀ L m env elt x scope cl s S P Fin k i ys nw
  | 0, i, ys, nw, hk, hI => CompRest.zero (hz ys nw (by rw [← hk]; exact hI))
  | k + 1, i, ys, nw, hk, hI => CompRest.succ fun v Ia oI C oC D m₂ h tk E' hP hC hx F N off ne => by
    refine wpAny_mono (hs i ys nw (by omega) hI v Ia oI C oC D m₂ h tk E' hP hC hx F N off ne) (fun y s₂ he => ?_) fun _ _ e => e
    obtain ⟨h', tk', nw', e, F', N', off', hS, hr⟩ := he
    exact ⟨h', tk', nw', e, F', N', off', hS, comp_go n I hz hs k (i + 1) (ys ++ [y]) nw' (by omega) hr⟩
theorem comp_ind {elt : Expr} {x : Str} {scope : Scope} {cl : List (Str × Addr)} {S : Led → Prop} {P : Nat → Value → Prop} {Fin : List Value → Led → Prop} {n : Nat} {news : Led} (I : Nat → List Value → Led → Prop)
    (h0 : I 0 [] news) (hz : ∀ ys nw, I n ys nw → Fin ys nw)
    (hs : ∀ i ys nw, i < n → I i ys nw → ∀ v Ia oI C oC D m₂ h tk (E' : Value → Shared → Prop), P i v → NsObj oC m₂ → m₂ x = some v → Fr h₀ L h m → News h₀ L h ((Ia, oI) :: (C, oC) :: (D, lst ys) :: nw) → Off3 Ia C D nw → ((@Ne Nat Ia C) ∧ (@Ne Nat Ia D) ∧ (@Ne Nat C D)) →
      wpAny (model prog w) A (eval elt (compEnvC scope cl C env)) (CompEnd h₀ L m { s with heap := h, toks := tk } Ia oI C oC D (lst ys) S (fun y nw' => I (i + 1) (ys ++ [y]) nw')) E' { s with heap := h, toks := tk }) :
    CompRest prog w A h₀ L m env elt x scope cl s S P Fin n 0 [] news := comp_go n I hz hs n 0 [] news (by omega) h0
end
theorem off1_mem {D : Addr} : ∀ {l : Led}, Off1 D l → ∀ p ∈ l, p.1 ≠ D
  | [], _, p, hp => nomatch hp
  | _ :: _, h, p, hp => by
    rcases List.mem_cons.mp hp with rfl | hp
    · exact h.1
    · exact off1_mem h.2 p hp
theorem news_4th {h₀ h : Heap} {L : Addr} {a b c d : Addr × Obj} {l : Led} (N : News h₀ L h (a :: b :: c :: d :: l)) : News h₀ L h (d :: a :: b :: c :: l) := fun x hx => N x (by
  simp only [List.mem_cons] at hx ⊢
  rcases hx with h | h | h | h | h <;> simp [h])
theorem news_back {h₀ h : Heap} {L : Addr} {a b c d : Addr × Obj} {l : Led} (N : News h₀ L h (d :: a :: b :: c :: l)) : News h₀ L h (a :: b :: c :: d :: l) := fun x hx => N x (by
  simp only [List.mem_cons] at hx ⊢
  rcases hx with h | h | h | h | h <;> simp [h])
end
noncomputable section
set_option maxRecDepth 100000
set_option linter.unusedVariables false
open MeetsSeq SeqAt
theorem eqGives_bytes {x y : Value} (hx : IsB x) (hy : IsB y) : EqGives x y (decide (bk x = bk y)) := fun prog w A E s Q h => by
  obtain ⟨b, t, rfl⟩ := hx
  obtain ⟨c, u, rfl⟩ := hy
  exact eqBool_bytes h
theorem all_range_bk {xs ys : List Value} (hl : xs.length = ys.length) : (List.range xs.toArray.size).all (fun j => decide (bk (xs.getD j .none) = bk (ys.getD j .none))) = decide (xs.map bk = ys.map bk) := by
  rw [Bool.eq_iff_iff]
  simp only [List.all_eq_true, List.mem_range, decide_eq_true_eq, List.size_toArray]
  constructor
  · intro h
    apply List.ext_getElem (by simpa using hl)
    intro i h1 h2
    simp only [List.length_map] at h1 h2
    have := h i h1
    rw [List.getD_eq_getElem?_getD, List.getD_eq_getElem?_getD, List.getElem?_eq_getElem h1, List.getElem?_eq_getElem h2] at this
    simpa using this
  · intro h j hj
    have e : (xs.map bk)[j]? = (ys.map bk)[j]? := by rw [h]
    rw [List.getElem?_map, List.getElem?_map, List.getElem?_eq_getElem hj, List.getElem?_eq_getElem (hl ▸ hj)] at e
    rw [List.getD_eq_getElem?_getD, List.getD_eq_getElem?_getD, List.getElem?_eq_getElem hj, List.getElem?_eq_getElem (hl ▸ hj)]
    simpa using e
section
variable {prog : Program} {w : World} {A : Around} {E : Value → Shared → Prop} {s : Shared} {h₀ : Heap} {L a b : Addr} {news : Led} {xs ys : List Value} {n k : Nat} {Q : Value → Shared → Prop}
theorem elem_eqAt {xs ys : List Value} (hx : ∀ v ∈ xs, IsB v) (hy : ∀ v ∈ ys, IsB v) (j : Nat) (h1 : j < xs.toArray.size) (h2 : j < ys.toArray.size) : EqAt A s xs.toArray[j] ys.toArray[j] (decide (bk (xs.getD j .none) = bk (ys.getD j .none))) := by
  simp only [List.size_toArray] at h1 h2
  have e1 : xs.getD j .none = xs[j] := by rw [List.getD_eq_getElem?_getD, List.getElem?_eq_getElem h1]; rfl
  have e2 : ys.getD j .none = ys[j] := by rw [List.getD_eq_getElem?_getD, List.getElem?_eq_getElem h2]; rfl
  simp only [List.getElem_toArray]
  rw [e1, e2]
  exact (eqGives_bytes (hx _ (List.getElem_mem h1)) (hy _ (List.getElem_mem h2))).at A s
theorem my_listne (N : News h₀ L s.heap news) (ha : (a, listOf xs.toArray n) ∈ news) (hb : (b, listOf ys.toArray k) ∈ news) (hx : ∀ v ∈ xs, IsB v) (hy : ∀ v ∈ ys, IsB v) (hl : xs.length = ys.length) (hu : A.units < cLine)
    (h : Q (.bool (!decide (xs.map bk = ys.map bk))) s) : wpAny (model prog w) A (compareOp .NotEq (.ref a) (.ref b)) Q E s := by
  refine RcNeAt.lists (e := fun j => decide (bk (xs.getD j .none) = bk (ys.getD j .none))) (PySem.IsL.isList (n := n) (N _ ha).1) (PySem.IsL.isList (n := k) (N _ hb).1) (by simpa using hl) hu (fun j h1 h2 => elem_eqAt hx hy j h1 h2) prog w E Q ?_
  rw [all_range_bk hl]; exact h
theorem my_listeq (N : News h₀ L s.heap news) (ha : (a, listOf xs.toArray n) ∈ news) (hb : (b, listOf ys.toArray k) ∈ news) (hx : ∀ v ∈ xs, IsB v) (hy : ∀ v ∈ ys, IsB v) (hl : xs.length = ys.length) (hu : A.units < cLine)
    (h : Q (.bool (decide (xs.map bk = ys.map bk))) s) : wpAny (model prog w) A (compareOp .Eq (.ref a) (.ref b)) Q E s := by
  refine RcAt.lists (e := fun j => decide (bk (xs.getD j .none) = bk (ys.getD j .none))) (PySem.IsL.isList (n := n) (N _ ha).1) (PySem.IsL.isList (n := k) (N _ hb).1) (by simpa using hl) hu (fun j h1 h2 => elem_eqAt hx hy j h1 h2) prog w E Q ?_
  rw [all_range_bk hl]; exact h
theorem my_notin {x : Value} (N : News h₀ L s.heap news) (ha : (a, listOf xs.toArray n) ∈ news) (hx : ∀ v ∈ xs, IsB v) (hy : IsB x) (h : Q (.bool (!decide (bk x ∈ xs.map bk))) s) : wpAny (model prog w) A (compareOp .NotIn x (.ref a)) Q E s := by
  refine SeqRoads2.notIn_list (fun y => decide (bk y = bk x)) (fun y hy' => eqGives_bytes (hx y (by simpa using hy')) hy) (N _ ha).1 ?_
  have e : (xs.toArray.any fun y => decide (bk y = bk x)) = decide (bk x ∈ xs.map bk) := by
    rw [Bool.eq_iff_iff]
    simp only [List.any_toArray, List.any_eq_true, decide_eq_true_eq, List.mem_map]
  rw [e]; exact h
end
section
variable {prog : Program} {w : World} {A : Around} {E : Value → Shared → Prop} {s : Shared}
theorem my_fdivI {a : Int} {c : Int} {k : Nat} {t u : Tok} {Q : Value → Shared → Prop} (hc : c = (k : Int)) (hk : 0 < k) (h0 : 0 ≤ a) (hx : k < 1073741824) (h : ∀ t', Q (.int ((a.toNat / k : Nat) : Int) t') { s with toks := s.toks + 1 }) : wpAny (model prog w) A (binaryOp .FloorDiv (.int a t) (.int c u)) Q E s := by
  obtain ⟨x, rfl⟩ := Int.eq_ofNat_of_zero_le h0
  exact my_fdiv hc hk hx h
end
section
variable {prog : Program} {w : World} {A : Around} {E : Value → Shared → Prop} {s : Shared} {h₀ : Heap} {L a b : Addr} {news : Led} {x1 x2 y1 y2 : Value} {n k : Nat} {Q : Value → Shared → Prop}
theorem my_listne2 (N : News h₀ L s.heap news) (ha : (a, listOf [x1, x2].toArray n) ∈ news) (hb : (b, listOf [y1, y2].toArray k) ∈ news) (hx : ∀ v ∈ [x1, x2], IsB v) (hy : ∀ v ∈ [y1, y2], IsB v) (hu : A.units < cLine)
    (e1 : bk x1 = bk y1) (e2 : bk x2 = bk y2) (h : Q (.bool false) s) : wpAny (model prog w) A (compareOp .NotEq (.ref a) (.ref b)) Q E s := by
  refine my_listne N ha hb hx hy rfl hu ?_
  rw [decide_eq_true (by simp [e1, e2])]
  exact h
theorem my_listeq2 (N : News h₀ L s.heap news) (ha : (a, listOf [x1, x2].toArray n) ∈ news) (hb : (b, listOf [y1, y2].toArray k) ∈ news) (hx : ∀ v ∈ [x1, x2], IsB v) (hy : ∀ v ∈ [y1, y2], IsB v) (hu : A.units < cLine)
    (e1 : bk x1 = bk y1) (e2 : bk x2 = bk y2) (h : Q (.bool true) s) : wpAny (model prog w) A (compareOp .Eq (.ref a) (.ref b)) Q E s := by
  refine my_listeq N ha hb hx hy rfl hu ?_
  rw [decide_eq_true (by simp [e1, e2])]
  exact h
end
section
variable {prog : Program} {w : World} {A : Around} {E : Value → Shared → Prop} {s : Shared} {h₀ : Heap} {L D : Addr} {m : Str → Option Value} {news : Led} {vs : List Value} {x y : Value} {n : Nat} {u : Tok}
theorem my_subBack {value slice : Expr} {Q : Value → Shared → Prop} (N : News h₀ L s.heap news) (hm : (D, listOf vs.toArray n) ∈ news) (h0 : 0 < vs.length) (hz : vs.length < 2 ^ 60) (h : Q (vs.getD (vs.length - 1) Value.none) s)
    (hs : subscripted slice false (.ref D) (.int (-1) u) = operate [.ref D, .int (-1) u] (getItem (.ref D) (.int (-1) u)) := by with_unfolding_all rfl) (hg : ∀ r, letTemporaryGo value (.ref D) r = pure () := by intro _; with_unfolding_all rfl) :
    wpAny (model prog w) A (subscriptTail value slice (.ref D) (.int (-1) u)) Q E s :=
  kim_back N hm rfl rfl (by decide) (by omega) (by decide) (by rw [show ((-1 : Int) + (vs.length : Int)).toNat = vs.length - 1 by omega]; exact getD_some (by omega)) h hs hg
theorem my_bne {Q : Value → Shared → Prop} (hx : IsB x) (hy : IsB y) (h : Q (.bool (!decide (bk x = bk y))) s) : wpAny (model prog w) A (compareOp .NotEq x y) Q E s := by
  obtain ⟨b, t, rfl⟩ := hx
  obtain ⟨c, u, rfl⟩ := hy
  refine compareOp_gives (op := .NotEq) (typeIs_bytes s b t) (typeIs_bytes s c u) FB.slot_bytes_ne FB.entry_bytes_ne (FB.args_bytes_ne_2 _ _) (gives_bytes_ne b c t u) (fun e => nomatch e) ?_
  rw [show (b.toList != c.toList) = !decide (bk (.bytes b t) = bk (.bytes c u)) by rw [Bool.eq_iff_iff]; simp [bk]]
  exact h
theorem my_beq {Q : Value → Shared → Prop} (hx : IsB x) (hy : IsB y) (h : Q (.bool (decide (bk x = bk y))) s) : wpAny (model prog w) A (compareOp .Eq x y) Q E s := by
  obtain ⟨b, t, rfl⟩ := hx
  obtain ⟨c, u, rfl⟩ := hy
  refine compareOp_gives (op := .Eq) (typeIs_bytes s b t) (typeIs_bytes s c u) FB.slot_bytes_eq FB.entry_bytes_eq (FB.args_bytes_eq_2 _ _) (gives_bytes_eq b c t u) (fun e => nomatch e) ?_
  rw [show (b.toList == c.toList) = decide (bk (.bytes b t) = bk (.bytes c u)) by rw [Bool.eq_iff_iff]; simp [bk]]
  exact h
theorem ro_keep2 {g h : Heap} {ro : Led} (F : Fr g L h m) (hro : ∀ q ∈ ro, g.get? q.1 = some q.2) : ∀ q ∈ ro, h.get? q.1 = some q.2 ∧ q.1 ∉ ([] : Led).map (·.1) := fun q hq => ⟨F.keep _ _ (hro q hq), fun h => nomatch h⟩
theorem rest_all {rest : Led} : ∀ q ∈ rest, q ∈ rest ∧ ∀ r ∈ ([] : Led), q.1 ≠ r.1 := fun q hq => ⟨hq, fun r hr => nomatch hr⟩
end
end
noncomputable section
set_option maxRecDepth 100000
set_option linter.unusedVariables false
open Builtin Builtin.Bytes
noncomputable def hexout (b : Array UInt8) : Array Nat := b.toList.zipIdx.foldl (fun (out : Array Nat) (x : UInt8 × Nat) => (out.push (hexDigit (x.1.toNat / 16))).push (hexDigit (x.1.toNat % 16))) #[]
theorem hex_tree (b : Array UInt8) (t : Tok) : Builtin.«bytes.hex» ⟨[.bytes b t], []⟩ = (do ret (← mkStr ⟨hexout b⟩)) := by
  rfl
theorem gives_hex (b : Array UInt8) (t : Tok) : Gives (Builtin.«bytes.hex» ⟨[.bytes b t], []⟩) (.str ⟨hexout b⟩) := by
  rw [hex_tree]
  exact Gives.of_eq rfl
theorem upper_tree (b : Array UInt8) (t : Tok) : Builtin.«bytes.upper» ⟨[.bytes b t], []⟩ = (do ret (← mkBytes (b.toList.map toUpper).toArray)) := by
  rfl
end
noncomputable section
set_option maxRecDepth 100000
set_option linter.unusedVariables false
open Builtin Builtin._codecs
theorem fold_one : ∀ (l : List Nat) (acc : Array UInt8), l.foldl (fun acc y => acc ++ (asciiCodec.bytesOf y).toArray) acc = acc ++ (l.map Nat.toUInt8).toArray
  | [], acc => by simp
  | c :: l, acc => by
    rw [List.foldl_cons, fold_one l]
    show acc ++ [c.toUInt8].toArray ++ _ = _
    apply Array.toList_inj.mp
    simp
section
variable {prog : Program} {w : World} {A : Around} {E : Value → Shared → Prop} {s : Shared}
theorem narrow_ascii {x : Str} {self : Value} {Q : Array UInt8 → Shared → Prop} (ha : ∀ c ∈ x.cps.toList, c < 128) (hz : x.length ≤ 100) (h : Q (x.cps.map Nat.toUInt8) s) : wpAny (model prog w) A (encodeNarrow "str.encode" asciiCodec none self x) Q E s := by
  unfold encodeNarrow
  dsimp only
  refine wpAny_bind ?_
  rw [Std.Legacy.Range.forIn_eq_forIn_range']
  have hout : ∀ c ∈ x.cps, asciiCodec.bad c = false := fun c hc => by
    have := ha c (by simpa using hc)
    show decide (c ≥ 128) = false
    simpa using this
  refine wpAny_forIn_list _ (fun rest r s' => s' = s ∧ ((r.1 = 0 ∧ r.2.1 = #[] ∧ rest.length = x.length) ∨ (r.1 = x.cps.size ∧ r.2.1 = x.cps.map Nat.toUInt8))) _ ?_ ?_ _ _ ⟨rfl, .inl ⟨rfl, rfl, by simp [Std.Legacy.Range.size]⟩⟩
  · rintro k rest ⟨i, out, st⟩ s' ⟨es, hr⟩
    subst es
    rcases hr with ⟨e1, e2, hl⟩ | ⟨e1, e2⟩
    · replace e1 : i = 0 := e1
      replace e2 : out = #[] := e2
      subst e1 e2
      have hpos : 0 < x.cps.size := by
        have : x.cps.size = rest.length + 1 := hl.symm
        omega
      rw [if_neg (show ¬ ((#[] : Array UInt8).size > sizeLine) from Nat.not_lt.mpr (Nat.zero_le _)), Array.getElem?_eq_getElem hpos]
      dsimp only
      rw [hout _ (Array.getElem_mem hpos)]
      simp only [Bool.not_false, if_true]
      have hext : x.cps.extract 0 x.cps.size = x.cps := by simp
      have hfi : x.cps.findIdx? asciiCodec.bad = none := by
        rw [Array.findIdx?_eq_none_iff]
        intro c hc
        exact hout c hc
      rw [hext, hfi]
      simp only [Option.getD_none]
      rw [hext]
      refine wpAny_pure ⟨rfl, .inr ⟨by simp, ?_⟩⟩
      dsimp only
      rw [← Array.foldl_toList, fold_one]
      apply Array.toList_inj.mp
      simp
    · replace e1 : i = x.cps.size := e1
      replace e2 : out = x.cps.map Nat.toUInt8 := e2
      subst e1 e2
      rw [if_neg (show ¬ ((x.cps.map Nat.toUInt8).size > sizeLine) from by
        rw [Array.size_map, sizeLine_eq]
        have : x.cps.size ≤ 100 := hz
        omega)]
      have : x.cps[x.cps.size]? = none := by simp
      rw [this]
      exact wpAny_pure (wpAny_pure h)
  · rintro ⟨i, out, st⟩ s' ⟨rfl, hr⟩
    refine wpAny_pure ?_
    dsimp only at hr ⊢
    rcases hr with ⟨rfl, rfl, hl⟩ | ⟨rfl, rfl⟩
    · have : x.cps = #[] := by
        have : x.cps.size = 0 := hl.symm
        exact Array.size_eq_zero_iff.mp this
      rw [this] at h
      simpa using h
    · exact h
theorem road_ascii (id : String) (self : Value) (x : Str) : encodeRoad id self x (Str.ofString "ascii") none = (do mkBytes (← encodeNarrow id asciiCodec none self x)) := by
  first | rfl | (unfold encodeRoad; rfl) | (unfold encodeRoad; simp only []; rfl)
theorem encode_tree2 (x : Str) (t u : Tok) : Builtin.«str.encode» ⟨[.str x t, .str (Str.ofString "ascii") u], []⟩ = (do ret (← encodeRoad "str.encode" (.str x t) x (Str.ofString "ascii") none)) := by
  first | kernel_rfl | (with_unfolding_all rfl)
theorem call_encode {x : Str} {t u : Tok} {Q : Value → Shared → Prop} (ha : ∀ c ∈ x.cps.toList, c < 128) (hz : x.length ≤ 100) (h : Q (.bytes (x.cps.map Nat.toUInt8) s.toks) { s with toks := s.toks + 1 }) :
    wpAny (model prog w) A (call (.builtin "str.encode") [.str x t, .str (Str.ofString "ascii") u]) Q E s := by
  refine wpAny_call_entry F.slot_str_encode (typeIs_str s x t) F.entry_str_encode ?_ (F.args_str_encode_2 _ _)
  rw [encode_tree2, road_ascii]
  refine wpAny_bind (wpAny_bind (narrow_ascii ha hz ?_))
  exact wpAny_mkBytes (wpAny_pure ⟨_, rfl, h⟩) (by rw [Array.size_map, sizeLine_eq]; have : x.cps.size ≤ 100 := hz; omega)
theorem call_hex {b : Array UInt8} {t : Tok} {Q : Value → Shared → Prop} (hs : (⟨hexout b⟩ : Str).length ≤ sizeLine) (h : Q (.str ⟨hexout b⟩ s.toks) { s with toks := s.toks + 1 }) : wpAny (model prog w) A (call (.builtin "bytes.hex") [.bytes b t]) Q E s := by
  refine wpAny_call_entry FB.slot_bytes_hex (typeIs_bytes s b t) FB.entry_bytes_hex ?_ (FB.args_bytes_hex_1 _)
  rw [hex_tree]
  exact wpAny_bind (wpAny_mkStr (wpAny_pure ⟨_, rfl, h⟩) hs)
end
noncomputable def hexl (l : List UInt8) : List Nat := l.flatMap fun c => [Bytes.hexDigit (c.toNat / 16), Bytes.hexDigit (c.toNat % 16)]
theorem hexout_go : ∀ (l : List UInt8) (k : Nat) (acc : Array Nat), (l.zipIdx k).foldl (fun (out : Array Nat) (x : UInt8 × Nat) => (out.push (Bytes.hexDigit (x.1.toNat / 16))).push (Bytes.hexDigit (x.1.toNat % 16))) acc = acc ++ (hexl l).toArray
  | [], k, acc => by simp [hexl]
  | c :: l, k, acc => by
    rw [List.zipIdx_cons, List.foldl_cons, hexout_go l]
    apply Array.toList_inj.mp
    simp [hexl]
theorem hexout_eq (b : Array UInt8) : hexout b = (hexl b.toList).toArray := by
  unfold hexout
  rw [hexout_go]
  simp
theorem hexl_len : ∀ l : List UInt8, (hexl l).length = 2 * l.length
  | [] => rfl
  | c :: l => by
    have := hexl_len l
    unfold hexl at *
    simp only [List.flatMap_cons, List.length_append, List.length_cons, List.length_nil]
    omega
theorem hexDigit_lt (n : Nat) (h : n < 16) : Bytes.hexDigit n < 128 := by unfold Bytes.hexDigit; split <;> omega
theorem hexl_ascii {l : List UInt8} : ∀ c ∈ hexl l, c < 128 := fun c hc => by
  unfold hexl at hc
  obtain ⟨x, hx, hc⟩ := List.mem_flatMap.mp hc
  have := x.toNat_lt
  rcases List.mem_cons.mp hc with rfl | hc
  · exact hexDigit_lt _ (by omega)
  · rw [List.mem_singleton.mp hc]
    exact hexDigit_lt _ (by omega)
end
noncomputable section
set_option maxRecDepth 100000
set_option linter.unusedVariables false
theorem slot_bytes_upper : Slot "bytes" "upper" "bytes.upper" :=
  .of (owner := "bytes") (n := "upper") (by rw [typeLookup_type, builtinLookup_eq_fast]; kernel_rfl) (by decide +kernel) (by decide +kernel) (by decide +kernel)
    (by first | exact .inl (by decide +kernel) | exact .inr (by decide +kernel)) (by rw [isSubtype_type]; kernel_rfl)
theorem type_bytes_upper : typeOf (.builtin "bytes.upper") = pure (.type "method_descriptor") := by show builtinType _ = _; rw [builtinType_eq_fast]; kernel_rfl
theorem entry_bytes_upper : entryFor table "bytes.upper" = some Builtin.«bytes.upper» := entryFor_of_tree (by kernel_rfl)
theorem args_bytes_upper_1 (a : Value) : argsOk "bytes.upper" ⟨[a], []⟩ := by
  unfold argsOk; rw [signature?_of (id := "bytes.upper") (n := ['r', 'e', 'p', 'p', 'u']) (o := ['s', 'e', 't', 'y', 'b']) (by kernel_rfl) FB.owner_bytes]; kernel_rfl
section
variable {prog : Program} {w : World} {A : Around} {E : Value → Shared → Prop} {s : Shared}
theorem call_upper {b : Array UInt8} {t : Tok} {Q : Value → Shared → Prop} (hs : b.size ≤ 100) (h : Q (.bytes (b.toList.map Builtin.Bytes.toUpper).toArray s.toks) { s with toks := s.toks + 1 }) : wpAny (model prog w) A (call (.builtin "bytes.upper") [.bytes b t]) Q E s := by
  refine wpAny_call_entry slot_bytes_upper (typeIs_bytes s b t) entry_bytes_upper ?_ (args_bytes_upper_1 _)
  rw [upper_tree]
  exact wpAny_bind (wpAny_mkBytes (wpAny_pure ⟨_, rfl, h⟩) (by rw [List.size_toArray, List.length_map, sizeLine_eq, Array.length_toList]; omega))
theorem getM_hex {M : Model} {b : Array UInt8} {t : Tok} {pl : Sem Bool} {Q : Value × List Value → Shared → Prop} (h : Q (.builtin "bytes.hex", [.bytes b t]) s) : wpAny M A (getMethod (.bytes b t) "hex" pl) Q E s := by
  with_reducible exact KBd.method_of (.bytes b t) (typeIs_bytes _ _ _) FB.slot_bytes_hex FB.type_bytes_hex KBd.noRef h
theorem getM_upper {M : Model} {b : Array UInt8} {t : Tok} {pl : Sem Bool} {Q : Value × List Value → Shared → Prop} (h : Q (.builtin "bytes.upper", [.bytes b t]) s) : wpAny M A (getMethod (.bytes b t) "upper" pl) Q E s := by
  with_reducible exact KBd.method_of (.bytes b t) (typeIs_bytes _ _ _) slot_bytes_upper type_bytes_upper KBd.noRef h
theorem getM_encode {M : Model} {x : Str} {t : Tok} {pl : Sem Bool} {Q : Value × List Value → Shared → Prop} (h : Q (.builtin "str.encode", [.str x t]) s) : wpAny M A (getMethod (.str x t) "encode" pl) Q E s := by
  with_reducible exact getMethod_builtin (typeIs_str _ _ _) F.plainAttrs_str F.slot_str_encode F.type_str_encode (fun _ e => nomatch e) h
end
end
noncomputable section
set_option maxRecDepth 100000
set_option linter.unusedVariables false
theorem bitAnd_nat (a b : Nat) : Builtin.bitAnd (a : Int) (b : Int) = ((a &&& b : Nat) : Int) := by rfl
theorem bitOr_nat (a b : Nat) : Builtin.bitOr (a : Int) (b : Int) = ((a ||| b : Nat) : Int) := by
  have h1 : decide (0 ≤ Builtin.bitNot (a : Int)) = false := by simp [Builtin.bitNot]; omega
  have h2 : decide (0 ≤ Builtin.bitNot (b : Int)) = false := by simp [Builtin.bitNot]; omega
  unfold Builtin.bitOr Builtin.bitAnd
  rw [h1, h2]
  have e1 : (Builtin.bitNot (Builtin.bitNot (a : Int))).toNat = a := by simp only [Builtin.bitNot]; omega
  have e2 : (Builtin.bitNot (Builtin.bitNot (b : Int))).toNat = b := by simp only [Builtin.bitNot]; omega
  dsimp only
  rw [e1, e2]
  simp only [Builtin.bitNot]
  omega
section
variable {prog : Program} {w : World} {A : Around} {E : Value → Shared → Prop} {s : Shared} {a b : Nat} {c : Int} {t u : Tok} {Q : Value → Shared → Prop}
theorem my_and (hc : c = (b : Int)) (h : ∀ t', Q (.int ((a &&& b : Nat) : Int) t') { s with toks := s.toks + 1 }) : wpAny (model prog w) A (binaryOp .BitAnd (.int (a : Int) t) (.int c u)) Q E s := by
  subst hc
  refine and_int ?_
  rw [bitAnd_nat]; exact h _
theorem my_or (h : ∀ t', Q (.int ((a ||| b : Nat) : Int) t') { s with toks := s.toks + 1 }) : wpAny (model prog w) A (binaryOp .BitOr (.int (a : Int) t) (.int (b : Int) u)) Q E s := by
  refine or_int ?_
  rw [bitOr_nat]; exact h _
theorem my_shl (hc : c = (b : Int)) (hb : b ≤ 64) (ha : a < 2 ^ 60) (h : ∀ t', Q (.int ((a * 2 ^ b : Nat) : Int) t') { s with toks := s.toks + 1 }) : wpAny (model prog w) A (binaryOp .LShift (.int (a : Int) t) (.int c u)) Q E s := by
  subst hc
  refine lshift_int_small (by omega) (by omega) (by omega) ?_
  have : (a : Int) * 2 ^ (b : Int).toNat = ((a * 2 ^ b : Nat) : Int) := by rw [Int.toNat_natCast]; push_cast; rfl
  rw [this]; exact h _
theorem my_shr (hc : c = (b : Int)) (h : ∀ t', Q (.int ((a / 2 ^ b : Nat) : Int) t') { s with toks := s.toks + 1 }) : wpAny (model prog w) A (binaryOp .RShift (.int (a : Int) t) (.int c u)) Q E s := by
  subst hc
  refine rshift_int (by omega) ?_
  have : (a : Int).fdiv (2 ^ (b : Int).toNat) = ((a / 2 ^ b : Nat) : Int) := by
    rw [Int.toNat_natCast, Int.fdiv_eq_ediv_of_nonneg _ (Int.le_of_lt (Int.pow_pos (by decide)))]; push_cast; rfl
  rw [this]; exact h _
theorem my_bitem {B : Array UInt8} {j : Nat} {ti : Tok} {value slice : Expr} (hfit : B.size ≤ 1000) (h1 : j < B.size)
    (h : ∀ t' k, Q (.int (((B.getD j 0).toNat : Nat) : Int) t') { s with toks := k })
    (hs : subscripted slice false (.bytes B t) (.int (j : Int) ti) = operate [.bytes B t, .int (j : Int) ti] (getItem (.bytes B t) (.int (j : Int) ti)) := by with_unfolding_all rfl)
    (ht : ∀ r, letTemporaryGo value (.bytes B t) r = pure () := by intro _; with_unfolding_all rfl) : wpAny (model prog w) A (subscriptTail value slice (.bytes B t) (.int (j : Int) ti)) Q E s := by
  refine KBw.item_K rfl (by rw [KBw.ints_length]; omega) (by omega) (by rw [KBw.ints_length]; omega) (fun t' k _ _ => ?_) hs ht
  have e : (KBw.bInts B).getD (Int.toNat (j : Int)) 0 = (((B.getD j 0).toNat : Nat) : Int) := by
    rw [Int.toNat_natCast, List.getD_eq_getElem?_getD, KBw.ints_get (by rw [Array.getElem?_eq_getElem h1])]
    simp [Array.getD, h1]
  rw [e]; exact h t' k
end
end
noncomputable section
set_option maxRecDepth 100000
set_option linter.unusedVariables false
open Builtin Builtin.Re
noncomputable def patCode : Array Nat := #[14, 12, 4, 1, 1, 21, 22, 48, 57, 22, 65, 70, 0, 13, 9, 21, 22, 48, 57, 22, 65, 70, 0, 1]
noncomputable def upHex (c : Nat) : Prop := (48 ≤ c ∧ c ≤ 57) ∨ (65 ≤ c ∧ c ≤ 70)
theorem inSet_neg {c fuel i : Nat} {yes : Bool} {seen : Sre.Seen} (h : Sre.ops[patCode.getD (i + 0) 0]? = some .NEGATE) :
    Sre.inSet patCode c (fuel + 1) i yes seen = Sre.inSet patCode c fuel (i + 1) (!yes) (seen.add (patCode.getD (i + 0) 0)) := by
  conv => lhs; whnf
  rw [h]
theorem inSet_range {c fuel i : Nat} {yes : Bool} {seen : Sre.Seen} (h : Sre.ops[patCode.getD (i + 0) 0]? = some .RANGE) :
    Sre.inSet patCode c (fuel + 1) i yes seen = (if patCode.getD (i + 1) 0 ≤ c && c ≤ patCode.getD (i + 2) 0 then .ok (yes, seen.add (patCode.getD (i + 0) 0)) else Sre.inSet patCode c fuel (i + 3) yes (seen.add (patCode.getD (i + 0) 0))) := by
  conv => lhs; whnf
  rw [h]
theorem inSet_hex {c : Nat} (h : upHex c) (seen : Sre.Seen) : ∃ seen', Sre.inSet patCode c patCode.size 5 true seen = .ok (false, seen') := by
  show ∃ seen', Sre.inSet patCode c (23 + 1) 5 true seen = .ok (false, seen')
  rw [inSet_neg (by rfl)]
  show ∃ seen', Sre.inSet patCode c (22 + 1) 6 false _ = .ok (false, seen')
  rw [inSet_range (by rfl)]
  by_cases h1 : (48 ≤ c ∧ c ≤ 57)
  · rw [if_pos (by simpa [patCode] using h1)]
    exact ⟨_, rfl⟩
  · rw [if_neg (by simpa [patCode] using h1)]
    show ∃ seen', Sre.inSet patCode c (21 + 1) 9 false _ = .ok (false, seen')
    rw [inSet_range (by rfl)]
    have h2 : 65 ≤ c ∧ c ≤ 70 := h.resolve_left h1
    rw [if_pos (by simpa [patCode] using h2)]
    exact ⟨_, rfl⟩
theorem admitted_none {m : Sre.M} (hc : m.code = patCode) (ht : ∀ i, i < m.lim → upHex (m.text.getD i 0)) : ∀ (fuel s : Nat) (seen : Sre.Seen), ∃ seen', Sre.M.admitted m fuel s seen = .ok (none, seen')
  | 0, s, seen => ⟨_, rfl⟩
  | fuel + 1, s, seen => by
    rw [Sre.M.admitted]
    by_cases hs : s ≥ m.lim
    · rw [if_pos hs]; exact ⟨_, rfl⟩
    · rw [if_neg hs, hc]
      obtain ⟨seen', e⟩ := inSet_hex (ht s (by omega)) seen
      rw [e]
      exact admitted_none hc ht fuel (s + 1) seen'
theorem from_says {m : Sre.M} (hc : m.code = patCode) (ht : ∀ i, i < m.lim → upHex (m.text.getD i 0)) (hf : m.frames = []) (ho : m.outcome = none) :
    ∃ m', Sre.M.attemptFrom m 0 true = Sre.M.say m' false ∧ m'.frames = [] ∧ m'.outcome = none := by
  unfold Sre.M.attemptFrom
  have hh : m.hasFirstSet = true := by
    unfold Sre.M.hasFirstSet
    rw [hc]; rfl
  rw [hh]
  simp only [Bool.not_true, Bool.false_eq_true, if_false]
  obtain ⟨seen', e⟩ := admitted_none hc ht (m.lim + 1 - 0) 0 m.seen
  rw [e]
  exact ⟨_, rfl, hf, ho⟩
theorem search_says (text : Array Nat) (lim : Nat) (ht : ∀ i, i < lim → upHex (text.getD i 0)) :
    ∃ m, Sre.forSearch patCode text 0 0 lim false = Sre.M.say m false ∧ m.frames = [] ∧ m.outcome = none := by
  unfold Sre.forSearch
  dsimp only
  split
  · exact ⟨_, rfl, rfl, rfl⟩
  · exact from_says (by rfl) ht rfl rfl
theorem step_says {m : Sre.M} (hf : m.frames = []) (ho : m.outcome = none) : ((m.say false).runFor reTurnSteps).outcome = some .failed := by
  have h1 : (m.say false).step.outcome = some .failed := by
    unfold Sre.M.step Sre.M.say
    simp only [ho, hf]
    rfl
  have h2 : ∀ n (x : Sre.M), x.outcome = some .failed → (x.runFor n).outcome = some .failed := by
    intro n x hx
    cases n with
    | zero => exact hx
    | succ n => unfold Sre.M.runFor; rw [if_pos (by rw [hx]; rfl)]; exact hx
  show ((m.say false).runFor (3 + 1)).outcome = _
  rw [Sre.M.runFor]
  rw [if_neg (by show ¬ (m.outcome.isSome = true); rw [ho]; simp)]
  exact h2 3 _ h1
section
variable {prog : Program} {w : World} {A : Around} {E : Value → Shared → Prop} {s : Shared}
theorem run_none {m : Sre.M} {Q : Option Sre.M → Shared → Prop} (hf : m.frames = []) (ho : m.outcome = none) (h : Q none s) : wpAny (model prog w) A (reRunToEnd (m.say false)) Q E s := by
  have hs := step_says hf ho
  unfold reRunToEnd
  have e : reDrive (2 ^ 64) (m.say false) = pure ((m.say false).runFor reTurnSteps) := by
    show reDrive (18446744073709551615 + 1) (m.say false) = _
    rw [reDrive]
    rw [if_pos (by rw [hs]; rfl)]
  rw [e]
  refine wpAny_bind (wpAny_pure ?_)
  refine wpAny_bind ?_
  refine wpAny_forIn_list _ (fun _ _ s' => s' = s) _ ?_ ?_ _ _ rfl
  · intro x rest b s' e
    subst e
    split
    · exact wpAny_bind (wpAny_rule (wpAny_pure rfl))
    · exact wpAny_pure rfl
  · rintro b s' rfl
    rw [hs]
    exact wpAny_pure h
end
end
noncomputable section
set_option maxRecDepth 100000
set_option linter.unusedVariables false
open Builtin Builtin.Re
theorem plainAttrs_pat : PlainAttrs "re.Pattern" :=
  ⟨⟨"object.__getattribute__", by rw [typeLookup_type, builtinLookup_eq_fast]; kernel_rfl, by decide +kernel⟩, by rw [typeLookup_type, builtinLookup_eq_fast]; kernel_rfl⟩
theorem slot_search : Slot "re.Pattern" "search" "re.Pattern.search" :=
  .of (owner := "re.Pattern") (n := "search") (by rw [typeLookup_type, builtinLookup_eq_fast]; kernel_rfl) (by decide +kernel) (by decide +kernel) (by decide +kernel)
    (by first | exact .inl (by decide +kernel) | exact .inr (by decide +kernel)) (by rw [isSubtype_type]; kernel_rfl)
theorem type_search : typeOf (.builtin "re.Pattern.search") = pure (.type "method_descriptor") := by show builtinType _ = _; rw [builtinType_eq_fast]; kernel_rfl
theorem entry_search : entryFor table "re.Pattern.search" = some Builtin.«re.Pattern.search» := by first | exact entryFor_of_tree (by kernel_rfl) | exact entryFor_of_fast (by kernel_rfl)
theorem args_search (a b : Value) : argsOk "re.Pattern.search" ⟨[a, b], []⟩ := by
  unfold argsOk; kernel_rfl
theorem named_search (b : Array UInt8) (t : Tok) : reNamed "re.Pattern.search" "search" ["string", "pos", "endpos"] 1 [.bytes b t] [] = pure [some (.bytes b t), none, none] := by
  first | rfl | kernel_rfl
noncomputable def patObj : Obj := { cls := .type "re.Pattern", data := .fields #[.bytes #[91, 94, 48, 45, 57, 65, 45, 70, 93] 328, .int 0 355, .int 0 0, .none, .none, .ref 69, .int 1 0] }
noncomputable def codeObj : Obj := { cls := .type "tuple", data := .seq #[.int 14 0, .int 12 0, .int 4 0, .int 1 0, .int 1 0, .int 21 0, .int 22 0, .int 48 0, .int 57 0, .int 22 0, .int 65 0, .int 70 0, .int 0 0, .int 13 0, .int 9 0, .int 21 0, .int 22 0, .int 48 0, .int 57 0, .int 22 0, .int 65 0, .int 70 0, .int 0 0, .int 1 0] 0 }
section
variable {prog : Program} {w : World} {A : Around} {E : Value → Shared → Prop} {s : Shared}
theorem target_search {b : Array UInt8} {t : Tok} {Q : ReTarget → Shared → Prop} (hp : s.heap.get? 70 = some patObj) (hc : s.heap.get? 69 = some codeObj)
    (h : ∀ r : ReTarget, r.code = patCode → r.text = b.map (·.toNat) → r.groups = 0 → r.pos = 0 → r.lim ≤ b.size → Q r s) :
    wpAny (model prog w) A (reTarget "re.Pattern.search" "search" ⟨[.ref 70, .bytes b t], []⟩) Q E s := by
  unfold reTarget
  show wpAny _ _ (reNamed "re.Pattern.search" "search" ["string", "pos", "endpos"] 1 [.bytes b t] [] >>= _) Q E s
  rw [named_search]
  refine wpAny_bind (wpAny_pure ?_)
  show wpAny _ _ (fieldsOf (.ref 70) >>= _) Q E s
  refine wpAny_bind (wpAny_fieldsOf hp rfl ?_)
  have e : reTextOf (.bytes b t) = pure (b.map (·.toNat), 1) := by
    unfold reTextOf
    show (Bytes.bufferQuiet? "_sre" (.bytes b t) >>= _) = _
    rw [KBy.quiet_eq]
    rfl
  refine wpAny_bind (wpAny_of_eq e ?_)
  have e2 : reNoCollectionInside (.bytes b t) 1 = pure () := by
    unfold reNoCollectionInside
    show (isInstance (.bytes b t) (.type "bytes") >>= _) = _
    rw [KBy.isInstance_eq]
    rfl
  show wpAny _ _ (reNoCollectionInside (.bytes b t) 1 >>= _) Q E s
  refine wpAny_bind (wpAny_of_eq e2 ?_)
  show wpAny _ _ (reRawItems (.ref 69) >>= _) Q E s
  unfold reRawItems
  refine wpAny_bind (wpAny_bind (wpAny_seqItems hc rfl (wpAny_pure (wpAny_pure ?_))))
  have ec : (#[.int 14 0, .int 12 0, .int 4 0, .int 1 0, .int 1 0, .int 21 0, .int 22 0, .int 48 0, .int 57 0, .int 22 0, .int 65 0, .int 70 0, .int 0 0, .int 13 0, .int 9 0, .int 21 0, .int 22 0, .int 48 0, .int 57 0, .int 22 0, .int 65 0, .int 70 0, .int 0 0, .int 1 0].map reRawOf).map Int.toNat = patCode := by first | decide +kernel | kernel_rfl
  refine h _ ec rfl rfl ?_ ?_
  · show min (0 : Int).toNat _ = 0
    simp
  · show min _ (b.map (·.toNat)).size ≤ b.size
    rw [Array.size_map]
    exact Nat.min_le_right _ _
theorem call_search {b : Array UInt8} {t : Tok} {Q : Value → Shared → Prop} (hp : s.heap.get? 70 = some patObj) (hc : s.heap.get? 69 = some codeObj)
    (hb : ∀ c ∈ b.toList, upHex c.toNat) (h : Q .none s) : wpAny (model prog w) A (call (.builtin "re.Pattern.search") [.ref 70, .bytes b t]) Q E s := by
  refine wpAny_call_entry slot_search ⟨_, hp, rfl⟩ entry_search ?_ (args_search _ _)
  unfold «re.Pattern.search»
  refine wpAny_bind (target_search hp hc fun r h1 h2 h3 h4 h5 => ?_)
  unfold reAnswer
  obtain ⟨m, e, hf, ho⟩ := search_says r.text r.lim (by
    intro i hi
    rw [h2]
    have hi' : i < b.size := by omega
    have : (b.map (·.toNat)).getD i 0 = b[i].toNat := by simp [Array.getD, hi']
    rw [this]
    exact hb _ (by simp))
  rw [h1, h3, h4, e]
  exact wpAny_bind (run_none hf ho (wpAny_pure ⟨_, rfl, h⟩))
theorem getM_search {M : Model} {pl : Sem Bool} {Q : Value × List Value → Shared → Prop} (hp : s.heap.get? 70 = some patObj) (h : Q (.builtin "re.Pattern.search", [.ref 70]) s) : wpAny M A (getMethod (.ref 70) "search" pl) Q E s := by
  have hT : s.TypeIs (.ref 70) "re.Pattern" := ⟨_, hp, rfl⟩
  have hd : ∀ a, Value.ref 70 = .ref a → ∃ o, s.heap.get? a = some o ∧ o.dict = none := fun a e => by cases e; exact ⟨_, hp, rfl⟩
  with_reducible exact getMethod_builtin hT plainAttrs_pat slot_search type_search hd h
end
end
noncomputable section
set_option maxRecDepth 100000
set_option linter.unusedVariables false
theorem unr_end {h₀ : Heap} {L I : Addr} {it : Obj} {rest : (Str → Option Value) → Led → Prop} {s₁ : Shared} {h' : Heap} {tk : Nat} {m' : Str → Option Value} {nw : Led} (F : Fr h₀ L h' m') (N : News h₀ L h' ((I, it) :: nw))
    (r : HeldP ((∀ p ∈ nw, p.1 ≠ I) ∧ rest m' nw)) : UnrEnd h₀ L s₁ I it rest { s₁ with heap := h', toks := tk } := ⟨h', tk, m', nw, rfl, F, N, r.out.1, r.out.2⟩
theorem unr_mono {h₀ : Heap} {L I : Addr} {it : Obj} {r₁ r₂ : (Str → Option Value) → Led → Prop} {s₁ s₂ : Shared} {Q : Flow → Shared → Prop} {f : Flow} (h : ∀ m n, r₁ m n → r₂ m n) (p : UnrPost h₀ L s₁ I it r₁ Q f s₂) : UnrPost h₀ L s₁ I it r₂ Q f s₂ := by
  have fin : UnrEnd h₀ L s₁ I it r₁ s₂ → UnrEnd h₀ L s₁ I it r₂ s₂ := fun ⟨h', tk, m', n', e, F, N, o, r⟩ => ⟨h', tk, m', n', e, F, N, o, h _ _ r⟩
  cases f with
  | ret v => exact p
  | brk => exact p
  | next => exact fin p
  | cont => exact fin p
section
variable {prog : Program} {w : World} {A : Around} {E : Value → Shared → Prop} {s : Shared} {env : Env} {h₀ : Heap} {x : Str} {body : List Stmt} {Q : Flow → Shared → Prop}
theorem my_forBytes {b : Array UInt8} {t : Tok} {ks : List Int} {m₀ : Str → Option Value} {news : Led} (J : Nat → (Str → Option Value) → Led → Prop) (hk : KBw.bInts b = ks) (hh : A.handled = none) (F : Fr h₀ env.locals s.heap m₀) (N : News h₀ env.locals s.heap news) (hJ : J 0 m₀ news)
    (turn : ∀ I, (∀ p ∈ news, p.1 < I) → ∀ i k m nw, ks[i]? = some k → 0 ≤ k → k < 256 → J i m nw → ∀ u it h tk, Fr h₀ env.locals h (fun y => if y = x then some (.int k u) else m y) → News h₀ env.locals h ((I, it) :: nw) →
      wpAny (model prog w) A (execs body env) (UnrPost h₀ env.locals { s with heap := h, toks := tk } I it (J (i + 1)) Q) E { s with heap := h, toks := tk })
    (done : ∀ m nw h tk, J ks.length m nw → Fr h₀ env.locals h m → News h₀ env.locals h nw → Q .next { s with heap := h, toks := tk }) :
    wpAny (model prog w) A (pyIter (.bytes b t)) (fun it s₂ => LoopAtV prog w A h₀ env x body Q E it s₂) E s := by
  refine iter_bytesUnr hh F N hk fun I hI => ?_
  have key : ∀ (l : List Int) (i : Nat) m nw, ks.drop i = l → J i m nw → i ≤ ks.length → BytesRest prog w A E h₀ env x body Q s I l m nw := by
    intro l
    induction l with
    | nil =>
      intro i m nw e hj hi
      have : i = ks.length := by have := congrArg List.length e; simp at this; omega
      subst this
      exact BytesRest.zero fun h tk F N => done m nw h tk hj F N
    | cons k r ih =>
      intro i m nw e hj hi
      have hlt : i < ks.length := by have := congrArg List.length e; simp at this; omega
      have e' : ks[i]? = some k ∧ ks.drop (i + 1) = r := by
        rw [List.drop_eq_getElem_cons hlt] at e
        have := List.cons.inj e
        exact ⟨by rw [List.getElem?_eq_getElem hlt, this.1], this.2⟩
      refine BytesRest.succ fun h0 h1 u it h tk F N => ?_
      exact wpAny_mono (turn I hI i k m nw e'.1 h0 h1 hj u it h tk F N) (fun f s₂ p => unr_mono (fun m' n' hj' => ih (i + 1) m' n' e'.2 hj' hlt) p) fun _ _ e => e
  exact key ks 0 m₀ news (List.drop_zero) hJ (Nat.zero_le _)
end
theorem intsAre_snoc {vs : List Value} {ns : List Int} (h : IntsAre vs ns) (n : Int) (t : Tok) : IntsAre (vs ++ [.int n t]) (ns ++ [n]) := h.append (.cons n t .nil)
section
variable {prog : Program} {w : World} {A : Around} {E : Value → Shared → Prop} {s : Shared} {h₀ : Heap} {L D : Addr} {m : Str → Option Value} {news news' : Led} {vs : List Value} {x : Value} {n : Nat}
theorem my_append {Q : Value → Shared → Prop} (F : Fr h₀ L s.heap m) (N : News h₀ L s.heap news) (U : Upd D (listOf vs.toArray n) (listOf (vs ++ [x]).toArray (n + 1)) news news') (hsz : vs.length ≤ 1000)
    (h : ∀ h', Fr h₀ L h' m → News h₀ L h' news' → Q .none { s with heap := h' }) : wpAny (model prog w) A (call (.builtin "list.append") [.ref D, x]) Q E s := by
  refine append_K F N (its := vs.toArray) (n := n) (news' := news') ?_ h (by rw [List.size_toArray, sizeLine_eq]; omega)
  rw [List.push_toArray]; exact U
end
section
variable {prog : Program} {w : World} {A : Around} {E : Value → Shared → Prop} {s : Shared} {h₀ : Heap} {L D : Addr} {m : Str → Option Value} {news : Led} {vs : List Value} {n : Nat}
theorem my_bytes {Q : Value → Shared → Prop} {l : List Nat} (F : Fr h₀ L s.heap m) (N : News h₀ L s.heap news) (hm : (D, listOf vs.toArray n) ∈ news) (hi : IntsAre vs (l.map fun (n : Nat) => (n : Int))) (hr : ∀ n ∈ l, n < 256) (hz : vs.length ≤ 1000) (hh : A.handled = none)
    (h : ∀ h' t k, Fr h₀ L h' m → News h₀ L h' news → Q (.bytes (l.map Nat.toUInt8).toArray t) { s with heap := h', toks := k }) : wpAny (model prog w) A (call (.type "bytes") [.ref D]) Q E s := by
  refine bytes_K F N (PySem.IsL.isList (n := n) (N _ hm).1) hi ?_ (by rw [sizeLine_eq]; omega) hh fun h' t k F' N' _ => ?_
  · intro x hx
    obtain ⟨y, hy, rfl⟩ := List.mem_map.mp hx
    have := hr y hy
    omega
  · rw [List.map_map]
    exact h h' t k F' N'
end
end
noncomputable section
set_option maxRecDepth 100000
set_option linter.unusedVariables false
open LCg
noncomputable def ByteAt (b : Array UInt8) (i : Nat) (v : Value) : Prop := ∃ c u, b[i]? = some c ∧ v = .int (c.toNat : Int) u
/-- a comprehension over bytes or over a text -/
noncomputable def SrcV (prog : Program) (w : World) (A : Around) (h₀ : Heap) (L : Addr) (m : Str → Option Value) (env : Env) (elt : Expr) (x : Str) (scope : Scope) (cl : List (Str × Addr)) (Fin : Shared → List Value → Led → Prop) (xv : Value) (s₁ : Shared) : Prop :=
  A.handled = none ∧ ∃ news, Fr h₀ L s₁.heap m ∧ News h₀ L s₁.heap news ∧
   ((∃ b t, xv = .bytes b t ∧ b.size ≤ sizeLine ∧ ∀ g, CompRest prog w A h₀ L m env elt x scope cl { s₁ with heap := g } (fun _ => True) (ByteAt b) (Fin { s₁ with heap := g }) b.size 0 [] news) ∨
    (∃ y t, xv = .str y t ∧ y.cps.all (· < 128) = true ∧ y.cps.size ≤ sizeLine ∧ ∀ g, CompRest prog w A h₀ L m env elt x scope cl { s₁ with heap := g } (fun _ => True) (SignAt y) (Fin { s₁ with heap := g }) y.cps.size 0 [] news))
section
variable {prog : Program} {w : World} {A : Around} {E : Value → Shared → Prop} {s : Shared} {h₀ : Heap} {L : Addr} {m : Str → Option Value} {env : Env}
theorem ListComp_V {elt iter : Expr} {x : Str} {px : Pos} {scope : Scope} {cl : List (Str × Addr)} {pos : Pos} {Q : Value → Shared → Prop} (F₀ : Fr h₀ L s.heap m)
    (hclos : closureFor scope env = pure cl) (hcell : ∀ y ∈ scope.names, y.2 ≠ .cell) (hkind : scope.kind = .function)
    (hnames : ∀ y ∈ scope.names, y.2 = .local → scope.names.lookup y.1 = some .local) (hx : scope.names.lookup x = some .local)
    (h : wpAny (model prog w) A (eval iter env) (SrcV prog w A h₀ L m env elt x scope cl (fun s₂ => FinE h₀ L m s₂ Q)) E s)
    (hs : ∀ x, foldedSetIterable iter env x = pure x := by intro _; rfl) :
    wpAny (model prog w) A (eval (.ListComp elt [⟨.Name x px, iter, [], 0⟩] scope pos) env) Q E s := by
  rw [eval_ListComp]
  refine wpAny_comprehension_free (use := none) rfl hs hclos hkind hnames (wpAny_mono h (fun xv s₁ h₁ => ?_) fun _ _ e => e)
  obtain ⟨hh, news, F, N, h₁⟩ := h₁
  rcases h₁ with ⟨b, t, rfl, hsz, R⟩ | ⟨y, t, rfl, ha, hsz, R⟩
  · refine KBw.pyIter_bytes ?_
    refine block_U (KBw.walks hh s₁.heap.objs.size b t) hsz (fun i h st => by obtain ⟨o, e, _⟩ := st; exact ⟨o, e⟩) (fun i h h' o nw st e e' _ _ _ => by obtain ⟨o', q, r⟩ := st; rw [e] at q; cases q; exact ⟨o, e', r⟩) hcell hkind hx ⟨_, Heap.get?_push_size _ rfl, rfl, rfl⟩ (fun b hb => ?_)
      (F.keeps fun _ _ e => Heap.get?_push_of_some _ e) (N.grown fun _ _ e => Heap.get?_push_of_some _ e) (Nat.ne_of_lt F.ns.lt) (next_is_new F) (fun p hp => Nat.ne_of_lt (Heap.lt_size (N p hp).1)) trivial (R _) ?_
    · rw [List.mem_singleton.mp hb]
      show s₁.heap.objs.size < (s₁.heap.push _).objs.size
      rw [Heap.size_push]; exact Nat.lt_succ_self _
    · intro D C h tk m' ys news' F' N' o1 hn hC₀ hD₀ hCL hDL hCD offC fin
      refine ⟨m', hn, fun h'' hs'' => fin D h'' tk (F'.change hs'' hCL hC₀) (fun p hp => ?_) o1⟩
      refine ⟨hs''.extBut _ _ ?_ (N' p hp).1, (N' p hp).2⟩
      rcases List.mem_cons.mp hp with rfl | hp
      · exact Ne.symm hCD
      · exact offC p hp
  · refine wpAny_pyIter_ascii ha ?_
    refine block_U (Walks.strAscii hh s₁.heap.objs.size y t) hsz (fun i h st => by obtain ⟨o, e, _⟩ := st; exact ⟨o, e⟩) (fun i h h' o nw st e e' _ _ _ => by obtain ⟨o', q, r⟩ := st; rw [e] at q; cases q; exact ⟨o, e', r⟩) hcell hkind hx ⟨_, Heap.get?_push_size _ rfl, rfl, rfl⟩ (fun b hb => ?_)
      (F.keeps fun _ _ e => Heap.get?_push_of_some _ e) (N.grown fun _ _ e => Heap.get?_push_of_some _ e) (Nat.ne_of_lt F.ns.lt) (next_is_new F) (fun p hp => Nat.ne_of_lt (Heap.lt_size (N p hp).1)) trivial (R _) ?_
    · rw [List.mem_singleton.mp hb]
      show s₁.heap.objs.size < (s₁.heap.push _).objs.size
      rw [Heap.size_push]; exact Nat.lt_succ_self _
    · intro D C h tk m' ys news' F' N' o1 hn hC₀ hD₀ hCL hDL hCD offC fin
      refine ⟨m', hn, fun h'' hs'' => fin D h'' tk (F'.change hs'' hCL hC₀) (fun p hp => ?_) o1⟩
      refine ⟨hs''.extBut _ _ ?_ (N' p hp).1, (N' p hp).2⟩
      rcases List.mem_cons.mp hp with rfl | hp
      · exact Ne.symm hCD
      · exact offC p hp
end
end
noncomputable section
set_option maxRecDepth 100000
set_option linter.unusedVariables false
section
variable {prog : Program} {w : World} {A : Around} {E : Value → Shared → Prop} {s : Shared} {h₀ : Heap} {L D : Addr} {m : Str → Option Value} {news : Led} {vs : List Value} {n : Nat}
theorem item_at {x : Str} {j : Nat} (hj : j < x.cps.size) : Txt.item x (j : Int) = ⟨#[x.cps.getD j 0]⟩ := by
  unfold Txt.item Txt.charAt
  have : seqIndex? (j : Int) x.length = some j := by
    unfold seqIndex?
    have : x.length = x.cps.size := rfl
    rw [this]
    simp
    omega
  rw [this]
  simp [Array.getD, hj]
theorem my_stritem {x : Str} {t ti : Tok} {j : Nat} {value slice : Expr} {Q : Value → Shared → Prop} (hj : j < x.cps.size) (hz : x.cps.size ≤ 1000)
    (h : Q (.str ⟨#[x.cps.getD j 0]⟩ s.toks) { s with toks := s.toks + 1 })
    (hs : subscripted slice false (.str x t) (.int (j : Int) ti) = operate [.str x t, .int (j : Int) ti] (getItem (.str x t) (.int (j : Int) ti)) := by with_unfolding_all rfl)
    (ht : ∀ r, letTemporaryGo value (.str x t) r = pure () := by intro _; with_unfolding_all rfl) : wpAny (model prog w) A (subscriptTail value slice (.str x t) (.int (j : Int) ti)) Q E s := by
  refine KXi.item (n := x.cps.size) rfl (by omega) (by omega) (by omega) (fun _ => ?_) hs ht
  rw [item_at hj]; exact h
theorem my_stradd {x y : Str} {t u : Tok} {Q : Value → Shared → Prop} (hsz : x.length + y.length ≤ 100000) (h : ∀ t' k, Q (.str (x ++ y) t') { s with toks := k }) : wpAny (model prog w) A (binaryOp .Add (.str x t) (.str y u)) Q E s :=
  SBL.add (fun t' k _ => h t' k) (by rw [sizeLine_eq]; omega)
theorem my_join {x : Str} {t : Tok} {ys : List Str} {Q : Value → Shared → Prop} (N : News h₀ L s.heap news) (hm : (D, listOf vs.toArray n) ∈ news) (hi : StrsAre vs ys) (hx : x.length ≤ 16) (hw : (ys.map (·.length)).sum + ys.length ≤ 1048576)
    (h : ∀ t' k, Q (.str (Txt.join x ys) t') { s with toks := k }) : wpAny (model prog w) A (call (.builtin "str.join") [.str x t, .ref D]) Q E s :=
  join_listW (PySem.IsL.isList (n := n) (N _ hm).1) (by simpa using hi) hx hw h
theorem strsAre_snoc {vs : List Value} {ys : List Str} (h : StrsAre vs ys) (y : Str) (t : Tok) : StrsAre (vs ++ [.str y t]) (ys ++ [y]) := h.append' (.cons y t .nil)
end
end
noncomputable section
set_option maxRecDepth 100000
set_option linter.unusedVariables false
theorem join_flat : ∀ (l : List Str), (Txt.join (Str.ofString "") l).cps.toList = l.flatMap fun y => y.cps.toList := by
  intro l
  show (Builtin.Str.glued (Str.ofString "") l).cps.toList = _
  rw [Builtin.Str.glued]
  cases l with
  | nil => rfl
  | cons a r =>
    show (r.foldl (fun acc p => acc ++ (Str.ofString "").cps ++ p.cps) a.cps).toList = _
    have key : ∀ (r : List Str) (acc : Array Nat), (r.foldl (fun acc p => acc ++ (Str.ofString "").cps ++ p.cps) acc).toList = acc.toList ++ r.flatMap fun y => y.cps.toList := by
      intro r
      induction r with
      | nil => intro acc; simp
      | cons p r ih =>
        intro acc
        rw [List.foldl_cons, ih]
        have : (Str.ofString "").cps = #[] := by decide +kernel
        rw [this]
        simp
    rw [key]
    simp
noncomputable def DG : Str := Str.ofString "0123456789ABCDEF"
noncomputable def figC (d : Nat) : Nat := DG.cps.getD d 0
noncomputable def figS (o : Nat) : Str := ⟨#[DG.cps.getD (o / 16) 0]⟩ ++ ⟨#[DG.cps.getD (o % 16) 0]⟩
noncomputable def figL (l : List UInt8) : List Nat := l.flatMap fun c => [figC (c.toNat / 16), figC (c.toNat % 16)]
noncomputable def figB (l : List UInt8) : List UInt8 := (figL l).map Nat.toUInt8
theorem figC_lt (d : Nat) : figC d < 128 := by
  by_cases h : d < 16
  · exact (by decide +kernel : ∀ d, d < 16 → figC d < 128) d h
  · have hs : DG.cps.size = 16 := by decide +kernel
    unfold figC
    rw [Array.getD, dif_neg (by omega)]
    decide
theorem figS_cps (o : Nat) : (figS o).cps.toList = [figC (o / 16), figC (o % 16)] := rfl
theorem fig_join (l : List UInt8) : (Txt.join (Str.ofString "") (l.map fun c => figS c.toNat)).cps.toList = figL l := by
  rw [join_flat, List.flatMap_map]
  rfl
theorem figL_len : ∀ l : List UInt8, (figL l).length = 2 * l.length
  | [] => rfl
  | c :: l => by
    have := figL_len l
    unfold figL at *
    simp only [List.flatMap_cons, List.length_append, List.length_cons, List.length_nil]
    omega
theorem figL_lt (l : List UInt8) : ∀ c ∈ figL l, c < 128 := fun c hc => by
  obtain ⟨x, _, hx⟩ := List.mem_flatMap.mp hc
  simp only [List.mem_cons, List.not_mem_nil, or_false] at hx
  rcases hx with rfl | rfl <;> exact figC_lt _
theorem figS_sum : ∀ l : List UInt8, ((l.map fun c => figS c.toNat).map (·.length)).sum = 2 * l.length
  | [] => rfl
  | c :: l => by
    have := figS_sum l
    simp only [List.map_cons, List.sum_cons, List.length_cons]
    have h2 : (figS c.toNat).length = 2 := rfl
    omega
theorem fig_bytes (l : List UInt8) : (Txt.join (Str.ofString "") (l.map fun c => figS c.toNat)).cps.map Nat.toUInt8 = (figB l).toArray := by
  apply Array.toList_inj.mp
  rw [Array.toList_map, fig_join]
  simp [figB]
end
noncomputable section
set_option maxRecDepth 100000
set_option linter.unusedVariables false
open Builtin Builtin._codecs
section
variable {prog : Program} {w : World} {A : Around} {E : Value → Shared → Prop} {s : Shared}
theorem run_ascii {id : String} {b : Array UInt8} {Q : Array Nat × Nat → Shared → Prop} (ha : ∀ c ∈ b.toList, c.toNat < 128) (hz : b.size ≤ 100) (h : Q (b.map (·.toNat), b.size) s) : wpAny (model prog w) A (runDecoder id asciiDecoder none true b 0 []) Q E s := by
  unfold runDecoder
  dsimp only
  refine wpAny_bind ?_
  rw [Std.Legacy.Range.forIn_eq_forIn_range']
  refine wpAny_forIn_list _ (fun rest r s' => s' = s ∧ r.2.1 = (b.extract 0 r.1).map (·.toNat) ∧ r.1 + rest.length = b.size) _ ?_ ?_ _ _ ⟨rfl, by simp, by simp [Std.Legacy.Range.size]⟩
  · rintro k rest ⟨p, out, st⟩ s' ⟨es, ho, hl⟩
    subst es
    replace ho : out = (b.extract 0 p).map (·.toNat) := ho
    replace hl : p + (rest.length + 1) = b.size := hl
    have hp : p < b.size := by omega
    subst ho
    have hg : b.getD p 0 = b[p] := by simp [Array.getD, hp]
    have hc : (b[p]).toNat < 128 := ha _ (by simp)
    have hf : asciiDecoder.find true b p = .text [(b[p]).toNat] (p + 1) := by
      show (if (b.getD p 0).toNat < 128 then Found.char (b.getD p 0).toNat (p + 1) else .bad (p + 1) "ordinal not in range(128)" false) = _
      rw [hg, if_pos hc]; rfl
    rw [if_neg (by rw [Array.size_map, Array.size_extract, sizeLine_eq]; omega), if_neg (by omega), hf]
    refine wpAny_pure ⟨rfl, ?_, by show p + 1 + rest.length = b.size; omega⟩
    show (b.extract 0 p).map (·.toNat) ++ [(b[p]).toNat].toArray = (b.extract 0 (p + 1)).map (·.toNat)
    apply Array.toList_inj.mp
    simp
    rw [List.take_add_one]
    simp [hp]
  · rintro ⟨p, out, st⟩ s' ⟨es, ho, hl⟩
    subst es
    replace ho : out = (b.extract 0 p).map (·.toNat) := ho
    replace hl : p + 0 = b.size := hl
    have : p = b.size := by omega
    subst this
    subst ho
    refine wpAny_pure ?_
    simpa using h
end
theorem decode_tree2 {c : UInt8} {cs : List UInt8} (t u : Tok) : «bytes.decode» ⟨[.bytes (c :: cs).toArray t], [(Str.ofString "encoding", .str (Str.ofString "ascii") u)]⟩ = (mkStr (Str.ofString "utf-8") >>= fun _ => mkStr (Str.ofString "ascii") >>= fun e => mkStr (Str.ofString "bytes.decode") >>= fun d =>
    call (.builtin "_codecs.decode.text") [.bytes (c :: cs).toArray t, e, .none, d] >>= fun v => ret v) := by first | rfl | kernel_rfl
theorem road_ascii2 {id : String} {b : Array UInt8} : _codecs.decodeRoad id b (Str.ofString "ascii") none [] = (_codecs.runDecoder id _codecs.asciiDecoder none true b 0 [] >>= fun r => mkStr ⟨r.1⟩) := by first | kernel_rfl | rfl
theorem args_decode_kw (a v : Value) : argsOk "bytes.decode" ⟨[a], [(Str.ofString "encoding", v)]⟩ := by
  unfold argsOk; rw [signature?_of (id := "bytes.decode") (n := ['e', 'd', 'o', 'c', 'e', 'd']) (o := ['s', 'e', 't', 'y', 'b']) (by kernel_rfl) FB.owner_bytes]; kernel_rfl
theorem str_tree2 (b : Array UInt8) (t u : Tok) : «str.__new__» ⟨[.type "str", .bytes b t, .str (Str.ofString "ascii") u], []⟩ = (do
    if !(← isType (.type "str")) then
      rule "str.__new__.cls-no-type"; raiseError "TypeError" s!"str.__new__(X): X is not a type object ({← typeNameOf (.type "str")})"
    if !(← isSubtype (.type "str") (.type "str")) then
      rule "str.__new__.cls-no-subtype"; raiseError "TypeError" s!"str.__new__({← typeName (.type "str")}): {← typeName (.type "str")} is not a subtype of str"
    let e ← mkStr (Str.ofString "ascii")
    if ← isInstance (.bytes b t) (.type "bytes") then rule "str.__new__.decode-bytes"; ret (← call (.builtin "bytes.decode") [.bytes b t] [(Str.ofString "encoding", e)]) else unsupported "x") := by
  first | rfl | kernel_rfl
open Builtin Builtin._codecs
theorem meets_text2 {b : Array UInt8} {t t1 t2 : Tok} {d : Str} (ha : ∀ c ∈ b.toList, c.toNat < 128) (hz : b.size ≤ 100) :
    Meets («_codecs.decode.text» ⟨[.bytes b t, .str (Str.ofString "ascii") t1, .none, .str d t2], []⟩) (fun _ R s => R (.ok (.ret (.str ⟨b.map (·.toNat)⟩ s.toks))) { s with toks := s.toks + 1 }) := by
  refine .of_wp fun prog w A R s h => ?_
  show wpAny _ _ (Bytes.bytesLike _ (.bytes b t) >>= fun r => _) _ _ s
  refine wpAny_bind (wpAny_of_eq KBd.like_eq ?_)
  refine wpAny_bind (wpAny_of_eq KBd.held_eq ?_)
  show wpAny _ _ (_codecs.decodeRoad _ b (Str.ofString "ascii") none [] >>= fun v => _) _ _ s
  rw [road_ascii2]
  refine wpAny_bind (wpAny_bind (run_ascii ha hz ?_))
  exact wpAny_mkStr (wpAny_pure ⟨_, rfl, h⟩) (by rw [Str.length, Array.size_map, sizeLine_eq]; omega)
section
variable {prog : Program} {w : World} {A : Around} {E : Value → Shared → Prop} {s : Shared}
theorem call_decode_kw {c : UInt8} {cs : List UInt8} {t u : Tok} {Q : Value → Shared → Prop} (ha : ∀ x ∈ c :: cs, x.toNat < 128) (hz : (c :: cs).length ≤ 100) (h : ∀ t' k, Q (.str ⟨(c :: cs).toArray.map (·.toNat)⟩ t') { s with toks := k }) :
    wpAny (model prog w) A (call (.builtin "bytes.decode") [.bytes (c :: cs).toArray t] [(Str.ofString "encoding", .str (Str.ofString "ascii") u)]) Q E s := by
  refine wpAny_call_entry_kw FB.slot_bytes_decode (typeIs_bytes _ _ _) FB.entry_bytes_decode ?_ (args_decode_kw _ _)
  rw [decode_tree2]
  refine wpAny_bind (wpAny_mkStr ?_ (by decide))
  refine wpAny_bind (wpAny_mkStr ?_ (by decide))
  refine wpAny_bind (wpAny_mkStr ?_ (by decide))
  exact wpAny_bind (call_function_meets KBd.kind_text KBd.plain_text KBd.entry_text (KBd.args_text _ _ _ _) (meets_text2 (by simpa using ha) (by simpa using hz)) (wpAny_pure ⟨_, rfl, h _ _⟩))
end
theorem typeCall_str_2 (a b : Value) : checkTypeCall "str" ⟨[a, b], []⟩ = pure () := by kernel_rfl
theorem newCall_str_2 (a b : Value) : checkBuiltinCall "str.__new__" ⟨[.type "str", a, b], []⟩ = pure () := by kernel_rfl
theorem args_init_3 (a b c : Value) : argsOk "object.__init__" ⟨[a, b, c], []⟩ := by unfold argsOk; kernel_rfl
theorem meets_str2 {c : UInt8} {cs : List UInt8} {t u : Tok} (ha : ∀ x ∈ c :: cs, x.toNat < 128) (hz : (c :: cs).length ≤ 100) :
    Meets («str.__new__» ⟨[.type "str", .bytes (c :: cs).toArray t, .str (Str.ofString "ascii") u], []⟩) (fun _ R s => ∀ t' k, R (.ok (.ret (.str ⟨(c :: cs).toArray.map (·.toNat)⟩ t'))) { s with toks := k }) := by
  refine Meets.of_wp fun prog w A R s h => ?_
  rw [str_tree2]
  refine wpAny_bind (wpAny_pure ?_)
  refine wpAny_bind (wpAny_of_eq isSubtype_str_str ?_)
  refine wpAny_bind (wpAny_mkStr ?_ (by decide))
  refine wpAny_bind (wpAny_of_eq KBy.isInstance_eq ?_)
  refine wpAny_bind (wpAny_rule ?_)
  exact wpAny_bind (call_decode_kw ha hz fun t' k => wpAny_pure ⟨_, rfl, h t' k⟩)
section
variable {prog : Program} {w : World} {A : Around} {E : Value → Shared → Prop} {s : Shared}
theorem call_str_ascii {b : Array UInt8} {t u : Tok} {Q : Value → Shared → Prop} (h0 : 0 < b.size) (ha : ∀ x ∈ b.toList, x.toNat < 128) (hz : b.size ≤ 100) (h : ∀ t' k, Q (.str ⟨b.map (·.toNat)⟩ t') { s with toks := k }) :
    wpAny (model prog w) A (call (.type "str") [.bytes b t, .str (Str.ofString "ascii") u]) Q E s := by
  obtain ⟨l⟩ := b
  cases l with
  | nil => simp at h0
  | cons c cs =>
    exact callType_new F.called_str (by decide) (typeCall_str_2 _ _) (newCall_str_2 _ _) (fun obj => args_init_3 obj _ _) F.entry_str_new (meets_str2 ha (by simpa using hz)) fun t' k => ⟨typeIs_str _ _ _, h t' k⟩
end
end
noncomputable section
set_option maxRecDepth 100000
set_option linter.unusedVariables false
open Builtin Builtin.Str
noncomputable def SG : Str := Str.ofString "+/0123456789=ABCDEFGHIJKLMNOPQRSTUVWXYZabcdefghijklmnopqrstuvwxyz"
noncomputable def SGL : List Nat := [43, 47, 48, 49, 50, 51, 52, 53, 54, 55, 56, 57, 61, 65, 66, 67, 68, 69, 70, 71, 72, 73, 74, 75, 76, 77, 78, 79, 80, 81, 82, 83, 84, 85, 86, 87, 88, 89, 90, 97, 98, 99, 100, 101, 102, 103, 104, 105, 106, 107, 108, 109, 110, 111, 112, 113, 114, 115, 116, 117, 118, 119, 120, 121, 122]
noncomputable def plc (c : Nat) : Nat := SGL.idxOf c
theorem sg_cps : SG.cps.toList = SGL := by decide +kernel
theorem occ_full (s sub : Str) (hi : Nat) : ∀ (l : List Nat) (st : Array Nat × Nat), 1 ≤ st.fst.size → (forIn l st (StrLaws.occBody s sub hi 1)).run.fst = st.fst
  | [], st, h => rfl
  | a :: l, st, h => by
    rw [List.forIn_cons]
    unfold StrLaws.occBody
    rw [if_neg (by omega)]
    exact occ_full s sub hi l _ h
theorem occ_go (x : Str) (c j : Nat) (hj : x.cps.toList[j]? = some c) : ∀ (n lo free : Nat), free ≤ lo → lo ≤ j → j < lo + n → (∀ i, lo ≤ i → i < j → x.cps.toList[i]? ≠ some c) →
    (forIn (List.range' lo n) ((#[] : Array Nat), free) (StrLaws.occBody x ⟨#[c]⟩ x.length 1)).run.fst = #[j]
  | 0, lo, free, hf, h1, h2, hn => by omega
  | n + 1, lo, free, hf, h1, h2, hn => by
    rw [List.range'_succ, List.forIn_cons]
    unfold StrLaws.occBody
    by_cases he : lo = j
    · subst he
      have hs := (StrLaws.subAt_one x c lo).mpr hj
      rw [if_pos ⟨⟨⟨by simp, hf⟩, hs.1⟩, hs.2⟩]
      exact occ_full x ⟨#[c]⟩ x.length _ _ (by simp)
    · have hne := hn lo (Nat.le_refl _) (by omega)
      rw [if_neg (fun h => hne ((StrLaws.subAt_one x c lo).mp ⟨h.1.2, h.2⟩))]
      exact occ_go x c j hj n (lo + 1) free (by omega) (by omega) (by omega) fun i h3 h4 => hn i (by omega) h4
theorem occ_idx (x : Str) (c : Nat) (hc : c ∈ x.cps.toList) : occurrences x ⟨#[c]⟩ 0 x.length 1 = [x.cps.toList.idxOf c] := by
  rw [StrLaws.occ_eq]
  have hlt := List.idxOf_lt_length_of_mem hc
  have hlen : x.cps.toList.length = x.length := Array.length_toList
  rw [occ_go x c (x.cps.toList.idxOf c) (by rw [List.getElem?_eq_getElem hlt, List.getElem_idxOf]) (x.length + 1 - 0) 0 0 (Nat.le_refl _) (Nat.zero_le _) (by omega) (fun i _ h he => by
    have := List.not_of_lt_findIdx (p := (· == c)) (xs := x.cps.toList) (i := i) h
    rw [List.getElem?_eq_getElem (by omega)] at he
    have he' := Option.some.inj he
    simp [he'] at this)]
theorem sign_occ (c : Nat) (hc : c ∈ SGL) : occurrences SG ⟨#[c]⟩ 0 SG.length 1 = [plc c] := by
  have := occ_idx SG c (by rw [sg_cps]; exact hc)
  rw [sg_cps] at this
  exact this
section
variable {prog : Program} {w : World} {A : Around} {E : Value → Shared → Prop} {s : Shared}
theorem my_index {c : Nat} {t u : Tok} {Q : Value → Shared → Prop} (hc : c ∈ SGL) (h : ∀ t' k, Q (.int ((plc c : Nat) : Int) t') { s with toks := k }) : wpAny (model prog w) A (call (.builtin "str.index") [.str SG t, .str ⟨#[c]⟩ u]) Q E s := by
  exact SC.index (sign_occ c hc) (h _ _)
end
end
noncomputable section
set_option maxRecDepth 100000
set_option linter.unusedVariables false
section
variable {prog : Program} {w : World} {A : Around} {E : Value → Shared → Prop} {s : Shared}
theorem wpAny_extend_bytes {R : Result → Shared → Prop} (hh : A.handled = none) (b : Array UInt8) (t : Tok) (S : Addr) (res : Value) (c₀ : Nat) (hS : s.heap.get? S = some { cls := .type "list", data := .seq #[] c₀ })
    (hR : ∀ h' tk acc' c', (∀ b o, b ≠ S → s.heap.get? b = some o → h'.get? b = some o) → h'.get? S = some { cls := .type "list", dict := none, data := .seq acc' c', slots := #[] } →
      ItemsOf (ByteAt b) acc' b.size → R (.ok (.ret res)) { s with heap := h', toks := tk }) (hn : b.size ≤ sizeLine) :
    wpAny (model prog w) A.in1 (Builtin.List.listExtendWith (.ref S) (.bytes b t) res)
      (fun fin s' => match fin with | .done f => R (.ok f) s' | .again c' => c'.quiet = true ∧ codeAny (model prog w) A c' R s') (fun e s' => R (.error e) s') s := by
  have hSI : S ≠ s.heap.objs.size := Nat.ne_of_lt (Heap.lt_size hS)
  have hSf : S ∉ [s.heap.objs.size] := fun hm => hSI (List.mem_singleton.mp hm)
  unfold Builtin.List.listExtendWith
  refine wpAny_bind (wpAny_typeOf (T := "bytes") (v := .bytes b t) rfl ?_)
  have h1 : Builtin.List.listSameRef (.ref S) (.bytes b t) = false := rfl
  have h2 : (Value.type "bytes" == Value.type "list") = false := by decide
  have h3 : (Value.type "bytes" == Value.type "tuple") = false := by decide
  simp only [h1, h2, h3, Bool.or_false, Bool.false_eq_true, if_false]
  refine wpAny_bind (KBw.pyIter_bytes ?_)
  refine wpAny_bind (wpAny_holding ?_)
  unfold Builtin.List.listLengthHint
  refine wpAny_bind (wpAny_specialOf (T := "bytes") (v := .bytes b t) rfl FB.slot_bytes_len.lookup ?_)
  dsimp only
  rw [show splitId "bytes.__len__" = some ("bytes", "__len__") from by decide +kernel]
  dsimp only
  refine wpAny_bind (wpAny_isInstance (T := "bytes") (v := .bytes b t) (b := true) rfl (by rw [isSubtype_type]; kernel_rfl) ?_)
  refine wpAny_ite_split (fun hab => absurd hab (by decide)) (fun _ => ?_)
  refine wpAny_ite_split (fun _ => ?_) (fun hab => absurd (by decide +kernel) hab)
  refine wpAny_bind (wpAny_typeOf (T := "bytes") (v := .bytes b t) rfl ?_)
  refine wpAny_pure ?_
  rw [if_neg (by decide)]
  refine wpAny_pure ⟨plainId_quiet F.plain_extend_loop _, codeAny_extend_loopS (KBw.walks (prog := prog) (w := w) (A := A.in1) hh s.heap.objs.size b t).toS hn _ hSf _ b.size 0 _ _ _ rfl (Nat.zero_le _) ⟨_, Heap.get?_push_size _ rfl, rfl, rfl⟩ (Heap.get?_push_of_some _ hS) (ItemsOf.nil _) fun s' acc' c' hm hS' hacc => ?_⟩
  rw [Moved.eq_with hm]
  refine hR s'.heap s'.toks acc' c' (fun b ob hb e => hm.heap b ob (fun hmem => ?_) (Heap.get?_push_of_some _ e)) hS' hacc
  rcases List.mem_cons.mp hmem with e' | hmem
  · exact hb e'
  · exact absurd (Heap.lt_size e) (by rw [List.mem_singleton.mp hmem]; exact Nat.lt_irrefl _)
theorem wpAny_init_bytes {R : Result → Shared → Prop} (hh : A.handled = none) (b : Array UInt8) (t : Tok) (S : Addr) (hS : s.heap.get? S = some { cls := .type "list", data := .seq #[] })
    (hR : ∀ h' tk acc' c', (∀ b o, b ≠ S → s.heap.get? b = some o → h'.get? b = some o) → h'.get? S = some { cls := .type "list", dict := none, data := .seq acc' c', slots := #[] } →
      ItemsOf (ByteAt b) acc' b.size → R (.ok (.ret .none)) { s with heap := h', toks := tk }) (hn : b.size ≤ sizeLine) :
    wpAny (model prog w) A.in1 (Builtin.«list.__init__» ⟨[.ref S, .bytes b t], []⟩)
      (fun fin s' => match fin with | .done f => R (.ok f) s' | .again c' => c'.quiet = true ∧ codeAny (model prog w) A c' R s') (fun e s' => R (.error e) s') s := by
  show wpAny _ _ (do let old ← Builtin.List.listItems (.ref S); Builtin.List.listUpdate (.ref S) (fun _ => #[]); letGo old.toList.reverse; Builtin.List.listExtendWith (.ref S) (.bytes b t) .none) _ _ s
  refine wpAny_bind ?_
  unfold Builtin.List.listItems
  refine wpAny_bind (wpAny_seqItems hS rfl (wpAny_pure ?_))
  show wpAny _ _ (updateSeq S (fun _ => #[]) >>= fun _ => letGo (#[] : Array Value).toList.reverse >>= fun _ => Builtin.List.listExtendWith (.ref S) (.bytes b t) .none) _ _ s
  refine wpAny_bind (wpAny_updateSeq hS rfl ?_)
  have hS₂ := Heap.get?_update_self (Obj.mapSeq (fun _ => (#[] : Array Value))) hS rfl
  have oth : ∀ b o, b ≠ S → s.heap.get? b = some o → (s.heap.update S (Obj.mapSeq (fun _ => (#[] : Array Value)))).get? b = some o :=
    fun b o hb e => (Heap.get?_update_other _ _ (Ne.symm hb)).trans e
  refine wpAny_bind (wpAny_letGo ?_)
  refine wpAny_extend_bytes (hn := hn) hh b t S .none _ hS₂ fun h' tk acc' c' hk hS' hacc => ?_
  exact hR h' tk acc' c' (fun b o hb e => hk b o hb (oth b o hb e)) hS' hacc
theorem call_list_bytes {Q : Value → Shared → Prop} (hh : A.handled = none) (b : Array UInt8) (t : Tok)
    (hQ : ∀ h' tk acc' c', (∀ b o, s.heap.get? b = some o → h'.get? b = some o) →
      h'.get? s.heap.objs.size = some { cls := .type "list", dict := none, data := .seq acc' c', slots := #[] } → ItemsOf (ByteAt b) acc' b.size → Q (.ref s.heap.objs.size) { s with heap := h', toks := tk }) (hn : b.size ≤ sizeLine) :
    wpAny (model prog w) A (call (.type "list") [.bytes b t]) Q E s := by
  refine callType_codes (Q₁ := fun obj s₁ => obj = .ref s.heap.objs.size ∧ s₁ = { s with heap := s.heap.push { cls := .type "list", data := .seq #[] } }) F.called_list (F.typeCall_list_1 _) F.entry_list_init
    (code_list_new _ ⟨rfl, rfl⟩) fun obj s₁ h₁ => ?_
  obtain ⟨rfl, rfl⟩ := h₁
  have hS : (s.heap.push { cls := .type "list", data := .seq #[] }).get? s.heap.objs.size = some { cls := .type "list", data := .seq #[] } := Heap.get?_push_size _ rfl
  refine ⟨⟨_, hS, rfl⟩, F.args_list_init_2 _ _, wpAny_init_bytes (A := A.in1) (hn := hn) hh b t _ hS fun h' tk acc' c' hk hS' hacc => ?_⟩
  exact ⟨rfl, hQ h' tk acc' c' (fun b o e => hk b o (Nat.ne_of_lt (Heap.lt_size e)) (Heap.get?_push_of_some _ e)) hS' hacc⟩
theorem intsAre_bytes {vs : List Value} {l : List UInt8} (hl : vs.length = l.length) (h : ∀ (i : Nat) (v : Value), vs[i]? = some v → ∃ c u, l[i]? = some c ∧ v = Value.int (c.toNat : Int) u) : IntsAre vs (l.map fun c => ((c.toNat : Nat) : Int)) := by
  induction vs generalizing l with
  | nil =>
    cases l with
    | nil => exact .nil
    | cons c l => simp at hl
  | cons v vs ih =>
    cases l with
    | nil => simp at hl
    | cons c l =>
      obtain ⟨c', u, hc, rfl⟩ := h 0 v (by simp)
      have : c = c' := by simpa using hc
      subst this
      exact .cons _ u (ih (by simpa using hl) fun i v hv => by simpa using h (i + 1) v (by simpa using hv))
theorem my_listB {h₀ : Heap} {L : Addr} {m : Str → Option Value} {news : Led} {b : Array UInt8} {t : Tok} {Q : Value → Shared → Prop} (hh : A.handled = none) (F : Fr h₀ L s.heap m) (N : News h₀ L s.heap news) (hn : b.size ≤ 1000)
    (h : ∀ D h' tk vs n, (∀ p ∈ news, p.1 < D) → IntsAre vs (b.toList.map fun c => ((c.toNat : Nat) : Int)) → Fr h₀ L h' m → News h₀ L h' ((D, listOf vs.toArray n) :: news) → Q (.ref D) { s with heap := h', toks := tk }) :
    wpAny (model prog w) A (call (.type "list") [.bytes b t]) Q E s := by
  refine call_list_bytes hh b t (fun h' tk acc' c' hk hS' hacc => ?_) (by rw [sizeLine_eq]; omega)
  refine h s.heap.objs.size h' tk acc'.toList c' (fun p hp => Heap.lt_size (N p hp).1) (intsAre_bytes (by rw [Array.length_toList, Array.length_toList, hacc.1]) fun i v hv => ?_) (F.keeps hk) fun p hp => ?_
  · obtain ⟨c, u, hc, e⟩ := hacc.2 i v (by simpa using hv)
    exact ⟨c, u, by simpa using hc, e⟩
  · rcases List.mem_cons.mp hp with rfl | hp
    · refine ⟨by simpa [W.listOf] using hS', Nat.ne_of_gt F.ns.lt, ?_⟩
      cases e : h₀.get? s.heap.objs.size with
      | none => rfl
      | some o => exact absurd (Heap.lt_size (F.keep _ _ e)) (Nat.lt_irrefl _)
    · exact ⟨hk _ _ (N p hp).1, (N p hp).2⟩
end
open LCg
/-- a comprehension over a range of any step -/
noncomputable def SrcG (prog : Program) (w : World) (A : Around) (h₀ : Heap) (L : Addr) (m : Str → Option Value) (env : Env) (elt : Expr) (x : Str) (scope : Scope) (cl : List (Str × Addr)) (Fin : Shared → List Value → Led → Prop) (xv : Value) (s₁ : Shared) : Prop :=
  A.handled = none ∧ ∃ news, Fr h₀ L s₁.heap m ∧ News h₀ L s₁.heap news ∧
   ∃ r a b c t u v n, xv = .ref r ∧ IsRange s₁.heap r a b c t u v ∧ Builtin.Range.small a b c = true ∧ Builtin.Range.rangeSize a b c = ((n : Nat) : Int) ∧ n ≤ sizeLine ∧
     ∀ g, CompRest prog w A h₀ L m env elt x scope cl { s₁ with heap := g } (fun _ => True) (fun i v => ∃ t, v = .int (a + (i : Int) * c) t) (Fin { s₁ with heap := g }) n 0 [] news
section
variable {prog : Program} {w : World} {A : Around} {E : Value → Shared → Prop} {s : Shared} {h₀ : Heap} {L : Addr} {m : Str → Option Value} {env : Env}
theorem ListComp_G {elt iter : Expr} {x : Str} {px : Pos} {scope : Scope} {cl : List (Str × Addr)} {pos : Pos} {Q : Value → Shared → Prop} (F₀ : Fr h₀ L s.heap m)
    (hclos : closureFor scope env = pure cl) (hcell : ∀ y ∈ scope.names, y.2 ≠ .cell) (hkind : scope.kind = .function)
    (hnames : ∀ y ∈ scope.names, y.2 = .local → scope.names.lookup y.1 = some .local) (hx : scope.names.lookup x = some .local)
    (h : wpAny (model prog w) A (eval iter env) (SrcG prog w A h₀ L m env elt x scope cl (fun s₂ => FinE h₀ L m s₂ Q)) E s)
    (hs : ∀ x, foldedSetIterable iter env x = pure x := by intro _; rfl) :
    wpAny (model prog w) A (eval (.ListComp elt [⟨.Name x px, iter, [], 0⟩] scope pos) env) Q E s := by
  rw [eval_ListComp]
  refine wpAny_comprehension_free (use := none) rfl hs hclos hkind hnames (wpAny_mono h (fun xv s₁ h₁ => ?_) fun _ _ e => e)
  obtain ⟨hh, news, F, N, r, a, b, c, t, u, v, n, rfl, hr, hsm, hn, hsz, R⟩ := h₁
  refine wpAny_pyIter_range hr hsm ?_
  refine block_U (Walks.range hh s₁.heap.objs.size a c n) hsz (fun i h st => ⟨_, st⟩) (fun i h h' o nw st e e' _ _ _ => by
      have st' : h.get? s₁.heap.objs.size = some _ := st
      show h'.get? s₁.heap.objs.size = some _
      rw [e', ← e]; exact st') hcell hkind hx (by show IsRangeIter _ _ _ _ _; rw [hn]; simpa using Heap.get?_push_size _ rfl) (fun b hb => ?_)
      (F.keeps fun _ _ e => Heap.get?_push_of_some _ e) (N.grown fun _ _ e => Heap.get?_push_of_some _ e) (Nat.ne_of_lt F.ns.lt) (next_is_new F) (fun p hp => Nat.ne_of_lt (Heap.lt_size (N p hp).1)) trivial (R _) ?_
  · rw [List.mem_singleton.mp hb]
    show s₁.heap.objs.size < (s₁.heap.push _).objs.size
    rw [Heap.size_push]; exact Nat.lt_succ_self _
  · intro D C h tk m' ys news' F' N' o1 hn hC₀ hD₀ hCL hDL hCD offC fin
    refine ⟨m', hn, fun h'' hs'' => fin D h'' tk (F'.change hs'' hCL hC₀) (fun p hp => ?_) o1⟩
    refine ⟨hs''.extBut _ _ ?_ (N' p hp).1, (N' p hp).2⟩
    rcases List.mem_cons.mp hp with rfl | hp
    · exact Ne.symm hCD
    · exact offC p hp
end
end
noncomputable section
set_option maxRecDepth 100000
set_option linter.unusedVariables false
open LCg LCp
section
variable {prog : Program} {w : World} {A : Around} {E : Value → Shared → Prop} {s : Shared} {h₀ : Heap} {L D : Addr} {m : Str → Option Value} {env : Env} {news : Led} {vs : List Value} {n : Nat}
theorem comp_const {elt : Expr} {x : Str} {scope : Scope} {cl : List (Str × Addr)} {S : Led → Prop} {P : Nat → Value → Prop} {Fin : List Value → Led → Prop} {n : Nat} (I : Nat → List Value → Prop)
    (h0 : I 0 []) (hz : ∀ ys, I n ys → Fin ys news)
    (hs : ∀ i ys, i < n → I i ys → ∀ v Ia oI C oC D m₂ h tk (E' : Value → Shared → Prop), P i v → NsObj oC m₂ → m₂ x = some v → Fr h₀ L h m → News h₀ L h ((Ia, oI) :: (C, oC) :: (D, lst ys) :: news) → Off3 Ia C D news → ((@Ne Nat Ia C) ∧ (@Ne Nat Ia D) ∧ (@Ne Nat C D)) →
      wpAny (model prog w) A (eval elt (compEnvC scope cl C env)) (CompEnd h₀ L m { s with heap := h, toks := tk } Ia oI C oC D (lst ys) S (fun y nw' => I (i + 1) (ys ++ [y]) ∧ nw' = news)) E' { s with heap := h, toks := tk }) :
    CompRest prog w A h₀ L m env elt x scope cl s S P Fin n 0 [] news := by
  refine comp_ind (fun i ys nw => I i ys ∧ nw = news) ⟨h0, rfl⟩ (fun ys nw hI => by obtain ⟨hI, rfl⟩ := hI; exact hz ys hI) ?_
  rintro i ys nw hi ⟨hI, rfl⟩ v Ia oI C oC D m₂ h tk E' hP hC hx F N off ne
  exact hs i ys hi hI v Ia oI C oC D m₂ h tk E' hP hC hx F N off ne
theorem my_subInt {k : Int} {t : Tok} {ns : List Int} {j : Nat} {value slice : Expr} {Q : Value → Shared → Prop} (N : News h₀ L s.heap news) (hm : (D, listOf vs.toArray n) ∈ news) (hi : IntsAre vs ns) (hk : k = (j : Int)) (hj : j < ns.length) (hz : ns.length < 2 ^ 60) (h : ∀ u, Q (.int (ns.getD j 0) u) s)
    (hs : subscripted slice false (.ref D) (.int k t) = operate [.ref D, .int k t] (getItem (.ref D) (.int k t)) := by with_unfolding_all rfl) (hg : ∀ r, letTemporaryGo value (.ref D) r = pure () := by intro _; with_unfolding_all rfl) :
    wpAny (model prog w) A (subscriptTail value slice (.ref D) (.int k t)) Q E s := by
  subst hk
  have hl := hi.length
  obtain ⟨u, e⟩ := hi.get j (ns.getD j 0) (by rw [List.getElem?_eq_getElem hj, List.getD_eq_getElem?_getD, List.getElem?_eq_getElem hj]; rfl)
  refine my_sub N hm (by omega) (by omega) (by omega) ?_ hs hg
  rw [Int.toNat_natCast, List.getD_eq_getElem?_getD, e]
  exact h u
theorem my_mulNat {a b : Nat} {x : Int} {t u : Tok} {Q : Value → Shared → Prop} (hx : x = (b : Int)) (ha : a < 2 ^ 40) (hb : b < 2 ^ 40) (h : ∀ t', Q (.int ((a * b : Nat) : Int) t') { s with toks := s.toks + 1 }) : wpAny (model prog w) A (binaryOp .Mult (.int (a : Int) t) (.int x u)) Q E s := by
  subst hx
  refine PyProof.Rows.mul_int ?_ ?_
  · have : (a : Int) * (b : Int) = ((a * b : Nat) : Int) := by push_cast; rfl
    rw [this]; exact h _
  · refine IntMulOk.of_right (KTBy.bits_le (k := 8) (B := 18446744073709551616) (by decide) (by omega) (by omega))
end
theorem range_snoc {vs : List Value} {f : Nat → Nat} {i : Nat} {t : Tok} (h : IntsAre vs ((List.range i).map fun j => ((f j : Nat) : Int))) : IntsAre (vs ++ [.int ((f i : Nat) : Int) t]) ((List.range (i + 1)).map fun j => ((f j : Nat) : Int)) := by
  rw [List.range_succ, List.map_append]
  exact intsAre_snoc h _ _
theorem rangeS_snoc {vs : List Value} {f : Nat → Nat} {i : Nat} {t : Tok} (h : StrsAre vs ((List.range i).map fun j => (⟨#[f j]⟩ : Str))) : StrsAre (vs ++ [.str ⟨#[f i]⟩ t]) ((List.range (i + 1)).map fun j => (⟨#[f j]⟩ : Str)) := by
  rw [List.range_succ, List.map_append]
  exact strsAre_snoc h _ _
theorem cast_sum (f : Nat → Nat) : ∀ l : List Nat, (l.map fun j => ((f j : Nat) : Int)).sum = (((l.map f).sum : Nat) : Int)
  | [] => rfl
  | a :: l => by
    rw [List.map_cons, List.sum_cons, cast_sum f l, List.map_cons, List.sum_cons]
    push_cast; rfl
theorem ones_sum (f : Nat → Nat) : ∀ l : List Nat, ((l.map fun j => (⟨#[f j]⟩ : Str)).map (·.length)).sum = l.length
  | [] => rfl
  | a :: l => by
    have := ones_sum f l
    simp only [List.map_cons, List.sum_cons, List.length_cons]
    have h1 : (⟨#[f a]⟩ : Str).length = 1 := rfl
    omega
theorem ones_join (f : Nat → Nat) (l : List Nat) : (Txt.join (Str.ofString "") (l.map fun j => (⟨#[f j]⟩ : Str))).cps.toList = l.map f := by
  rw [join_flat, List.flatMap_map]
  induction l with
  | nil => rfl
  | cons a l ih => rw [List.flatMap_cons, ih]; rfl
theorem str_len (x : Str) : x.length = x.cps.toList.length := by rw [Array.length_toList]; rfl
noncomputable def LT : Str := Str.ofString "ABCDEFGHIJKLMNOPQRSTUVWXYZabcdefghijklmnopqrstuvwxyz0123456789+/"
theorem lt_size : LT.cps.size = 64 := by decide +kernel
noncomputable def numOf (l : List UInt8) : Nat := ((List.range l.length).map fun j => (l.getD j 0).toNat * 256 ^ (2 - j)).sum
noncomputable def lawL (l : List UInt8) : List Nat := ((List.range (l.length + 1)).map fun j => LT.cps.getD (numOf l / 64 ^ (3 - j) % 64) 0) ++ List.replicate (3 - l.length) 61
theorem mul_eq (k : Nat) (hk : k ≤ 3) (h1 : 1 ≤ k) : (Txt.mul (Str.ofString "=") (3 - (k : Int))).cps.toList = List.replicate (3 - k) 61 := by
  obtain rfl | rfl | rfl : k = 1 ∨ k = 2 ∨ k = 3 := by omega
  all_goals decide +kernel
theorem small_dn3 : ∀ k : Nat, k < 4 → Builtin.Range.small 3 (2 - (k : Int)) (-1) = true ∧ Builtin.Range.rangeSize 3 (2 - (k : Int)) (-1) = ((k + 1 : Nat) : Int) := by decide +kernel
theorem small_3 : ∀ k : Nat, k < 4 → 1 ≤ k → Builtin.Range.small 0 (k : Int) 3 = true ∧ Builtin.Range.rangeSize 0 (k : Int) 3 = ((1 : Nat) : Int) := by decide +kernel
theorem bInts_inj {p b : Array UInt8} (h : KBw.bInts p = KBw.bInts b) : p = b := by
  apply Array.toList_inj.mp
  have key : ∀ q : Array UInt8, (KBw.bInts q).map (fun n : Int => UInt8.ofNat n.toNat) = q.toList := fun q => by
    unfold KBw.bInts
    rw [List.map_map]
    have : ((fun n : Int => UInt8.ofNat n.toNat) ∘ fun c : UInt8 => (c.toNat : Int)) = id := by
      funext c
      simp
    rw [this, List.map_id]
  rw [← key p, ← key b, h]
end
noncomputable section
set_option maxRecDepth 100000
set_option linter.unusedVariables false
open MeetsSeq MeetsSeq2 MeetsSeq3 SeqRoads2 AutoSeq1
noncomputable def ile : List Int → List Int → Bool
  | [], _ => true
  | _ :: _, [] => false
  | x :: a, y :: b => if x = y then ile a b else decide (x ≤ y)
theorem le_loop (l b : Addr) (vs us : List Value) (xs ys : List Int) (n n2 : Nat) (hv : IntsAre vs xs) (hu : IntsAre us ys) (k : Nat) :
    ∀ i : Nat, xs.length - i = k → i ≤ xs.length → i ≤ ys.length → Meets (Builtin.«list.__eq__.loop» ⟨[.ref l, .ref b, rawInt i, rawInt 1], []⟩)
      (fun A R s => s.heap.get? l = some (W.listOf vs.toArray n) ∧ s.heap.get? b = some (W.listOf us.toArray n2) ∧ R (.ok (.ret (.bool (ile (xs.drop i) (ys.drop i))))) s) := by
  have hvl := hv.length
  have hul := hu.length
  induction k with
  | zero =>
    intro i hk hi hj prog w A R s h
    obtain ⟨hp, g, d, tk, os⟩ := s; obtain ⟨hl, hb, h⟩ := h
    have hl' : hp.get? l = some { cls := .type "list", data := .seq vs.toArray n } := hl
    have hb' : hp.get? b = some { cls := .type "list", data := .seq us.toArray n2 } := hb
    wp_walk using wpAny_loadPart' hl', wpAny_loadPart' hb'
    have hi1 : vs.toArray[((i : Nat) : Int).toNat]? = none := by simp; omega
    have hd : xs.drop i = [] := by simp; omega
    rw [hd] at h
    rw [hi1]
    wp_walk using wpAny_loadPart' hl', wpAny_loadPart' hb'
    show R (.ok (.ret (.bool (decide (vs.toArray.size ≤ us.toArray.size))))) _
    rw [decide_eq_true (by simp; omega)]
    exact h
  | succ k ih =>
    intro i hk hi hj prog w A R s h
    obtain ⟨hp, g, d, tk, os⟩ := s; obtain ⟨hl, hb, h⟩ := h
    have hl' : hp.get? l = some { cls := .type "list", data := .seq vs.toArray n } := hl
    have hb' : hp.get? b = some { cls := .type "list", data := .seq us.toArray n2 } := hb
    wp_walk using wpAny_loadPart' hl', wpAny_loadPart' hb'
    have hlt : i < xs.length := by omega
    obtain ⟨t1, e1⟩ := hv.get i _ (List.getElem?_eq_getElem hlt)
    have hi1 : vs.toArray[((i : Nat) : Int).toNat]? = some (.int xs[i] t1) := by simpa using e1
    have hc : ((i : Int) + 1) = ((i + 1 : Nat) : Int) := by push_cast; rfl
    have hdx : xs.drop i = xs[i] :: xs.drop (i + 1) := List.drop_eq_getElem_cons hlt
    rw [hdx] at h
    rw [hi1]
    by_cases hly : i < ys.length
    · obtain ⟨t2, e2⟩ := hu.get i _ (List.getElem?_eq_getElem hly)
      have hi2 : us.toArray[((i : Nat) : Int).toNat]? = some (.int ys[i] t2) := by simpa using e2
      rw [List.drop_eq_getElem_cons hly, ile] at h
      rw [hi2]
      refine wpAny_bind (wpAny_eqBool_int ?_)
      by_cases he : xs[i] = ys[i]
      · rw [if_pos he] at h
        rw [show (xs[i] == ys[i]) = true by simpa using he]
        wp_walk
        rw [hc]
        exact ⟨plainId_quiet plain_eq_loop _, codeAny_builtin entry_eq_loop (by
          rw [Around.under_plainId plain_eq_loop _]
          exact ih (i + 1) (by omega) (by omega) (by omega) prog w A R _ ⟨hl, hb, h⟩)⟩
      · rw [if_neg he] at h
        rw [show (xs[i] == ys[i]) = false by simpa using he]
        wp_walk using wpAny_loadPart' hl', wpAny_loadPart' hb'
        rw [hi1, hi2]
        refine wpAny_bind ?_
        show wpAny _ _ (compareOp .LtE (.int xs[i] t1) (.int ys[i] t2)) _ _ _
        exact PyProof.Rows.le_int (wpAny_pure h)
    · have hi2 : us.toArray[((i : Nat) : Int).toNat]? = none := by simp; omega
      have hdy : ys.drop i = [] := by simp; omega
      rw [hdy, ile] at h
      rw [hi2]
      wp_walk using wpAny_loadPart' hl', wpAny_loadPart' hb'
      show R (.ok (.ret (.bool (decide (vs.toArray.size ≤ us.toArray.size))))) _
      rw [decide_eq_false (by simp; omega)]
      exact h
theorem list_leAt (l b : Addr) (vs us : List Value) (xs ys : List Int) (n n2 : Nat) (hv : IntsAre vs xs) (hu : IntsAre us ys) :
    Meets (Builtin.«list.__le__» ⟨[.ref l, .ref b], []⟩)
      (fun A R s => s.heap.get? l = some (W.listOf vs.toArray n) ∧ s.heap.get? b = some (W.listOf us.toArray n2) ∧ R (.ok (.ret (.bool (ile xs ys)))) s) := by
  intro prog w A R s h
  obtain ⟨hp, g, d, tk, os⟩ := s; obtain ⟨hl, hb, h⟩ := h
  have hl' : hp.get? l = some { cls := .type "list", data := .seq vs.toArray n } := hl
  have hb' : hp.get? b = some { cls := .type "list", data := .seq us.toArray n2 } := hb
  have f3 := AutoSeq1.sub_list_list
  wp_walk using wpAny_loadPart' hl', wpAny_loadPart' hb'
  exact ⟨plainId_quiet plain_eq_loop _, codeAny_builtin entry_eq_loop (by
    rw [Around.under_plainId plain_eq_loop _]
    exact le_loop l b vs us xs ys n n2 hv hu _ 0 rfl (Nat.zero_le _) (Nat.zero_le _) prog w A R _ ⟨hl, hb, by simpa using h⟩)⟩
section
variable {prog : Program} {w : World} {A : Around} {E : Value → Shared → Prop} {s : Shared} {h₀ : Heap} {L a b : Addr} {news : Led} {vs us : List Value} {n k : Nat} {Q : Value → Shared → Prop}
theorem my_listle {xs ys : List Int} (N : News h₀ L s.heap news) (ha : (a, W.listOf vs.toArray n) ∈ news) (hb : (b, W.listOf us.toArray k) ∈ news) (hv : IntsAre vs xs) (hu : IntsAre us ys) (hun : A.units < cLine)
    (h : Q (.bool (ile xs ys)) s) : wpAny (model prog w) A (compareOp .LtE (.ref a) (.ref b)) Q E s := by
  show wpAny _ _ (richCompare .LtE (.ref a) (.ref b)) _ _ _
  exact richCompare_meets_room (op := .LtE) ⟨_, (N _ ha).1, rfl⟩ ⟨_, (N _ hb).1, rfl⟩ F.slot_list_le F.entry_list_le (F.args_list_le_2 _ _) (list_leAt a b vs us xs ys n k hv hu)
    ⟨(N _ ha).1, (N _ hb).1, show Value.bool (ile xs ys) ≠ Value.notImplemented ∧ Q (.bool (ile xs ys)) s from ⟨(fun x => nomatch x), h⟩⟩ hun
end
end
noncomputable section
set_option maxRecDepth 100000
set_option linter.unusedVariables false
open LCg LCp
section
variable {prog : Program} {w : World} {A : Around} {E : Value → Shared → Prop} {s : Shared} {h₀ : Heap} {L l : Addr} {m : Str → Option Value} {news : Led} {vs : List Value}
theorem my_loopIt {env : Env} {x : Str} {body : List Stmt} {Q : Flow → Shared → Prop} {I : Addr} {oI : Obj} {k : Nat} (J : Nat → (Str → Option Value) → Led → Prop) (hh : A.handled = none)
    (F : Fr h₀ env.locals s.heap m) (N : News h₀ env.locals s.heap ((I, oI) :: news)) (hI : ∀ p ∈ news, p.1 ≠ I) (hO : LIt oI l k) (hl : h₀.IsList l vs.toArray) (hk : k ≤ vs.length) (hj : J 0 m news)
    (turn : ∀ i m₁ news₁ h tk oI', k + i < vs.length → (∀ p ∈ news₁, p.1 ≠ I) → J i m₁ news₁ → Fr h₀ env.locals h (fun y => if y = x then some (vs.getD (k + i) .none) else m₁ y) → News h₀ env.locals h ((I, oI') :: news₁) →
      wpAny (model prog w) A (execs body env) (GPost h₀ env.locals I oI' (J (i + 1)) { s with heap := h, toks := tk } Q) E { s with heap := h, toks := tk })
    (done : ∀ m₁ news₁ h tk, J (vs.length - k) m₁ news₁ → Fr h₀ env.locals h m₁ → News h₀ env.locals h news₁ → Q .next { s with heap := h, toks := tk }) :
    LoopAtV prog w A h₀ env x body Q E (.ref I) s := by
  have hIx := N _ (List.mem_cons_self ..)
  have hl' : s.heap.IsList l vs.toArray := hl.at fun o e => F.keep _ o e
  have hne : l ≠ I := fun q => by
    obtain ⟨o, e, _⟩ := hl
    have := hIx.2.2
    simp only at this
    rw [← q, e] at this; cases this
  have W := walks_from (prog := prog) (w := w) hh I l hne vs.toArray (k := k) (by rw [List.size_toArray]; exact hk)
  have st0 : s.heap.IsListIter I l (k + 0) ∧ s.heap.IsList l vs.toArray := ⟨hO.at hIx.1, hl'⟩
  have lbase : ∀ {b}, b ∈ [I, l] → h₀.get? b = none → b = I := fun {b} hb hn => by
    rcases List.mem_cons.mp hb with rfl | hb
    · rfl
    · rw [List.mem_singleton.mp hb] at hn
      obtain ⟨o, e, _⟩ := hl
      rw [e] at hn; cases hn
  refine ⟨I, [I, l], [I], vs.toArray.size - k, _, _, m, news, J, rfl, W, ?_, ?_, ?_, st0, F, fun p hp => N p (List.mem_cons_of_mem _ hp), hj, ?_, ?_⟩
  · intro hm
    rcases List.mem_cons.mp hm with e | hm
    · exact hIx.2.1 e.symm
    · have := List.mem_singleton.mp hm
      obtain ⟨o, e, _⟩ := hl
      have hL := Heap.get?_none_of_le F.above
      rw [this, e] at hL; cases hL
  · intro b hb; rw [List.mem_singleton.mp hb]; exact hIx.2.2
  · intro p hp hm; exact hI p hp (List.mem_singleton.mp hm)
  · rintro i v m₁ news₁ s₁ own ⟨h, tk, rfl⟩ hi hP hJ hnw hown hget hall hst F₁ N₁
    obtain ⟨oI', heI, hcI, hdI⟩ := hst.1
    have hmem : (I, oI') ∈ own := hall I (List.mem_cons_self ..) hIx.2.2 _ heI
    have hv : v = vs.getD (k + i) .none := by
      have : vs[k + i]? = some v := by simpa using hP
      rw [List.getD_eq_getElem?_getD, this]; rfl
    subst hv
    have hI' : ∀ p ∈ news₁, p.1 ≠ I := fun p hp e => hnw p hp (by rw [e]; simp)
    have N₂ : News h₀ env.locals h ((I, oI') :: news₁) := fun p hp => by
      rcases List.mem_cons.mp hp with rfl | hp
      · exact N₁ _ (List.mem_append_left _ hmem)
      · exact N₁ _ (List.mem_append_right _ hp)
    refine wpAny_mono (turn i m₁ news₁ h tk oI' (by rw [List.size_toArray] at hi; omega) hI' hJ F₁ N₂) (fun f s₂ hp => ?_) fun _ _ e => e
    have fin : GPost h₀ env.locals I oI' (J (i + 1)) { s with heap := h, toks := tk } Q .next s₂ → LoopStepU h₀ env.locals [I] own (J (i + 1)) { s with heap := h, toks := tk } .next s₂ := by
      rintro ⟨h', tk', m', all, nx, e, F', N', hIa, hsub, hoff, hj'⟩
      refine ⟨rfl, h', tk', m', nx, e, F', fun p hp => ?_, fun p hp hb => hoff p hp (List.mem_singleton.mp hb), hj'⟩
      rcases List.mem_append.mp hp with hp | hp
      · have hpI : p.1 = I := lbase (hown p hp) (N₁ p (List.mem_append_left _ hp)).2.2
        have e1 := hget p hp
        rw [hpI] at e1
        have e2 : p.2 = oI' := by rw [heI] at e1; exact (Option.some.inj e1).symm
        have : p = (I, oI') := Prod.ext hpI e2
        rw [this]
        exact N' _ hIa
      · exact N' _ (hsub p hp)
    cases f with
    | ret v => exact .ret hp
    | brk => exact .brk hp
    | next => exact .next (fin hp)
    | cont => exact .cont (fin hp)
  · rintro h' tk m' news' F' N' _ hJ
    rw [List.size_toArray] at hJ
    exact done m' news' h' tk hJ F' N'
theorem my_forL {env : Env} {x : Str} {body : List Stmt} {Q : Flow → Shared → Prop} (J : Nat → (Str → Option Value) → Led → Prop) (hh : A.handled = none)
    (F : Fr h₀ env.locals s.heap m) (N : News h₀ env.locals s.heap news) (hl : h₀.IsList l vs.toArray) (hj : J 0 m news)
    (turn : ∀ I i m₁ news₁ h tk oI', i < vs.length → (∀ p ∈ news₁, p.1 ≠ I) → J i m₁ news₁ → Fr h₀ env.locals h (fun y => if y = x then some (vs.getD i .none) else m₁ y) → News h₀ env.locals h ((I, oI') :: news₁) →
      wpAny (model prog w) A (execs body env) (GPost h₀ env.locals I oI' (J (i + 1)) { s with heap := h, toks := tk } Q) E { s with heap := h, toks := tk })
    (done : ∀ m₁ news₁ h tk, J vs.length m₁ news₁ → Fr h₀ env.locals h m₁ → News h₀ env.locals h news₁ → Q .next { s with heap := h, toks := tk }) :
    wpAny (model prog w) A (pyIter (.ref l)) (fun it s₂ => LoopAtV prog w A h₀ env x body Q E it s₂) E s := by
  have hl' : s.heap.IsList l vs.toArray := hl.at fun o e => F.keep _ o e
  refine wpAny_pyIter_list hl' ?_
  have up : ∀ b o, s.heap.get? b = some o → (s.heap.push { cls := .type "list_iterator", data := .fields #[.ref l, .int 0 0] }).get? b = some o := fun b o e => Heap.get?_push_of_some _ e
  refine my_loopIt (s := { s with heap := s.heap.push { cls := .type "list_iterator", data := .fields #[.ref l, .int 0 0] } }) (k := 0) (oI := { cls := .type "list_iterator", data := .fields #[.ref l, .int 0 0] }) J hh (F.push _) (fun p hp => ?_) (fun p hp => Nat.ne_of_lt (Heap.lt_size (N p hp).1)) ⟨rfl, rfl⟩ hl (Nat.zero_le _) hj ?_ ?_
  · rcases List.mem_cons.mp hp with rfl | hp
    · exact ⟨Heap.get?_push_size _ rfl, Nat.ne_of_gt F.ns.lt, next_is_new F⟩
    · exact ⟨up _ _ (N p hp).1, (N p hp).2⟩
  · intro i m₁ news₁ h tk oI' hi hI hJ F' N'
    rw [Nat.zero_add] at hi F'
    exact turn _ i m₁ news₁ h tk oI' hi hI hJ F' N'
  · intro m₁ news₁ h tk hJ F' N'
    exact done m₁ news₁ h tk hJ F' N'
end
open LCt
section
variable {prog : Program} {w : World} {A : Around} {E : Value → Shared → Prop} {s : Shared} {h₀ : Heap} {L : Addr} {m : Str → Option Value} {env : Env} {news : Led}
theorem comp_goT {ct elt : Expr} {x : Str} {scope : Scope} {cl : List (Str × Addr)} {S : Led → Prop} {P : Nat → Value → Prop} {Fin : List Value → Led → Prop} (n : Nat) (I : Nat → List Value → Prop)
    (hz : ∀ ys, I n ys → Fin ys news)
    (hs : ∀ i ys, i < n → I i ys → ∀ v Ia oI C oC D m₂ h tk (E' : Value → Shared → Prop), P i v → NsObj oC m₂ → m₂ x = some v → Fr h₀ L h m → News h₀ L h ((Ia, oI) :: (C, oC) :: (D, lst ys) :: news) → Off3 Ia C D news → ((@Ne Nat Ia C) ∧ (@Ne Nat Ia D) ∧ (@Ne Nat C D)) →
      wpAny (model prog w) A (isTrue ct (compEnvC scope cl C env) (eval ct (compEnvC scope cl C env))) (fun ok s' => if ok = true then
        wpAny (model prog w) A (eval elt (compEnvC scope cl C env)) (CompEnd h₀ L m { s with heap := h, toks := tk } Ia oI C oC D (lst ys) S (fun y nw' => I (i + 1) (ys ++ [y]) ∧ nw' = news)) E' s'
        else CompEnd h₀ L m { s with heap := h, toks := tk } Ia oI C oC D (lst ys) S (fun _ nw' => I (i + 1) ys ∧ nw' = news) Value.none s') E' { s with heap := h, toks := tk }) :
    ∀ (k i : Nat) (ys : List Value), i + k = n → I i ys → CompRestT prog w A h₀ L m env ct elt x scope cl s S P Fin k i ys news
  | 0, i, ys, hk, hI => CompRestT.zero (hz ys (by rw [← hk]; exact hI))
  | k + 1, i, ys, hk, hI => CompRestT.succ fun v Ia oI C oC D m₂ h tk E' hP hC hx F N off ne => by
    refine wpAny_mono (hs i ys (by omega) hI v Ia oI C oC D m₂ h tk E' hP hC hx F N off ne) (fun ok s₂ he => ?_) fun _ _ e => e
    cases ok with
    | true =>
      simp only [if_true] at he ⊢
      refine wpAny_mono he (fun y s₃ he => ?_) fun _ _ e => e
      obtain ⟨h', tk', nw', e, F', N', off', hS, hr, hn⟩ := he
      exact ⟨h', tk', nw', e, F', N', off', hS, by rw [hn]; exact comp_goT n I hz hs k (i + 1) (ys ++ [y]) (by omega) hr⟩
    | false =>
      simp only [Bool.false_eq_true, if_false] at he ⊢
      obtain ⟨h', tk', nw', e, F', N', off', hS, hr, hn⟩ := he
      exact ⟨h', tk', nw', e, F', N', off', hS, by rw [hn]; exact comp_goT n I hz hs k (i + 1) ys (by omega) hr⟩
end
end
noncomputable section
set_option maxRecDepth 100000
set_option linter.unusedVariables false
open LCg LCp
section
variable {prog : Program} {w : World} {A : Around} {E : Value → Shared → Prop} {s : Shared} {h₀ : Heap} {L l : Addr} {m : Str → Option Value} {news : Led} {vs : List Value}
theorem my_turnsIt {env : Env} {target : Expr} {body : List Stmt} {Q : Flow → Shared → Prop} {I : Addr} {oI : Obj} (J : Nat → (Str → Option Value) → Led → Prop) (hh : A.handled = none)
    (F : Fr h₀ env.locals s.heap m) (N : News h₀ env.locals s.heap ((I, oI) :: news)) (hI : ∀ p ∈ news, p.1 ≠ I) (hO : LIt oI l 0) (hl : h₀.IsList l vs.toArray) (hj : J 0 m news)
    (turn : ∀ i m₁ news₁ h tk oI', i < vs.length → (∀ p ∈ news₁, p.1 ≠ I) → J i m₁ news₁ → Fr h₀ env.locals h m₁ → News h₀ env.locals h ((I, oI') :: news₁) →
      wpAny (model prog w) A (assign target env (vs.getD i .none)) (fun _ s₃ => wpAny (model prog w) A (execs body env) (GPost h₀ env.locals I oI' (J (i + 1)) { s with heap := h, toks := tk } Q) E s₃) E { s with heap := h, toks := tk })
    (done : ∀ m₁ news₁ h tk, J vs.length m₁ news₁ → Fr h₀ env.locals h m₁ → News h₀ env.locals h news₁ → Q .next { s with heap := h, toks := tk }) :
    TurnsAt prog w A h₀ env target body Q E (.ref I) s := by
  have hIx := N _ (List.mem_cons_self ..)
  have hl' : s.heap.IsList l vs.toArray := hl.at fun o e => F.keep _ o e
  have hne : l ≠ I := fun q => by
    obtain ⟨o, e, _⟩ := hl
    have := hIx.2.2
    simp only at this
    rw [← q, e] at this; cases this
  have W := walks_from (prog := prog) (w := w) hh I l hne vs.toArray (k := 0) (Nat.zero_le _)
  have st0 : s.heap.IsListIter I l (0 + 0) ∧ s.heap.IsList l vs.toArray := ⟨hO.at hIx.1, hl'⟩
  have lbase : ∀ {b}, b ∈ [I, l] → h₀.get? b = none → b = I := fun {b} hb hn => by
    rcases List.mem_cons.mp hb with rfl | hb
    · rfl
    · rw [List.mem_singleton.mp hb] at hn
      obtain ⟨o, e, _⟩ := hl
      rw [e] at hn; cases hn
  refine ⟨I, [I, l], [I], vs.toArray.size - 0, _, _, _, m, news, J, rfl, KTurns.ofWalks W (fun i v s Q E st q => letGo_listiter st.1 q), ?_, ?_, ?_, st0, F, fun p hp => N p (List.mem_cons_of_mem _ hp), hj, ?_, ?_⟩
  · intro hm
    rcases List.mem_cons.mp hm with e | hm
    · exact hIx.2.1 e.symm
    · have := List.mem_singleton.mp hm
      obtain ⟨o, e, _⟩ := hl
      have hL := Heap.get?_none_of_le F.above
      rw [this, e] at hL; cases hL
  · intro b hb; rw [List.mem_singleton.mp hb]; exact hIx.2.2
  · intro p hp hm; exact hI p hp (List.mem_singleton.mp hm)
  · intro i v m₁ news₁ h tk own hi hP hJ hnw hown hget hall hst F₁ N₁
    obtain ⟨oI', heI, hcI, hdI⟩ := hst.1
    have hmem : (I, oI') ∈ own := hall I (List.mem_cons_self ..) hIx.2.2 _ heI
    have hv : v = vs.getD i .none := by
      have : vs[i]? = some v := by simpa using hP
      rw [List.getD_eq_getElem?_getD, this]; rfl
    subst hv
    have hI' : ∀ p ∈ news₁, p.1 ≠ I := fun p hp e => hnw p hp (by rw [e]; simp)
    have N₂ : News h₀ env.locals h ((I, oI') :: news₁) := fun p hp => by
      rcases List.mem_cons.mp hp with rfl | hp
      · exact N₁ _ (List.mem_append_left _ hmem)
      · exact N₁ _ (List.mem_append_right _ hp)
    refine wpAny_mono (turn i m₁ news₁ h tk oI' (by rw [List.size_toArray] at hi; omega) hI' hJ F₁ N₂) (fun _ s₃ h₃ => wpAny_mono h₃ (fun f s₂ hp => ?_) fun _ _ e => e) fun _ _ e => e
    have fin : GPost h₀ env.locals I oI' (J (i + 1)) { s with heap := h, toks := tk } Q .next s₂ → LoopStepU h₀ env.locals [I] own (J (i + 1)) { s with heap := h, toks := tk } .next s₂ := by
      rintro ⟨h', tk', m', all, nx, e, F', N', hIa, hsub, hoff, hj'⟩
      refine ⟨rfl, h', tk', m', nx, e, F', fun p hp => ?_, fun p hp hb => hoff p hp (List.mem_singleton.mp hb), hj'⟩
      rcases List.mem_append.mp hp with hp | hp
      · have hpI : p.1 = I := lbase (hown p hp) (N₁ p (List.mem_append_left _ hp)).2.2
        have e1 := hget p hp
        rw [hpI] at e1
        have e2 : p.2 = oI' := by rw [heI] at e1; exact (Option.some.inj e1).symm
        have : p = (I, oI') := Prod.ext hpI e2
        rw [this]
        exact N' _ hIa
      · exact N' _ (hsub p hp)
    cases f with
    | ret v => exact hp
    | brk => exact hp
    | next => exact fin hp
    | cont => exact fin hp
  · rintro h' tk m' news' F' N' _ hJ
    rw [List.size_toArray, Nat.sub_zero] at hJ
    exact done m' news' h' tk hJ F' N'
theorem my_turnsL {env : Env} {target : Expr} {body : List Stmt} {Q : Flow → Shared → Prop} (J : Nat → (Str → Option Value) → Led → Prop) (hh : A.handled = none)
    (F : Fr h₀ env.locals s.heap m) (N : News h₀ env.locals s.heap news) (hl : h₀.IsList l vs.toArray) (hj : J 0 m news)
    (turn : ∀ I i m₁ news₁ h tk oI', (∀ p ∈ news, p.1 < I) → i < vs.length → (∀ p ∈ news₁, p.1 ≠ I) → J i m₁ news₁ → Fr h₀ env.locals h m₁ → News h₀ env.locals h ((I, oI') :: news₁) →
      wpAny (model prog w) A (assign target env (vs.getD i .none)) (fun _ s₃ => wpAny (model prog w) A (execs body env) (GPost h₀ env.locals I oI' (J (i + 1)) { s with heap := h, toks := tk } Q) E s₃) E { s with heap := h, toks := tk })
    (done : ∀ m₁ news₁ h tk, J vs.length m₁ news₁ → Fr h₀ env.locals h m₁ → News h₀ env.locals h news₁ → Q .next { s with heap := h, toks := tk }) :
    wpAny (model prog w) A (pyIter (.ref l)) (fun it s₂ => TurnsAt prog w A h₀ env target body Q E it s₂) E s := by
  have hl' : s.heap.IsList l vs.toArray := hl.at fun o e => F.keep _ o e
  refine wpAny_pyIter_list hl' ?_
  have up : ∀ b o, s.heap.get? b = some o → (s.heap.push { cls := .type "list_iterator", data := .fields #[.ref l, .int 0 0] }).get? b = some o := fun b o e => Heap.get?_push_of_some _ e
  refine my_turnsIt (s := { s with heap := s.heap.push { cls := .type "list_iterator", data := .fields #[.ref l, .int 0 0] } }) (oI := { cls := .type "list_iterator", data := .fields #[.ref l, .int 0 0] }) J hh (F.push _) (fun p hp => ?_) (fun p hp => Nat.ne_of_lt (Heap.lt_size (N p hp).1)) ⟨rfl, rfl⟩ hl hj ?_ ?_
  · rcases List.mem_cons.mp hp with rfl | hp
    · exact ⟨Heap.get?_push_size _ rfl, Nat.ne_of_gt F.ns.lt, next_is_new F⟩
    · exact ⟨up _ _ (N p hp).1, (N p hp).2⟩
  · intro i m₁ news₁ h tk oI' hi hI hJ F' N'
    exact turn _ i m₁ news₁ h tk oI' (fun p hp => Heap.lt_size (N p hp).1) hi hI hJ F' N'
  · intro m₁ news₁ h tk hJ F' N'
    exact done m₁ news₁ h tk hJ F' N'
end
end
noncomputable section
set_option maxRecDepth 100000
set_option linter.unusedVariables false
theorem fn_enterL {w : World} {f : Addr} {d : Nat} {args : Args} {ro own : Led} {P : Value → Led → Prop}
    {name qual : Str} {params : Arguments} {body : Expr} {scope : Scope} {pm ctv : Value} {c' : Addr} {oc : Obj} {vsc : Array Value} {tq : Tok} {binds : List (Str × Value)}
    (hm : (f, kla_obj name qual params body scope [] pm c' ctv) ∈ ro) (hmc : (c', oc) ∈ ro) (h1 : oc.data = .fields vsc) (h2 : vsc[1]? = some (.str qual tq)) (hd : 0 < d)
    (hbind : bindArgs (kla_fn name qual params body scope [] pm (.ref c') ctv) args = pure binds) (hloc : ∀ y ∈ binds, scope.names.lookup y.1 = some .local)
    (hbody : ∀ (p : Program) (loose : List Str) (mean : ExcName → Option Value) (mg mb : Str → Option Value) (dp un : Nat) (fr : Option (List Env)) (gd : Option (List Code)) (s₁ : Shared) (h : Heap) (tk : Nat) (g : Heap) (L : Addr),
      (Mine.hd.heap_1 w.params).In g → Top p loose mean mg mb g → Fr g L h (fun y => binds.reverse.lookup y) → News g L h own → (∀ q ∈ own, q.1 < L) → (∀ q ∈ ro, g.get? q.1 = some q.2) →
      dp + d < recursionLimit + 1 → un + 8 * d < cLine + 3 →
      wpAny (model PySem.Challenge.rw_kq0059_01.prog w) (arnd dp un fr gd) (eval body (envX qual scope L f (.ref c') [])) (fun v s' => FnEnd g L P v s' s₁) (fun _ _ => False) { s₁ with heap := h, toks := tk })
    (hco : scope.isCoroutine = false) (hgen : scope.isGenerator = false) (hk : scope.kind = .function)
    (hcell : ∀ x ∈ scope.names, x.2 ≠ .cell) : FnR w f d args ro own P := by
  intro p loose mean mg mb dp un fr gd s base R X T st hown hro hdp hun hret
  have X' : (Mine.hd.heap_1 w.params).In s.heap := X.keeps st
  have hcd : s.heap.CodeRec (.ref c') qual := ⟨c', oc, vsc, tq, rfl, (hro _ hmc).1, h1, h2⟩
  refine kla_callFunE (by show dp < recursionLimit; omega) (hro _ hm).1 rfl hco hgen rfl hcd ?_
  rw [hbind]
  have nm : ∀ b o, base.get? b = some o → b ∉ own.map (·.1) := fun b o e q => by
    obtain ⟨p, hp, rfl⟩ := List.mem_map.mp q
    rw [(hown p hp).2] at e; cases e
  have stg : base.StaysIn (hideAll s.heap (own.map (·.1))) := fun b o e => hideAll_get _ (st b o e) (nm b o e)
  refine wpAny_pure (wpAny_newFunctionEnv hcell hloc (fun h₁ hns hsb => ⟨(T.nolimit.keeps st).fresh _ hsb, ?_⟩) hk)
  have hk₁ : ∀ b o, s.heap.get? b = some o → h₁.get? b = some o := fun b o e => hsb.extBut b o (Nat.ne_of_lt (Heap.lt_size e)) (Heap.get?_push_of_some _ e)
  have FG : Fr (hideAll s.heap (own.map (·.1))) s.heap.objs.size h₁ (fun y => binds.reverse.lookup y) := ⟨hns, fun b o e => hk₁ b o (of_hideAll _ e), Nat.le_of_eq (hideAll_size _ _)⟩
  have NG : News (hideAll s.heap (own.map (·.1))) s.heap.objs.size h₁ own := fun q hq => ⟨hk₁ _ _ (hown q hq).1, Nat.ne_of_lt (Heap.lt_size (hown q hq).1), hideAll_none _ (List.mem_map_of_mem hq)⟩
  have z := hbody p loose mean mg mb (dp + 1) (un + 3) (fr.map (envX qual scope s.heap.objs.size f (.ref c') [] :: ·)) gd s h₁ (s.toks + binds.length) _ _ (X.keeps stg) (T.keeps stg) FG NG
    (fun q hq => Heap.lt_size (hown q hq).1) (fun q hq => hideAll_get _ (hro q hq).1 (hro q hq).2) (by omega) (by omega)
  show codeAny _ _ (.expr body (envX qual scope s.heap.objs.size f (.ref c') [])) _ _
  refine kla_codeExpr (wpAny_mono z (fun v s' hl => ?_) (fun _ _ x => x.elim))
  obtain ⟨h', tk', m', own', rfl, F', N', hP⟩ := hl
  refine hret _ own' h' tk' hP ⟨fun b o e hb => F'.keep b o (hideAll_get _ e hb), fun q hq => (N' q hq).1, fun q hq => ?_⟩
  by_cases hm : q.1 ∈ own.map (·.1)
  · exact .inl hm
  · right
    cases e : s.heap.get? q.1 with
    | none => rfl
    | some o =>
      have := (N' q hq).2.2
      rw [hideAll_get _ e hm] at this
      cases this
end
noncomputable section
set_option maxRecDepth 100000
set_option linter.unusedVariables false
/-- what a mark gives: the list of a row's ints -/
noncomputable def Marks (w : World) (ro : Led) (f : Addr) (S : Value → Prop) (key : Value → List Int) : Prop :=
  ∀ x, S x → FnR w f 8 ⟨[x], []⟩ ro [] (fun v o => ∃ R vs n, v = .ref R ∧ o = [(R, W.listOf vs.toArray n)] ∧ IntsAre vs (key x))
noncomputable def Srt (os : List Value) : Prop := os.Pairwise fun a b => vlt b a = false
theorem srt_split {x : Value} : ∀ {os : List Value}, Srt os → (∀ a ∈ os.take (os.filter fun o => !vlt x o).length, vlt x a = false) ∧ (∀ a ∈ os.drop (os.filter fun o => !vlt x o).length, vlt x a = true)
  | [], _ => ⟨fun _ h => by simp at h, fun _ h => by simp at h⟩
  | o :: r, h => by
    have hp := List.pairwise_cons.mp h
    have ih := srt_split (x := x) hp.2
    cases hxo : vlt x o with
    | false =>
      rw [List.filter_cons_of_pos (by simp [hxo]), List.length_cons, List.take_succ_cons, List.drop_succ_cons]
      refine ⟨fun a ha => ?_, ih.2⟩
      rcases List.mem_cons.mp ha with rfl | ha
      · exact hxo
      · exact ih.1 a ha
    | true =>
      have hall : ∀ a ∈ r, vlt x a = true := fun a ha => by
        have h1 := hp.1 a ha
        cases hxa : vlt x a with
        | true => rfl
        | false =>
          have := blt_ftrans (bk x) (bk a) (bk o) hxa h1
          unfold vlt at hxo
          rw [this] at hxo; cases hxo
      have hf : (o :: r).filter (fun o => !vlt x o) = [] := by
        rw [List.filter_eq_nil_iff]
        intro a ha
        rcases List.mem_cons.mp ha with rfl | ha
        · simp [hxo]
        · simp [hall a ha]
      rw [hf]
      refine ⟨fun a ha => by simp at ha, fun a ha => ?_⟩
      rcases List.mem_cons.mp ha with rfl | ha
      · exact hxo
      · exact hall a ha
theorem srt_ins {x : Value} {os : List Value} (h : Srt os) : Srt (os.take (os.filter fun o => !vlt x o).length ++ [x] ++ os.drop (os.filter fun o => !vlt x o).length) := by
  obtain ⟨h1, h2⟩ := srt_split (x := x) h
  generalize (os.filter fun o => !vlt x o).length = p at *
  have hs : Srt (os.take p ++ os.drop p) := by rw [List.take_append_drop]; exact h
  have hs' := List.pairwise_append.mp hs
  unfold Srt
  rw [List.append_assoc]
  refine List.pairwise_append.mpr ⟨hs'.1, ?_, fun a ha b hb => ?_⟩
  · refine List.pairwise_append.mpr ⟨List.pairwise_singleton _ _, hs'.2.1, fun a ha b hb => ?_⟩
    rw [List.mem_singleton.mp ha]
    exact blt_asymm _ _ (h2 b hb)
  · rcases List.mem_append.mp hb with hb | hb
    · rw [List.mem_singleton.mp hb]; exact h1 a ha
    · exact hs'.2.2 a ha b hb
theorem ins_perm {x : Value} {os : List Value} (p : Nat) : (os.take p ++ [x] ++ os.drop p).Perm (os ++ [x]) := by
  have h1 : (os.take p ++ [x] ++ os.drop p).Perm (os.take p ++ (os.drop p ++ [x])) := by
    rw [List.append_assoc]
    exact List.Perm.append_left _ List.perm_append_comm
  rw [← List.append_assoc, List.take_append_drop] at h1
  exact h1
theorem filt_snoc {x : Value} {os : List Value} {i : Nat} (hi : i < os.length) : (os.take (i + 1)).filter (fun o => !vlt x o) = (os.take i).filter (fun o => !vlt x o) ++ if vlt x (os.getD i .none) = true then [] else [os.getD i .none] := by
  rw [List.take_add_one, List.filter_append, List.getElem?_eq_getElem hi, List.getD_eq_getElem?_getD, List.getElem?_eq_getElem hi]
  congr 1
  simp only [Option.toList_some, Option.getD_some]
  by_cases h : vlt x os[i] = true
  · rw [if_pos h, List.filter_cons_of_neg (by simp [h])]; rfl
  · rw [if_neg h, List.filter_cons_of_pos (by simpa using h)]; rfl
section
variable {prog : Program} {w : World} {A : Around} {E : Value → Shared → Prop} {s : Shared} {h₀ : Heap} {L a b D : Addr} {m : Str → Option Value} {news : Led} {xs ys : List Value} {n k p : Nat} {t : Tok}
theorem my_addL {Q : Value → Shared → Prop} (F : Fr h₀ L s.heap m) (N : News h₀ L s.heap news) (ha : (a, W.listOf xs.toArray n) ∈ news) (hb : (b, W.listOf ys.toArray k) ∈ news) (hz : xs.length + ys.length ≤ 1000)
    (h : ∀ D h' tk c, Fr h₀ L h' m → News h₀ L h' ((D, W.listOf (xs ++ ys).toArray c) :: news) → (∀ p ∈ news, p.1 < D) → Q (.ref D) { s with heap := h', toks := tk }) : wpAny (model prog w) A (binaryOp .Add (.ref a) (.ref b)) Q E s := by
  exact add_lists F N (PySem.IsL.isList (n := n) (N _ ha).1) (PySem.IsL.isList (n := k) (N _ hb).1) (fun h' F' N' => h _ h' _ 0 F' N' fun p hp => Heap.lt_size (N p hp).1) (by rw [sizeLine_eq]; omega)
theorem my_upto {value slice : Expr} {Q : Value → Shared → Prop} (F : Fr h₀ L s.heap m) (N : News h₀ L s.heap news) (ha : (a, W.listOf xs.toArray n) ∈ news) (hz : xs.length ≤ 1000)
    (h : ∀ D h', Fr h₀ L h' m → News h₀ L h' ((D, W.listOf (xs.take p).toArray 0) :: news) → (∀ p ∈ news, p.1 < D) → Q (.ref D) { s with heap := h' })
    (hs : subscripted slice false (.ref a) (.ref s.heap.objs.size) = operate [.ref s.heap.objs.size, .ref a] (getItem (.ref a) (.ref s.heap.objs.size)) := by with_unfolding_all rfl) (ht : ∀ r, letTemporaryGo value (.ref a) r = pure () := by intro _; with_unfolding_all rfl) :
    wpAny (model prog w) A (subscriptTail value slice (.ref a) (.ref s.heap.objs.size)) Q E { s with heap := s.heap.push { cls := .type "slice", data := .fields #[.none, .int (p : Int) t, .none] } } := by
  refine kmk_slice_lit (hi := some (p : Int)) F N (PySem.IsL.isList (n := n) (N _ ha).1) .none (.int _ _) ?_ h hs ht (by rw [List.size_toArray, sizeLine_eq]; omega)
  rw [slicePick_upto']
theorem my_from {value slice : Expr} {Q : Value → Shared → Prop} (F : Fr h₀ L s.heap m) (N : News h₀ L s.heap news) (ha : (a, W.listOf xs.toArray n) ∈ news) (hz : xs.length ≤ 1000)
    (h : ∀ D h', Fr h₀ L h' m → News h₀ L h' ((D, W.listOf (xs.drop p).toArray 0) :: news) → (∀ p ∈ news, p.1 < D) → Q (.ref D) { s with heap := h' })
    (hs : subscripted slice false (.ref a) (.ref s.heap.objs.size) = operate [.ref s.heap.objs.size, .ref a] (getItem (.ref a) (.ref s.heap.objs.size)) := by with_unfolding_all rfl) (ht : ∀ r, letTemporaryGo value (.ref a) r = pure () := by intro _; with_unfolding_all rfl) :
    wpAny (model prog w) A (subscriptTail value slice (.ref a) (.ref s.heap.objs.size)) Q E { s with heap := s.heap.push { cls := .type "slice", data := .fields #[.int (p : Int) t, .none, .none] } } := by
  refine kmk_slice_lit (lo := some (p : Int)) F N (PySem.IsL.isList (n := n) (N _ ha).1) (.int _ _) .none ?_ h hs ht (by rw [List.size_toArray, sizeLine_eq]; omega)
  rw [slicePick_from']
end
end
local macro_rules | `(tactic| omega) => `(tactic| first | with_reducible assumption | decide | with_reducible exact om_z | with_reducible exact om_0 (by with_reducible assumption) (by decide) | with_reducible exact om_1 (by with_reducible assumption) (by decide) | with_reducible exact om_3 (by with_reducible assumption) (by decide) | with_reducible exact om_lt (by with_reducible assumption) (by decide) | with_reducible exact om_le (by with_reducible assumption) (by decide) | with_reducible exact om_ne1 (by with_reducible assumption) | with_reducible exact om_ne2 (by with_reducible assumption) | with_reducible exact om_ne (by with_reducible assumption) | with_reducible exact Nat.le_of_lt (by with_reducible assumption) | lia | fail "om")
local macro_rules | `(tactic| walk_at "call builtin:sorted") => `(tactic| ((with_reducible show wpAny _ _ (call (Value.builtin "sorted") [Value.ref _]) _ _ _); k_dflt (refine' my_sorted ?F ?N ?m ?S ?z ?_; (case F => k_asm); (case N => k_asm); (case m => k_mem); (case S => assumption); (case z => omega); k_whole); intro R' h' out' e' F' N' l1 hP' hO' hL'; (try k_lt l1); (try k_sweep)))
local macro_rules | `(tactic| walk_at "compareOp Lt bytes bytes") => `(tactic| (k_dflt (refine lt_bytes ?_)))
local macro_rules | `(tactic| walk_at "ite") => `(tactic| (first | (refine ite_no (by simp only [beq_iff_eq, decide_eq_true_eq, bne_iff_ne, ne_eq]; omega) ?_) | (refine ite_yes (by simp only [beq_iff_eq, decide_eq_true_eq, bne_iff_ne, ne_eq]; omega) ?_)))
section
set_option maxRecDepth 100000
local macro_rules | `(tactic| walk_at "binaryOp FloorDiv int int") => `(tactic| (k_dflt (refine' my_fdiv (k := 2) ?c ?k ?z ?_; (case c => exact rfl); (case k => decide); (case z => decide); k_whole); intro t'))
local macro_rules | `(tactic| walk_at "binaryOp Mod int int") => `(tactic| (k_dflt (refine' my_fmod (k := 2) ?c ?k ?_; (case c => exact rfl); (case k => decide); k_whole); intro t'))
set_option maxHeartbeats 8000000 in
theorem median_low_fn (w : World) (l : Addr) (vs : List Value) (n : Nat) (hS : ∀ v ∈ vs, IsB v) (h0 : 0 < vs.length) (h64 : vs.length < 64) :
    FnR w 58 4 ⟨[.ref l], []⟩ [] [(l, listOf vs.toArray n)] (fun v o => (∃ out : List Value, out.Perm vs ∧ out.Pairwise (fun a b => vlt b a = false) ∧ v = out.getD ((vs.length - 1) / 2) .none) ∧ o = [(l, listOf vs.toArray n)]) := by
  refine fn_sub ?_
  walk_at "mine enter"
  (((repeat' (first | (k_unfold; walk_at "mine cl") | (walk_at "mine sB"; walk_at "mine ld"))); (all_goals try walk_at "mine fd")))
  all_goals (
    rename List.Perm _ _ => hP
    rename List.Pairwise _ _ => hO
    refine HeldP.mk ⟨_, ⟨⟨_, hP, hO, ?_⟩, rfl⟩, fun q hq => List.mem_cons_of_mem _ hq⟩
    have hL := hP.length_eq
    show List.getD _ _ _ = _
    congr 1
    omega)
set_option maxHeartbeats 8000000 in
theorem median_high_fn (w : World) (l : Addr) (vs : List Value) (n : Nat) (hS : ∀ v ∈ vs, IsB v) (h0 : 0 < vs.length) (h64 : vs.length < 64) :
    FnR w 65 4 ⟨[.ref l], []⟩ [] [(l, listOf vs.toArray n)] (fun v o => (∃ out : List Value, out.Perm vs ∧ out.Pairwise (fun a b => vlt b a = false) ∧ v = out.getD (vs.length / 2) .none) ∧ o = [(l, listOf vs.toArray n)]) := by
  refine fn_sub ?_
  walk_at "mine enter"
  (((repeat' (first | (k_unfold; walk_at "mine cl") | (walk_at "mine sB"; walk_at "mine ld"))); (all_goals try walk_at "mine fd")))
  all_goals (
    rename List.Perm _ _ => hP
    rename List.Pairwise _ _ => hO
    refine HeldP.mk ⟨_, ⟨⟨_, hP, hO, ?_⟩, rfl⟩, fun q hq => List.mem_cons_of_mem _ hq⟩
    have hL := hP.length_eq
    show List.getD _ _ _ = _
    congr 1
    omega)
end
local macro_rules | `(tactic| walk_at "execs cons") => `(tactic| first | (k_here; k_gentoks) | with_reducible refine ek_cons ?_)
local macro_rules | `(tactic| walk_at "ExecK") => `(tactic| first | with_reducible refine ek_next ?_ | with_reducible refine ek_ret ?_ | with_reducible refine ek_brk ?_ | with_reducible refine ek_cont ?_)
local macro_rules | `(tactic| walk_at "mine enterC") => `(tactic| (k_dflt (refine' fn_enterC ?k6 ?k7 ?k0 ?k9 ?kB ?kD ?_ ?c2 ?c3 ?c4; (case k6 => k_is); (case k7 => k_is); (case k0 => decide); (case k9 => intro s X; first | exact BindsTo.of_eq rfl | exact binds_K X rfl (by k_is) rfl rfl rfl | fail "no rule for these arguments"); (case kB => exact rfl); (case kD => decide +kernel); (case c2 => exact rfl); (case c3 => exact rfl); (case c4 => exact rfl); k_whole); intro p loose mean mg mb dp un fr gd s₁ h' tk g' L' cells' X' T' F' N' Y' l1 hro hdp hun; (try dsimp only at F' ⊢); (try k_lt l1); k_cells Y'; (try simp only [List.cons_append, List.nil_append] at N'); (try k_unmd); (try k_fold)))
local macro_rules | `(tactic| walk_at "exec Try") => `(tactic| (refine my_try ?_; (try dsimp only); (try k_unmd); (try k_fold)))
local macro_rules | `(tactic| walk_at "call builtin:len") => `(tactic| ((with_reducible show wpAny _ _ (call (Value.builtin "len") [Value.ref _]) _ _ _); k_dflt (refine' my_lenB ?F ?l ?f ?_; (case F => k_asm); (case l => assumption); (case f => omega); k_whole)))
local macro_rules | `(tactic| walk_at "call builtin:iter") => `(tactic| ((with_reducible show wpAny _ _ (call (Value.builtin "iter") [Value.ref _]) _ _ _); k_dflt (refine' my_iterB ?F ?N ?l ?_; (case F => k_asm); (case N => k_asm); (case l => assumption); k_whole); intro I' h' oI' F' N' l1 hO'; (try k_lt l1); (try k_sweep)))
local macro_rules | `(tactic| walk_at "subscriptTail Name Constant ref int") => `(tactic| first | ((with_reducible show wpAny _ _ (subscriptTail _ _ (Value.ref _) (Value.int _ _)) _ _ _); k_dflt (refine' my_sub0 ?N ?m ?_; (case N => k_asm); (case m => k_mem); k_whole)) | ((with_reducible show wpAny _ _ (subscriptTail _ _ (Value.ref _) (Value.int _ _)) _ _ _); k_dflt (refine' my_tup0 ?N ?m ?_; (case N => k_asm); (case m => (repeat (first | assumption | exact List.mem_append_left _ (by assumption) | refine List.mem_cons_of_mem _ ?_))); k_whole)))
local macro_rules | `(tactic| walk_at "assign Tuple") => `(tactic| (k_here; (with_reducible show wpAny _ _ (assign (Expr.Tuple _ _ _) _ (Value.ref _)) _ _ _); k_dflt (refine' unpackN_ ?F ?N ?T ?k1 ?k2 ?k3 ?_; (case F => k_asm); (case N => k_asm); (case T => (refine' tup_at ?n ?m ?c ?d; (case n => k_asm); (case m => (repeat (first | assumption | exact List.mem_append_left _ (by assumption) | refine List.mem_cons_of_mem _ ?_))); (case c => exact rfl); (case d => exact rfl))); (case k1 => exact rfl); (case k2 => exact rfl); (case k3 => exact rfl)); intro h' F' N'; (try k_sweep)))
local macro_rules | `(tactic| walk_at "GPost") => `(tactic| (k_dflt (first | ((with_reducible show GPost _ _ _ _ _ _ _ Flow.next _); refine' gpost_next ?F ?N ?_; (case F => k_asm); (case N => k_asm)) | ((with_reducible show GPost _ _ _ _ _ _ _ Flow.cont _); refine' gpost_cont ?F ?N ?_; (case F => k_asm); (case N => k_asm)))))
local macro_rules | `(tactic| walk_at "mine sC") => `(tactic| (walk_at "mine sB"; (fail_if_success (with_reducible show wpAny _ _ (eval (Expr.ListComp _ _ _ _) _) _ _ _))))
section
set_option maxRecDepth 100000
local macro_rules | `(tactic| walk_at "exec Assign cons ListComp") => `(tactic| (k_here; lcg_calm; k_dflt (refine zr_comp (F₀ := by k_asm) (by with_unfolding_all rfl) (by with_unfolding_all rfl) (by decide) (by rfl) (by decide) (by rfl) (by rfl) (by decide) (by decide) (by decide) (by rfl) (by rfl) ?_)))
theorem dlt_true (tups : Led) : dlt true tups = flip2 (tlt tups) := rfl
inductive InvSm (D L I : Addr) (oc : Obj) (vs : List Value) (k : Nat) (bl : Bool) (hr : Addr) (i : Nat) (m : Str → Option Value) (nw : Led) : Prop
  | mk (us : List Value) (tups : Led) (ord : Int) (to : Tok) (b : Array UInt8) (tb : Tok) (e : nw = (D, listOf us.toArray k) :: (tups ++ [(L + 1, oc)])) (IN : NInv bl tups us ord ((vs.take (k + i)).map bk) k)
      (htop : (tkey tups (us.getD 0 .none)).1 = b.toList) (hDt : ∀ p ∈ tups, D < p.1)
      (hm : ∀ q ∈ [(Str.ofString "it", Value.ref I), (Str.ofString "result", Value.ref D), (Str.ofString "top", Value.bytes b tb), (Str.ofString "order", Value.int ord to), (Str.ofString "_heapreplace", Value.ref hr)], m q.1 = some q.2) : InvSm D L I oc vs k bl hr i m nw
set_option maxHeartbeats 8000000 in
theorem nsmallest_fn (w : World) (l : Addr) (vs : List Value) (n k : Nat) (t : Tok) (hS : ∀ v ∈ vs, IsB v) (h3 : 2 ≤ k) (hk : k < vs.length) (h64 : vs.length < 64) :
    FnR w 258 8 ⟨[.int (k : Nat) t, .ref l], []⟩ [(l, listOf vs.toArray n)] [] (fun v o => ∃ (R : Addr) (ys : List Value), v = .ref R ∧ o = [(R, listOf ys.toArray ys.length)] ∧ ys.length = k ∧ (∀ y ∈ ys, IsB y) ∧ Rank blt (k - 1) (bk (ys.getD (k - 1) .none)) (vs.map bk)) := by
  walk_at "mine enterC"
  rename_i g L X T' F' hro hdp hun _ oc hcd N'
  have hl : Heap.IsList _ l vs.toArray := ⟨_, hro (l, listOf vs.toArray n) (.head _), rfl, n, rfl⟩
  (((repeat' (first | (k_unfold; walk_at "mine cl") | (walk_at "mine sB"; walk_at "mine ld"))); (all_goals try walk_at "mine fd")))
  rename IsRange _ _ _ _ _ _ _ _ => hR
  rename LIt _ _ _ => hO
  rename Fr _ _ _ _ => F
  rename News _ _ _ _ => N
  rename _ < (_ : Addr) => hLI
  rename_i I _ _ _ _ _ _ _ _ _ _ _ _
  refine zr_src rfl hR (small_up k (by omega)) (by omega) h64 F N hO hl (all_cons (Nat.ne_of_lt hLI) all_nil) ?_
  (try clear hR; try clear hO; try clear F; try clear N)
  rintro D h₁ tk₁ tups oI hP hU hlen hDt hDn hID hO F N
  have hDc := hDn _ (List.mem_cons_self ..)
  (try clear hDn)
  have I0 := ninv_start (up := true) (k := k) hP hlen (by omega) hS hU
  rw [show dc true * (k : Int) = k by simp [dc]] at I0
  have hus0 : (tups.map fun q => Value.ref q.1).length = k := by rw [List.length_map, hlen]
  have htu0 : ∀ u ∈ tups.map (fun q => Value.ref q.1), IsTu tups u := fun u hu => I0.tu u ((heapify_perm _).mem_iff.mpr hu)
  generalize (tups.map fun q => Value.ref q.1) = us₀ at *
  (((repeat' (first | (k_unfold; walk_at "mine cl") | (walk_at "mine sB"; walk_at "mine ld"))); (all_goals try walk_at "mine fd")))
  rename Fr _ _ _ _ => F₁
  rename News _ _ _ _ => N₁
  refine fn_call (rest := _ :: (tups ++ [_])) (heapifyM_fn w (ltOn_tup w tups) D us₀ k htu0 (by omega)) (by assumption) (by assumption) F₁ N₁ (all_cons (.head _) all_nil) (ro_tups N₁ tups_sub (rest_ne hID hDt hDc)) (rest_off (rest_ne hID hDt hDc)) (by omega) (by omega) (un_e ?_)
  rintro h₂ tk₂ F₂ N₂ -
  (try clear F₁; try clear N₁)
  dsimp only [List.cons_append, List.nil_append] at N₂
  rw [← dlt_true] at N₂
  generalize heapify (dlt true tups) us₀ = us at *
  (try clear hus0; try clear htu0)
  obtain ⟨T, us', b, tb, xo, uo, hus, hTm, htop⟩ := ninv_head I0 (by omega)
  rw [hus] at N₂
  (((repeat' (first | (k_unfold; walk_at "mine cl") | (walk_at "mine sB"; walk_at "mine ld"))); (all_goals try walk_at "mine fd")))
  rename Fr _ _ _ _ => F₁
  rename News _ _ _ _ => N₁
  refine For_invVF F₁ (by rfl) (by rfl) ?_ (fun _ => rfl) PassesOwn.never
  (((repeat' (first | (k_unfold; walk_at "mine cl") | (walk_at "mine sB"; walk_at "mine ld"))); (all_goals try walk_at "mine fd")))
  refine my_forIt (k := k) (news := (D, listOf us.toArray k) :: (tups ++ [(L + 1, oc)]))
    (InvSm D L I oc vs k true 217)
    rfl F₁ (news_swap (hus ▸ N₁)) ?off hO hl (by omega) ⟨us, tups, k, t, b, tb, rfl, I0, htop, hDt, ?nm⟩ ?turn ?done
  case nm => ((repeat' (first | exact all_nil | (refine all_cons ?_ ?_; (focus (with_unfolding_all rfl))))))
  case off => exact iter_off hID hDt hLI
  case turn =>
    (try clear F₂; try clear F₁; try clear N₁; try clear N₂)
    rintro i m₁ nw h₃ tk₃ oI' hi hoff ⟨us, tups, ord, to, b, tb, rfl, IN, htop, hDt, hm⟩ F₃ N₃
    replace F₃ := fr_ov F₃ (names_not hm (by ((repeat' (first | exact all_nil | (refine all_cons ?_ ?_; (focus (dsimp only; decide))))))))
    (try clear hm)
    obtain ⟨eb, et, heb⟩ := hS _ (getD_mem (vs := vs) (j := k + i) hi)
    rw [heb] at F₃
    (((repeat' (first | (k_unfold; walk_at "mine cl") | (walk_at "mine sB"; walk_at "mine ld"))); (all_goals try walk_at "mine fd")))
    · rename blt _ _ = true => hlt
      rename Fr _ _ _ _ => F₄
      rename News _ _ _ _ => N₄
      rename _ ∧ _ => hlts
      obtain ⟨-, hDT, hAT⟩ := hlts
      rename_i T₁ h₄
      have hfresh : ∀ q ∈ tups, q.1 ≠ T₁ := fun q hq => Nat.ne_of_lt (allLt_mem hAT q (List.mem_append_left _ hq))
      have IN' := ninv_yes (b := eb) (t := et) (u := to) IN (by omega) (by rw [htop]; exact hlt) hfresh
      replace N₄ : News _ _ _ ((D, listOf us.toArray k) :: (T₁, pairObj (.bytes eb et) (.int ord to)) :: (I, oI') :: (tups ++ [(L + 1, oc)])) := news_up3 N₄
      replace N₄ := news_in N₄
      have hDt' : ∀ p ∈ tups ++ [(T₁, pairObj (.bytes eb et) (.int ord to))], D < p.1 := fun p hp => (List.mem_append.mp hp).elim (hDt p) fun hp => by rw [List.mem_singleton.mp hp]; exact hDT
      have hus' : ∀ v ∈ us, IsTu (tups ++ [(T₁, pairObj (.bytes eb et) (.int ord to))]) v := fun v hv => isTu_app (IN.tu v hv)
      have hT₁ : IsTu (tups ++ [(T₁, pairObj (.bytes eb et) (.int ord to))]) (.ref T₁) := ninv_new hfresh
      generalize tups ++ [(T₁, pairObj (.bytes eb et) (.int ord to))] = tups' at *
      refine fn_call (rest := _ :: (tups' ++ [_])) (heapreplaceM_fn w (ltOn_tup w tups') D us k (.ref T₁) hus' hT₁ (by rw [IN.len]; omega) (by rw [IN.len]; omega)) (by assumption) (by assumption) F₄ N₄ (all_cons (.head _) all_nil) (ro_tups N₄ tups_sub (rest_ne hID hDt' hDc)) (rest_off (rest_ne hID hDt' hDc)) (by omega) (by omega) (un_e ?_)
      rintro h₅ tk₅ F₅ N₅ -
      (try clear F₄; try clear N₄)
      dsimp only [List.cons_append, List.nil_append] at N₅
      rw [← dlt_true] at N₅
      generalize replaced (dlt true tups') us (.ref T₁) = us₂ at *
      obtain ⟨T₂, us₂', b₂, tb₂, xo₂, uo₂, hus₂, hTm₂, htop₂⟩ := ninv_head IN' (by omega)
      subst hus₂
      (((repeat' (first | (k_unfold; walk_at "mine cl") | (walk_at "mine sB"; walk_at "mine ld"))); (all_goals try walk_at "mine fd")))
      refine HeldP.mk ⟨(D, listOf (Value.ref T₂ :: us₂').toArray k) :: (tups' ++ [(L + 1, oc)]), .tail _ (.head _), sub_skip, iter_off hID hDt' hLI, Value.ref T₂ :: us₂', tups', ord + 1, ?to3, b₂, tb₂, rfl, ?_, htop₂, hDt', ?nm3⟩
      case nm3 => ((repeat' (first | exact all_nil | (refine all_cons ?_ ?_; (focus (with_unfolding_all rfl))))))
      rw [← Nat.add_assoc, take_snoc hi heb]
      exact IN'
    · rename blt _ _ = false => hlt
      refine HeldP.mk ⟨(D, listOf us.toArray k) :: (tups ++ [(L + 1, oc)]), .head _, fun p hp => .tail _ hp, hoff, us, tups, ord, to, b, tb, rfl, ?_, htop, hDt, ?nm2⟩
      case nm2 => ((repeat' (first | exact all_nil | (refine all_cons ?_ ?_; (focus (with_unfolding_all rfl))))))
      rw [← Nat.add_assoc, take_snoc hi heb]
      exact ninv_no IN (by omega) (by rw [htop]; exact hlt)
  case done =>
    (try clear F₂; try clear F₁; try clear N₁; try clear N₂)
    rintro m₁ nw h₃ tk₃ ⟨us, tups, ord, to, b, tb, rfl, IN, htop, hDt, hm⟩ F₃ N₃
    replace F₃ := fr_ov F₃ hm
    (try clear hm)
    (((repeat' (first | (k_unfold; walk_at "mine cl") | (walk_at "mine sB"; walk_at "mine ld"))); (all_goals try walk_at "mine fd")))
    show wpAny _ _ (call (.builtin "list.sort") [.ref D]) _ _ _
    refine my_tsort F₃ N₃ (rest_ne2 hDt hDc) IN.tu IN.dist (fun q hq => List.mem_append_left _ hq) (by rw [IN.len]; omega) (by rw [IN.len]; omega) fun out h₄ c hpo hso F₄ N₄ => ?_
    (try clear F₃; try clear N₃)
    have hSo : ∀ v ∈ out, IsTu tups v := fun v hv => IN.tu v (hpo.mem_iff.mp hv)
    have hlo : out.length = k := hpo.length_eq.trans IN.len
    (((repeat' (first | (k_unfold; walk_at "mine cl") | (walk_at "mine sC"; walk_at "mine ld"))); (all_goals try walk_at "mine fd")))
    refine my_firsts (tups := tups) (D := D) (out := out) (c := c) (by k_asm) (by k_asm) (by with_unfolding_all rfl) (by decide) (by rfl) (by decide) (by rfl) (by rfl) (by decide) (by decide) (by rfl) (by k_mem) ?htn ?hS ?hsz ?hit ?_
    case htn => exact fun q hq => .tail _ (List.mem_append_left _ hq)
    case hS => exact hSo
    case hsz => rw [sizeLine_eq]; omega
    case hit => intro R hR; k_dflt walk1; exact hR
    rintro R h₅ tk₅ ys hF F₅ N₅ hR
    (try clear F₄; try clear N₄)
    (((repeat' (first | (k_unfold; walk_at "mine cl") | (walk_at "mine sB"; walk_at "mine ld"))); (all_goals try walk_at "mine fd")))
    refine HeldP.mk ⟨_, ⟨R, ys, rfl, rfl, by rw [hF.1, hlo], fun y hy => ?_, ?_⟩, fun q hq => by rw [List.mem_singleton.mp hq]; exact .head _⟩
    · obtain ⟨j, hj, rfl⟩ := List.getElem_of_mem hy
      have := (hF.2 j (by rw [← hF.1]; exact hj)).1
      rw [List.getD_eq_getElem?_getD, List.getElem?_eq_getElem hj] at this
      exact this
    · rw [(hF.2 (k - 1) (by omega)).2]
      have := ninv_end IN (by omega) hpo (hso.imp fun h => tlt_key h)
      rw [show k + (vs.length - k) = vs.length by omega, List.take_length] at this
      exact this
end
section
set_option maxRecDepth 100000
local macro_rules | `(tactic| walk_at "exec Assign cons ListComp") => `(tactic| (k_here; lcg_calm; k_dflt (refine zr_comp (F₀ := by k_asm) (by with_unfolding_all rfl) (by with_unfolding_all rfl) (by decide) (by rfl) (by decide) (by rfl) (by rfl) (by decide) (by decide) (by decide) (by rfl) (by rfl) ?_)))
theorem dlt_false (tups : Led) : dlt false tups = tlt tups := rfl
set_option maxHeartbeats 8000000 in
theorem nlargest_fn (w : World) (l : Addr) (vs : List Value) (n k : Nat) (t : Tok) (hS : ∀ v ∈ vs, IsB v) (h3 : 2 ≤ k) (hk : k < vs.length) (h64 : vs.length < 64) :
    FnR w 264 8 ⟨[.int (k : Nat) t, .ref l], []⟩ [(l, listOf vs.toArray n)] [] (fun v o => ∃ (R : Addr) (ys : List Value), v = .ref R ∧ o = [(R, listOf ys.toArray ys.length)] ∧ ys.length = k ∧ (∀ y ∈ ys, IsB y) ∧ Rank blt (vs.length - k) (bk (ys.getD (k - 1) .none)) (vs.map bk)) := by
  walk_at "mine enterC"
  rename_i g L X T' F' hro hdp hun _ oc hcd N'
  have hl : Heap.IsList _ l vs.toArray := ⟨_, hro (l, listOf vs.toArray n) (.head _), rfl, n, rfl⟩
  (((repeat' (first | (k_unfold; walk_at "mine cl") | (walk_at "mine sB"; walk_at "mine ld"))); (all_goals try walk_at "mine fd")))
  rename IsRange _ _ _ _ _ _ _ _ => hR
  rename LIt _ _ _ => hO
  rename Fr _ _ _ _ => F
  rename News _ _ _ _ => N
  rename _ < (_ : Addr) => hLI
  rename_i I _ _ _ _ _ _ _ _ _ _ _ _
  refine zr_src rfl hR (small_dn k (by omega)) (by omega) h64 F N hO hl (all_cons (Nat.ne_of_lt hLI) all_nil) ?_
  (try clear hR; try clear hO; try clear F; try clear N)
  rintro D h₁ tk₁ tups oI hP hU hlen hDt hDn hID hO F N
  have hDc := hDn _ (List.mem_cons_self ..)
  (try clear hDn)
  have I0 := ninv_start (up := false) (k := k) hP hlen (by omega) hS hU
  rw [show dc false * (k : Int) = -k by simp [dc]] at I0
  have hus0 : (tups.map fun q => Value.ref q.1).length = k := by rw [List.length_map, hlen]
  have htu0 : ∀ u ∈ tups.map (fun q => Value.ref q.1), IsTu tups u := fun u hu => I0.tu u ((heapify_perm _).mem_iff.mpr hu)
  generalize (tups.map fun q => Value.ref q.1) = us₀ at *
  (((repeat' (first | (k_unfold; walk_at "mine cl") | (walk_at "mine sB"; walk_at "mine ld"))); (all_goals try walk_at "mine fd")))
  rename Fr _ _ _ _ => F₁
  rename News _ _ _ _ => N₁
  refine fn_call (rest := _ :: (tups ++ [_])) (heapify_fn w (ltOn_tup w tups) D us₀ k htu0 (by omega)) (by assumption) (by assumption) F₁ N₁ (all_cons (.head _) all_nil) (ro_tups N₁ tups_sub (rest_ne hID hDt hDc)) (rest_off (rest_ne hID hDt hDc)) (by omega) (by omega) (un_e ?_)
  rintro h₂ tk₂ F₂ N₂ -
  (try clear F₁; try clear N₁)
  dsimp only [List.cons_append, List.nil_append] at N₂
  rw [← dlt_false] at N₂
  generalize heapify (dlt false tups) us₀ = us at *
  (try clear hus0; try clear htu0)
  obtain ⟨T, us', b, tb, xo, uo, hus, hTm, htop⟩ := ninv_head I0 (by omega)
  rw [hus] at N₂
  (((repeat' (first | (k_unfold; walk_at "mine cl") | (walk_at "mine sB"; walk_at "mine ld"))); (all_goals try walk_at "mine fd")))
  rename Fr _ _ _ _ => F₁
  rename News _ _ _ _ => N₁
  refine For_invVF F₁ (by rfl) (by rfl) ?_ (fun _ => rfl) PassesOwn.never
  (((repeat' (first | (k_unfold; walk_at "mine cl") | (walk_at "mine sB"; walk_at "mine ld"))); (all_goals try walk_at "mine fd")))
  refine my_forIt (k := k) (news := (D, listOf us.toArray k) :: (tups ++ [(L + 1, oc)]))
    (InvSm D L I oc vs k false 203)
    rfl F₁ (news_swap (hus ▸ N₁)) ?off hO hl (by omega) ⟨us, tups, -(k : Int), ?to0, b, tb, rfl, I0, htop, hDt, ?nm⟩ ?turn ?done
  case nm => ((repeat' (first | exact all_nil | (refine all_cons ?_ ?_; (focus (with_unfolding_all rfl))))))
  case off => exact iter_off hID hDt hLI
  case turn =>
    (try clear F₂; try clear F₁; try clear N₁; try clear N₂)
    rintro i m₁ nw h₃ tk₃ oI' hi hoff ⟨us, tups, ord, to, b, tb, rfl, IN, htop, hDt, hm⟩ F₃ N₃
    replace F₃ := fr_ov F₃ (names_not hm (by ((repeat' (first | exact all_nil | (refine all_cons ?_ ?_; (focus (dsimp only; decide))))))))
    (try clear hm)
    obtain ⟨eb, et, heb⟩ := hS _ (getD_mem (vs := vs) (j := k + i) hi)
    rw [heb] at F₃
    (((repeat' (first | (k_unfold; walk_at "mine cl") | (walk_at "mine sB"; walk_at "mine ld"))); (all_goals try walk_at "mine fd")))
    · rename blt _ _ = true => hlt
      rename Fr _ _ _ _ => F₄
      rename News _ _ _ _ => N₄
      rename _ ∧ _ => hlts
      obtain ⟨-, hDT, hAT⟩ := hlts
      rename_i T₁ h₄
      have hfresh : ∀ q ∈ tups, q.1 ≠ T₁ := fun q hq => Nat.ne_of_lt (allLt_mem hAT q (List.mem_append_left _ hq))
      have IN' := ninv_yes (b := eb) (t := et) (u := to) IN (by omega) (by rw [htop]; exact hlt) hfresh
      replace N₄ : News _ _ _ ((D, listOf us.toArray k) :: (T₁, pairObj (.bytes eb et) (.int ord to)) :: (I, oI') :: (tups ++ [(L + 1, oc)])) := news_up3 N₄
      replace N₄ := news_in N₄
      have hDt' : ∀ p ∈ tups ++ [(T₁, pairObj (.bytes eb et) (.int ord to))], D < p.1 := fun p hp => (List.mem_append.mp hp).elim (hDt p) fun hp => by rw [List.mem_singleton.mp hp]; exact hDT
      have hus' : ∀ v ∈ us, IsTu (tups ++ [(T₁, pairObj (.bytes eb et) (.int ord to))]) v := fun v hv => isTu_app (IN.tu v hv)
      have hT₁ : IsTu (tups ++ [(T₁, pairObj (.bytes eb et) (.int ord to))]) (.ref T₁) := ninv_new hfresh
      generalize tups ++ [(T₁, pairObj (.bytes eb et) (.int ord to))] = tups' at *
      refine fn_call (rest := _ :: (tups' ++ [_])) (heapreplace_fn w (ltOn_tup w tups') D us k (.ref T₁) hus' hT₁ (by rw [IN.len]; omega) (by rw [IN.len]; omega)) (by assumption) (by assumption) F₄ N₄ (all_cons (.head _) all_nil) (ro_tups N₄ tups_sub (rest_ne hID hDt' hDc)) (rest_off (rest_ne hID hDt' hDc)) (by omega) (by omega) (un_e ?_)
      rintro h₅ tk₅ F₅ N₅ -
      (try clear F₄; try clear N₄)
      dsimp only [List.cons_append, List.nil_append] at N₅
      rw [← dlt_false] at N₅
      generalize replaced (dlt false tups') us (.ref T₁) = us₂ at *
      obtain ⟨T₂, us₂', b₂, tb₂, xo₂, uo₂, hus₂, hTm₂, htop₂⟩ := ninv_head IN' (by omega)
      subst hus₂
      (((repeat' (first | (k_unfold; walk_at "mine cl") | (walk_at "mine sB"; walk_at "mine ld"))); (all_goals try walk_at "mine fd")))
      refine HeldP.mk ⟨(D, listOf (Value.ref T₂ :: us₂').toArray k) :: (tups' ++ [(L + 1, oc)]), .tail _ (.head _), sub_skip, iter_off hID hDt' hLI, Value.ref T₂ :: us₂', tups', ord - 1, ?to3, b₂, tb₂, rfl, ?_, htop₂, hDt', ?nm3⟩
      case nm3 => ((repeat' (first | exact all_nil | (refine all_cons ?_ ?_; (focus (with_unfolding_all rfl))))))
      rw [← Nat.add_assoc, take_snoc hi heb]
      exact IN'
    · rename blt _ _ = false => hlt
      refine HeldP.mk ⟨(D, listOf us.toArray k) :: (tups ++ [(L + 1, oc)]), .head _, fun p hp => .tail _ hp, hoff, us, tups, ord, to, b, tb, rfl, ?_, htop, hDt, ?nm2⟩
      case nm2 => ((repeat' (first | exact all_nil | (refine all_cons ?_ ?_; (focus (with_unfolding_all rfl))))))
      rw [← Nat.add_assoc, take_snoc hi heb]
      exact ninv_no IN (by omega) (by rw [htop]; exact hlt)
  case done =>
    (try clear F₂; try clear F₁; try clear N₁; try clear N₂)
    rintro m₁ nw h₃ tk₃ ⟨us, tups, ord, to, b, tb, rfl, IN, htop, hDt, hm⟩ F₃ N₃
    replace F₃ := fr_ov F₃ hm
    (try clear hm)
    (((repeat' (first | (k_unfold; walk_at "mine cl") | (walk_at "mine sB"; walk_at "mine ld"))); (all_goals try walk_at "mine fd")))
    refine method_kw1 ?_
    (((repeat' (first | (k_unfold; walk_at "mine cl") | (walk_at "mine sB"; walk_at "mine ld"))); (all_goals try walk_at "mine fd")))
    show wpAny _ _ (call (.builtin "list.sort") [.ref D] [(Str.ofString "reverse", .bool true)]) _ _ _
    refine my_tsortR F₃ N₃ (rest_ne2 hDt hDc) IN.tu IN.dist (fun q hq => List.mem_append_left _ hq) (by rw [IN.len]; omega) (by rw [IN.len]; omega) fun out h₄ c hpo hso F₄ N₄ => ?_
    (try clear F₃; try clear N₃)
    have hSo : ∀ v ∈ out, IsTu tups v := fun v hv => IN.tu v (hpo.mem_iff.mp hv)
    have hlo : out.length = k := hpo.length_eq.trans IN.len
    (((repeat' (first | (k_unfold; walk_at "mine cl") | (walk_at "mine sC"; walk_at "mine ld"))); (all_goals try walk_at "mine fd")))
    refine my_firsts (tups := tups) (D := D) (out := out) (c := c) (by k_asm) (by k_asm) (by with_unfolding_all rfl) (by decide) (by rfl) (by decide) (by rfl) (by rfl) (by decide) (by decide) (by rfl) (by k_mem) ?htn ?hS ?hsz ?hit ?_
    case htn => exact fun q hq => .tail _ (List.mem_append_left _ hq)
    case hS => exact hSo
    case hsz => rw [sizeLine_eq]; omega
    case hit => intro R hR; k_dflt walk1; exact hR
    rintro R h₅ tk₅ ys hF F₅ N₅ hR
    (try clear F₄; try clear N₄)
    (((repeat' (first | (k_unfold; walk_at "mine cl") | (walk_at "mine sB"; walk_at "mine ld"))); (all_goals try walk_at "mine fd")))
    refine HeldP.mk ⟨_, ⟨R, ys, rfl, rfl, by rw [hF.1, hlo], fun y hy => ?_, ?_⟩, fun q hq => by rw [List.mem_singleton.mp hq]; exact .head _⟩
    · obtain ⟨j, hj, rfl⟩ := List.getElem_of_mem hy
      have := (hF.2 j (by rw [← hF.1]; exact hj)).1
      rw [List.getD_eq_getElem?_getD, List.getElem?_eq_getElem hj] at this
      exact this
    · rw [(hF.2 (k - 1) (by omega)).2]
      have := ninv_end IN (by omega) hpo (hso.imp fun h => tlt_key h)
      rw [show k + (vs.length - k) = vs.length by omega, List.take_length] at this
      have := rank_flip this
      rw [List.length_map, show vs.length - 1 - (k - 1) = vs.length - k by omega] at this
      exact this
end
local macro_rules | `(tactic| walk_at "subscriptTail Name Constant ref int") => `(tactic| first | ((with_reducible show wpAny _ _ (subscriptTail _ _ (Value.ref _) (Value.int _ _)) _ _ _); k_dflt (refine' my_sub0 ?N ?m ?_; (case N => k_asm); (case m => k_mem); k_whole)) | ((with_reducible show wpAny _ _ (subscriptTail _ _ (Value.ref _) (Value.int _ _)) _ _ _); k_dflt (refine' my_tup0 ?N ?m ?_; (case N => k_asm); (case m => (repeat (first | assumption | exact List.mem_append_left _ (by assumption) | refine List.mem_cons_of_mem _ ?_))); k_whole)) | ((with_reducible show wpAny _ _ (subscriptTail _ _ (Value.ref _) (Value.int _ _)) _ _ _); k_dflt (refine' my_sub ?N ?m ?a ?b ?c ?_; (case N => k_asm); (case m => k_mem); (case a => omega); (case b => (first | omega | (simp only [List.length_set, List.length_dropLast]; omega))); (case c => omega); k_whole)))
local macro_rules | `(tactic| walk_at "mine sY") => `(tactic| (walk_at "mine sC"; (fail_if_success (with_reducible show wpAny _ _ (exec (Stmt.Assign _ (Expr.ListComp _ _ _ _) _) _) _ _ _)); (fail_if_success (with_reducible show wpAny _ _ (compareOp CmpOp.NotEq _ _) _ _ _)); (fail_if_success (with_reducible show wpAny _ _ (compareOp CmpOp.Eq _ _) _ _ _)); (fail_if_success (with_reducible show LCg.CompEnd _ _ _ _ _ _ _ _ _ _ _ _ _ _)); (fail_if_success (with_reducible show LCg.CompSrc _ _ _ _ _ _ _ _ _ _ _ _ _ _))))
local macro_rules | `(tactic| walk_at "mine sZ") => `(tactic| (walk_at "mine sY"; (fail_if_success (with_reducible show wpAny _ _ (subscriptTail _ _ (Value.ref _) (Value.int (-1) _)) _ _ _))))
local macro_rules | `(tactic| walk_at "subscriptTail Name BinOp ref int") => `(tactic| ((with_reducible show wpAny _ _ (subscriptTail _ _ (Value.ref _) (Value.int _ _)) _ _ _); k_dflt (refine' my_sub ?N ?m ?a ?b ?c ?_; (case N => k_asm); (case m => k_mem); (case a => omega); (case b => (first | omega | (simp only [List.length_set, List.length_dropLast]; omega))); (case c => omega); k_whole)))
section
set_option maxRecDepth 100000
local macro_rules | `(tactic| walk_at "binaryOp FloorDiv int int") => `(tactic| (k_dflt (refine' my_fdivI (k := 2) ?c ?k ?z ?y ?_; (case c => exact rfl); (case k => decide); (case z => omega); (case y => decide); k_whole); intro t'))
set_option maxHeartbeats 8000000 in
theorem heaped_fn (w : World) (l : Addr) (vs : List Value) (n : Nat) (b1 b2 : Array UInt8) (t1 t2 : Tok) (hS : ∀ v ∈ vs, IsB v) (h3 : 6 ≤ vs.length) (h64 : vs.length < 64)
    (hr1 : Rank blt ((vs.length - 1) / 2) b1.toList (vs.map bk)) (hr2 : Rank blt (vs.length / 2) b2.toList (vs.map bk)) :
    FnR w 294 12 ⟨[.ref l, .bytes b1 t1, .bytes b2 t2], []⟩ [(l, listOf vs.toArray n)] [] (fun v o => v = .bool true ∧ o = []) := by
  walk_at "mine enterC"
  rename_i h0 tk0 g L X T' F' hro hdp hun _ oc0 hcd N'
  have hl : Heap.IsList _ l vs.toArray := ⟨_, hro (l, listOf vs.toArray n) (.head _), rfl, n, rfl⟩
  have hLc : L + 1 < h0.objs.size + 1 := Nat.lt_succ_of_lt (Heap.lt_size (N' _ (List.mem_cons_self ..)).1)
  (((repeat' (first | (k_unfold; walk_at "mine cl") | (walk_at "mine sZ"; walk_at "mine ld"))); (all_goals try walk_at "mine fd")))
  rename Fr _ _ _ _ => F
  rename News _ _ _ _ => N
  rename_i hA Tp h5 hltT h6 h7 h₁ oc hcell _
  (try clear F'; try clear N')
  (try dsimp only at N hltT ⊢)
  simp only [List.cons_append, List.nil_append, slicePick_all] at N
  generalize h0.objs.size + 1 = D₁ at *
  have hoff₁ : ∀ q ∈ ([(Tp, { cls := .type "tuple", data := .seq #[.int (vs.length : Nat) (tk0 + 1), .ref D₁] }), (L + 1, oc)] : Led), q.1 ≠ D₁ := all_cons (Nat.ne_of_gt hltT.1) (all_cons (Nat.ne_of_lt hLc) all_nil)
  replace N : News g L h₁ ((D₁, listOf vs.toArray 0) :: [(Tp, _), (L + 1, oc)]) := news_swap N
  refine fn_call (rest := [(Tp, _), (L + 1, oc)]) (heapify_fn w (ltOn_bytes w) D₁ vs 0 hS (by omega)) (by assumption) (by assumption) F N (all_cons (.head _) all_nil) all_nil (rest_off hoff₁) (by omega) (by omega) (un_e ?_)
  rintro h₂ tk₂ F₂ N₂ -
  (try clear F; try clear N)
  dsimp only [List.cons_append, List.nil_append] at N₂
  have P0 := pops_start hS
  generalize heapify vlt vs = hv at *
  (((repeat' (first | (k_unfold; walk_at "mine cl") | (walk_at "mine sZ"; walk_at "mine ld"))); (all_goals try walk_at "mine fd")))
  ((lcg_calm; k_dflt (refine LCg.Assign_ListComp_U (F₀ := by k_asm) (by rfl) (by with_unfolding_all rfl) (by with_unfolding_all rfl) (by decide) (by rfl) (by decide) (by rfl) (by rfl) (by rfl) ?_); (((repeat' (first | (k_unfold; walk_at "mine cl") | (walk_at "mine sZ"; walk_at "mine ld"))); (all_goals try walk_at "mine fd")))))
  rename IsRange _ _ _ _ _ _ _ _ => hR
  rename Fr _ _ _ _ => F
  rename News _ _ _ _ => N
  have hsm := small_up (vs.length / 2 + 1) (by omega)
  have hR' : IsRange _ _ 0 ((vs.length / 2 + 1 : Nat) : Int) 1 _ _ _ := hR
  refine LCg.CompSrc.range (n := vs.length / 2 + 1) (by rfl) F N hR' hsm.1 hsm.2 (by rw [sizeLine_eq]; omega) fun g' => ?_
  refine comp_ind (fun i ys nw => ∃ hv, Pops vs hv ys i ∧ nw = (D₁, listOf hv.toArray i) :: [(Tp, { cls := .type "tuple", data := .seq #[.int (vs.length : Nat) (tk0 + 1), .ref D₁] }), (L + 1, oc)]) ⟨hv, P0, rfl⟩ ?fin ?step
  case step =>
    (try clear F; try clear N; try clear P0)
    rintro i ys nw hi ⟨hv, P, rfl⟩ v Ia oI C oC D m₂ h tk E' hv' hC hx F N off ne
    (((repeat' (first | (k_unfold; walk_at "mine cl") | (walk_at "mine sZ"; walk_at "mine ld"))); (all_goals try walk_at "mine fd")))
    have hlen := pops_len P
    have hSv := pops_all P hS
    replace N : News _ _ _ ((D₁, listOf hv.toArray i) :: [(Ia, oI), (C, oC), (D, LCg.lst ys), (Tp, { cls := .type "tuple", data := .seq #[.int (vs.length : Nat) (tk0 + 1), .ref D₁] }), (L + 1, oc)]) := news_4th N
    simp only [LCg.Off3, and_true] at off
    have hoff₂ : ∀ q ∈ ([(Ia, oI), (C, oC), (D, LCg.lst ys), (Tp, { cls := .type "tuple", data := .seq #[.int (vs.length : Nat) (tk0 + 1), .ref D₁] }), (L + 1, oc)] : Led), q.1 ≠ D₁ := all_cons (Ne.symm off.1.1) (all_cons (Ne.symm off.1.2.1) (all_cons (Ne.symm off.1.2.2) hoff₁))
    refine fn_call (rest := [(Ia, oI), (C, oC), (D, LCg.lst ys), (Tp, _), (L + 1, oc)]) (heappop_fn w (ltOn_bytes w) D₁ hv i hSv (by omega) (by omega)) (by assumption) (by assumption) F N (all_cons (.head _) all_nil) all_nil (rest_off hoff₂) (by omega) (by omega) (un_e ?_)
    rintro h₅ tk₅ F₅ N₅ -
    dsimp only [List.cons_append, List.nil_append] at N₅
    refine LCg.CompEnd.intro F₅ (news_back N₅) ((D₁, listOf (popped vlt hv).toArray (i + 1)) :: [(Tp, _), (L + 1, oc)]) (fun p hp => hp) (by simp only [LCg.Off3, and_true]; exact off) trivial ?_
    exact ⟨popped vlt hv, pops_step hS P (by omega), rfl⟩
  case fin =>
    (try clear F; try clear N; try clear P0)
    rintro ys nw ⟨hv, P, rfl⟩
    unfold LCg.FinA
    intro D h₃ tk₃ F N off
    simp only [LCg.Off1, and_true] at off
    have hlen := pops_len P
    have hys := P.len
    replace N : News _ _ _ ((D, listOf ys.toArray ys.length) :: _) := N
    have hysB : ∀ v ∈ ys, IsB v := fun v hv' => hS v (P.perm.mem_iff.mp (List.mem_append_left _ hv'))
    have e1 : bk (ys.getD ((vs.length - 1) / 2) .none) = b1.toList := rank_unique (P.rank _ (by omega)) hr1
    have e2 : bk (ys.getD (vs.length / 2) .none) = b2.toList := rank_unique (P.rank _ (by omega)) hr2
    (((repeat' (first | (k_unfold; walk_at "mine cl") | (walk_at "mine sZ"; walk_at "mine ld"))); (all_goals try walk_at "mine fd")))
    rename News _ _ _ _ => N₄
    refine my_listne2 N₄ (.tail _ (.head _)) (.head _) ?bx ?by_ (by show (arnd _ _ _ _).units < _; dsimp only [arnd]; omega) ?e1 ?e2 ?_
    case bx => ((repeat' (first | exact all_nil | (refine all_cons ?_ ?_) | exact ⟨_, _, rfl⟩ | exact all_getD (by assumption) (by omega) | assumption)))
    case by_ => ((repeat' (first | exact all_nil | (refine all_cons ?_ ?_) | exact ⟨_, _, rfl⟩ | exact all_getD (by assumption) (by omega) | assumption)))
    case e1 => rw [Int.toNat_natCast, show ((vs.length : Int) - 1).toNat = vs.length - 1 by omega]; exact e1
    case e2 => rw [Int.toNat_natCast, Int.toNat_natCast]; exact e2
    (((repeat' (first | (k_unfold; walk_at "mine cl") | (walk_at "mine sZ"; walk_at "mine ld"))); (all_goals try walk_at "mine fd")))
    rename Fr _ _ _ _ => F₅
    refine fn_call (rest := _ :: _ :: _ :: _ :: _ :: [_]) (nsmallest_fn w l vs n (((vs.length : Int) + 1).toNat / 2) _ hS (by omega) (by omega) h64) (by assumption) (by assumption) F₅ N₄ all_nil (ro_keep2 F₅ hro) rest_all (by omega) (by omega) (un_23 ?_)
    rintro R₁ zs hzl hzB hzR h₅ tk₅ F₆ N₆ -
    (try clear F₅; try clear N₄)
    dsimp only [List.cons_append, List.nil_append] at N₆
    (((repeat' (first | (k_unfold; walk_at "mine cl") | (walk_at "mine sZ"; walk_at "mine ld"))); (all_goals try walk_at "mine fd")))
    refine kba_turn (value' := PySem.Expr.Name (PySem.Str.ofString "_") ⟨0, 0, 0, 0⟩) (fun _ => rfl) ?_
    refine my_subBack N₆ (.head _) (by omega) (by omega) ?_
    (((repeat' (first | (k_unfold; walk_at "mine cl") | (walk_at "mine sZ"; walk_at "mine ld"))); (all_goals try walk_at "mine fd")))
    refine my_bne (hzB _ (getD_mem (by omega))) ⟨b1, t1, rfl⟩ ?_
    rw [decide_eq_true (show bk (zs.getD (zs.length - 1) .none) = bk (.bytes b1 t1) by
      rw [hzl]
      refine rank_unique hzR ?_
      rw [show ((vs.length : Int) + 1).toNat / 2 - 1 = (vs.length - 1) / 2 by omega]
      exact hr1)]
    (((repeat' (first | (k_unfold; walk_at "mine cl") | (walk_at "mine sZ"; walk_at "mine ld"))); (all_goals try walk_at "mine fd")))
    rename Fr _ _ _ _ => F₇
    rename News _ _ _ _ => N₇
    refine fn_call (rest := _ :: _ :: _ :: _ :: _ :: _ :: [_]) (nlargest_fn w l vs n (((vs.length : Int) + 1).toNat / 2) _ hS (by omega) (by omega) h64) (by assumption) (by assumption) F₇ N₇ all_nil (ro_keep2 F₇ hro) rest_all (by omega) (by omega) (un_23 ?_)
    rintro R₂ zs₂ hzl₂ hzB₂ hzR₂ h₈ tk₈ F₈ N₈ -
    (try clear F₇; try clear N₇)
    dsimp only [List.cons_append, List.nil_append] at N₈
    (((repeat' (first | (k_unfold; walk_at "mine cl") | (walk_at "mine sZ"; walk_at "mine ld"))); (all_goals try walk_at "mine fd")))
    refine kba_turn (value' := PySem.Expr.Name (PySem.Str.ofString "_") ⟨0, 0, 0, 0⟩) (fun _ => rfl) ?_
    refine my_subBack N₈ (.head _) (by omega) (by omega) ?_
    (((repeat' (first | (k_unfold; walk_at "mine cl") | (walk_at "mine sZ"; walk_at "mine ld"))); (all_goals try walk_at "mine fd")))
    refine my_bne (hzB₂ _ (getD_mem (by omega))) ⟨b2, t2, rfl⟩ ?_
    rw [decide_eq_true (show bk (zs₂.getD (zs₂.length - 1) .none) = bk (.bytes b2 t2) by
      rw [hzl₂]
      refine rank_unique hzR₂ ?_
      rw [show vs.length - ((vs.length : Int) + 1).toNat / 2 = vs.length / 2 by omega]
      exact hr2)]
    have hlt₈ := fun q hq => (show q.1 ≠ h₈.objs.size + 1 from Nat.ne_of_lt (Nat.lt_succ_of_lt (Heap.lt_size (N₈ q hq).1)))
    (((repeat' (first | (k_unfold; walk_at "mine cl") | (walk_at "mine sZ"; walk_at "mine ld"))); (all_goals try walk_at "mine fd")))
    rename Fr _ _ _ _ => F₉
    rename News _ _ _ _ => N₉
    (try dsimp only at N₉ F₉ ⊢)
    simp only [slicePick_all] at N₉
    generalize h₈.objs.size + 1 = D₂ at *
    refine fn_call (rest := _ :: _ :: _ :: _ :: _ :: _ :: _ :: [_]) (heapify_fn w (ltOn_bytes w) D₂ vs 0 hS (by omega)) (by assumption) (by assumption) F₉ N₉ (all_cons (.head _) all_nil) all_nil (rest_off hlt₈) (by omega) (by omega) (un_e ?_)
    rintro h₂ tk₂ Fa Na -
    (try clear F₉; try clear N₉)
    dsimp only [List.cons_append, List.nil_append] at Na
    (((repeat' (first | (k_unfold; walk_at "mine cl") | (walk_at "mine sZ"; walk_at "mine ld"))); (all_goals try walk_at "mine fd")))
    have hhl : (heapify vlt vs).length = vs.length := heapify_len vs
    have hhB : ∀ v ∈ heapify vlt vs, IsB v := fun v hv => hS v ((heapify_perm vs).mem_iff.mp hv)
    refine fn_call (rest := _ :: _ :: _ :: _ :: _ :: _ :: _ :: [_]) (heapreplace_fn w (ltOn_bytes w) D₂ (heapify vlt vs) 0 (.bytes b1 t1) hhB ⟨b1, t1, rfl⟩ (by omega) (by omega)) (by assumption) (by assumption) Fa Na (all_cons (.head _) all_nil) all_nil (rest_off hlt₈) (by omega) (by omega) (un_e ?_)
    rintro h₂ tk₂ Fb Nb -
    (try clear Fa; try clear Na)
    dsimp only [List.cons_append, List.nil_append] at Nb
    have hrp : (replaced vlt (heapify vlt vs) (.bytes b1 t1)).Perm ((heapify vlt vs).set 0 (.bytes b1 t1)) := replaced_perm (by omega)
    have hrl : (replaced vlt (heapify vlt vs) (.bytes b1 t1)).length = vs.length := by rw [hrp.length_eq, List.length_set, hhl]
    have hrB : ∀ v ∈ replaced vlt (heapify vlt vs) (.bytes b1 t1), IsB v := fun v hv => all_set hhB ⟨b1, t1, rfl⟩ v (hrp.mem_iff.mp hv)
    have hk1 := replaced_rank (x := .bytes b1 t1) hS hr1 (by omega) (by omega) (blt_irrefl _)
    have hk2 := replaced_rank (x := .bytes b1 t1) hS hr2 (by omega) (by omega) (rank_le hr1 hr2 (by omega))
    have hroot : bk ((heapify vlt vs).getD 0 .none) = bk (ys.getD 0 .none) := rank_unique (rank_root hS (by omega)) (P.rank 0 (by omega))
    have hrtB : IsB ((heapify vlt vs).getD 0 .none) := hhB _ (getD_mem (by omega))
    generalize (heapify vlt vs).getD 0 .none = rt at *
    generalize replaced vlt (heapify vlt vs) (.bytes b1 t1) = rv at *
    (((repeat' (first | (k_unfold; walk_at "mine cl") | (walk_at "mine sZ"; walk_at "mine ld"))); (all_goals try walk_at "mine fd")))
    refine my_beq hrtB (all_getD hysB (by omega)) ?_
    rw [decide_eq_true (show bk rt = bk (ys.getD (Int.toNat 0) .none) from hroot)]
    (((repeat' (first | (k_unfold; walk_at "mine cl") | (walk_at "mine sZ"; walk_at "mine ld"))); (all_goals try walk_at "mine fd")))
    rename Fr _ _ _ _ => Fc
    rename News _ _ _ _ => Nc
    refine fn_call (rest := _ :: _ :: _ :: _ :: _ :: _ :: _ :: [_]) (median_low_fn w D₂ rv 0 hrB (by omega) (by omega)) (by assumption) (by assumption) Fc Nc (all_cons (.head _) all_nil) all_nil (rest_off hlt₈) (by omega) (by omega) (un_p ?_)
    rintro out hop hos h₂ tk₂ Fd Nd -
    (try clear Fc; try clear Nc)
    dsimp only [List.cons_append, List.nil_append] at Nd
    have hq1 : bk (out.getD ((rv.length - 1) / 2) .none) = b1.toList := rank_unique (rank_sorted hop hos (by rw [hop.length_eq]; omega)) (by rw [hrl]; exact hk1)
    have hqB1 : IsB (out.getD ((rv.length - 1) / 2) .none) := hrB _ (hop.mem_iff.mp (getD_mem (by rw [hop.length_eq]; omega)))
    generalize out.getD ((rv.length - 1) / 2) .none = q1 at *
    (try clear hop; try clear hos)
    (((repeat' (first | (k_unfold; walk_at "mine cl") | (walk_at "mine sZ"; walk_at "mine ld"))); (all_goals try walk_at "mine fd")))
    rename Fr _ _ _ _ => Fc
    rename News _ _ _ _ => Nc
    refine fn_call (rest := _ :: _ :: _ :: _ :: _ :: _ :: _ :: [_]) (median_high_fn w D₂ rv 0 hrB (by omega) (by omega)) (by assumption) (by assumption) Fc Nc (all_cons (.head _) all_nil) all_nil (rest_off hlt₈) (by omega) (by omega) (un_p ?_)
    rintro out hop hos h₂ tk₂ Fe Ne' -
    (try clear Fc; try clear Nc)
    dsimp only [List.cons_append, List.nil_append] at Ne'
    have hq2 : bk (out.getD (rv.length / 2) .none) = b2.toList := rank_unique (rank_sorted hop hos (by rw [hop.length_eq]; omega)) (by rw [hrl]; exact hk2)
    have hqB2 : IsB (out.getD (rv.length / 2) .none) := hrB _ (hop.mem_iff.mp (getD_mem (by rw [hop.length_eq]; omega)))
    generalize out.getD (rv.length / 2) .none = q2 at *
    (try clear hop; try clear hos)
    (((repeat' (first | (k_unfold; walk_at "mine cl") | (walk_at "mine sZ"; walk_at "mine ld"))); (all_goals try walk_at "mine fd")))
    rename News _ _ _ _ => N₄
    refine my_listeq2 N₄ (.tail _ (.head _)) (.head _) ?bx2 ?by2 (by show (arnd _ _ _ _).units < _; dsimp only [arnd]; omega) ?e12 ?e22 ?_
    case bx2 => ((repeat' (first | exact all_nil | (refine all_cons ?_ ?_) | exact ⟨_, _, rfl⟩ | exact all_getD (by assumption) (by omega) | assumption)))
    case by2 => ((repeat' (first | exact all_nil | (refine all_cons ?_ ?_) | exact ⟨_, _, rfl⟩ | exact all_getD (by assumption) (by omega) | assumption)))
    case e12 => exact hq1
    case e22 => exact hq2
    (((repeat' (first | (k_unfold; walk_at "mine cl") | (walk_at "mine sZ"; walk_at "mine ld"))); (all_goals try walk_at "mine fd")))
    exact HeldP.mk ⟨[], ⟨rfl, rfl⟩, all_nil⟩
end
local macro_rules | `(tactic| walk_at "call type:type") => `(tactic| ((with_reducible show wpAny _ _ (call (Value.type "type") [Value.bytes _ _]) _ _ _); k_dflt (refine call_type_of (typeIs_bytes _ _ _) (by decide +kernel) ?_)))
local macro_rules | `(tactic| walk_at "mine pad0") => `(tactic| fail)
noncomputable section
set_option maxRecDepth 100000
noncomputable def hexval (c : Nat) : Nat := if 48 ≤ c ∧ c ≤ 57 then c - 48 else if 65 ≤ c ∧ c ≤ 70 then c - 55 else if 97 ≤ c ∧ c ≤ 102 then c - 87 else 16
noncomputable def b64val (c : Nat) : Nat := if 65 ≤ c ∧ c ≤ 90 then c - 65 else if 97 ≤ c ∧ c ≤ 122 then c - 71 else if 48 ≤ c ∧ c ≤ 57 then c + 4 else if c = 43 then 62 else if c = 47 then 63 else 64
set_option maxHeartbeats 2000000 in
theorem hexval_fn (w : World) (c : Nat) (t : Tok) (hc : c < 256) :
    FnR w 151 4 ⟨[.int (c : Nat) t], []⟩ [] [] (fun v o => (∃ u, v = .int ((hexval c : Nat) : Int) u) ∧ o = []) := by
  refine fn_sub ?_
  walk_at "mine enter"
  (((repeat' (first | (k_unfold; walk_at "mine cl") | (walk_at "mine sZ"; walk_at "mine ld"))); (all_goals try walk_at "mine fd")))
  all_goals (refine HeldP.mk ⟨[], ⟨⟨_, congrArg (fun z => Value.int z _) ?_⟩, rfl⟩, all_nil⟩; unfold hexval; (repeat' split) <;> omega)
set_option maxHeartbeats 2000000 in
theorem b64val_fn (w : World) (c : Nat) (t : Tok) (hc : c < 256) :
    FnR w 119 4 ⟨[.int (c : Nat) t], []⟩ [] [] (fun v o => (∃ u, v = .int ((b64val c : Nat) : Int) u) ∧ o = []) := by
  refine fn_sub ?_
  walk_at "mine enter"
  (((repeat' (first | (k_unfold; walk_at "mine cl") | (walk_at "mine sB"; walk_at "mine ld"))); (all_goals try walk_at "mine fd")))
  all_goals (refine HeldP.mk ⟨[], ⟨⟨_, congrArg (fun z => Value.int z _) ?_⟩, rfl⟩, all_nil⟩; unfold b64val; (repeat' split) <;> omega)
set_option maxHeartbeats 2000000 in
theorem buffer_fn (w : World) (b : Array UInt8) (t : Tok) :
    FnR w 105 4 ⟨[.bytes b t], []⟩ [] [] (fun v o => v = .bytes b t ∧ o = []) := by
  refine fn_sub ?_
  walk_at "mine enter"
  (((repeat' (first | (k_unfold; walk_at "mine cl") | (walk_at "mine sZ"; walk_at "mine ld"))); (all_goals try walk_at "mine fd")))
  all_goals exact HeldP.mk ⟨[], ⟨rfl, rfl⟩, all_nil⟩
set_option maxHeartbeats 2000000 in
theorem abuffer_fn (w : World) (b : Array UInt8) (t : Tok) :
    FnR w 98 4 ⟨[.bytes b t], []⟩ [] [] (fun v o => v = .bytes b t ∧ o = []) := by
  refine fn_sub ?_
  walk_at "mine enter"
  (((repeat' (first | (k_unfold; walk_at "mine cl") | (walk_at "mine sZ"; walk_at "mine ld"))); (all_goals try walk_at "mine fd")))
  all_goals exact HeldP.mk ⟨[], ⟨rfl, rfl⟩, all_nil⟩
set_option maxHeartbeats 2000000 in
theorem truth_fn (w : World) :
    FnR w 112 4 ⟨[.bool false], []⟩ [] [] (fun v o => v = .bool false ∧ o = []) := by
  refine fn_sub ?_
  walk_at "mine enter"
  (((repeat' (first | (k_unfold; walk_at "mine cl") | (walk_at "mine sZ"; walk_at "mine ld"))); (all_goals try walk_at "mine fd")))
  all_goals exact HeldP.mk ⟨[], ⟨rfl, rfl⟩, all_nil⟩
set_option maxHeartbeats 2000000 in
theorem fromdata_fn (w : World) (b : Array UInt8) (t : Tok) :
    FnR w 78 4 ⟨[.bytes b t], []⟩ [] [] (fun v o => v = .bytes b t ∧ o = []) := by
  refine fn_sub ?_
  walk_at "mine enter"
  (((repeat' (first | (k_unfold; walk_at "mine cl") | (walk_at "mine sZ"; walk_at "mine ld"))); (all_goals try walk_at "mine fd")))
  all_goals exact HeldP.mk ⟨[], ⟨rfl, rfl⟩, all_nil⟩
end
local macro_rules | `(tactic| walk_at "getMethod bytes") => `(tactic| (k_here; first | (with_reducible refine getM_hex ?_) | (with_reducible refine getM_upper ?_)))
local macro_rules | `(tactic| walk_at "getMethod str") => `(tactic| (k_here; (with_reducible refine getM_encode ?_)))
local macro_rules | `(tactic| walk_at "call builtin:bytes.hex") => `(tactic| (k_dflt (refine call_hex (by rw [hexout_eq]; show (hexl _).toArray.size ≤ _; rw [List.size_toArray, hexl_len, sizeLine_eq, Array.length_toList]; omega) ?_)))
local macro_rules | `(tactic| walk_at "call builtin:bytes.upper") => `(tactic| (k_dflt (refine call_upper (by assumption) ?_)))
local macro_rules | `(tactic| walk_at "call builtin:str.encode") => `(tactic| (k_dflt (refine call_encode (by first | assumption | (rw [hexout_eq]; exact hexl_ascii)) (by first | assumption | (rw [hexout_eq]; show (hexl _).toArray.size ≤ _; rw [List.size_toArray, hexl_len, Array.length_toList]; omega)) ?_)))
noncomputable section
set_option maxRecDepth 100000
set_option maxHeartbeats 2000000 in
theorem hex_fn (w : World) (b : Array UInt8) (t : Tok) (hb : b.size ≤ 40) :
    FnR w 144 6 ⟨[.bytes b t], []⟩ [] [] (fun v o => (∃ u, v = .bytes ((hexout b).map Nat.toUInt8) u) ∧ o = []) := by
  refine fn_sub ?_
  walk_at "mine enter"
  (((repeat' (first | (k_unfold; walk_at "mine cl") | (walk_at "mine sB"; walk_at "mine ld"))); (all_goals try walk_at "mine fd")))
  rename Fr _ _ _ _ => F
  refine fn_call (rest := []) (own := []) (buffer_fn w b t) (by assumption) (by assumption) F (news := []) (fun _ hp => nomatch hp) all_nil all_nil all_nil (by omega) (by omega) (un_e ?_)
  rintro h₂ tk₂ F₂ N₂ -
  simp only [List.append_nil] at N₂
  (((repeat' (first | (k_unfold; walk_at "mine cl") | (walk_at "mine sB"; walk_at "mine ld"))); (all_goals try walk_at "mine fd")))
  all_goals exact HeldP.mk ⟨[], ⟨⟨_, rfl⟩, rfl⟩, all_nil⟩
end
noncomputable section
set_option maxRecDepth 100000
set_option maxHeartbeats 2000000 in
theorem b16enc_fn (w : World) (b : Array UInt8) (t : Tok) (hb : b.size ≤ 40) :
    FnR w 181 8 ⟨[.bytes b t], []⟩ [] [] (fun v o => (∃ u, v = .bytes (((hexout b).map Nat.toUInt8).toList.map Builtin.Bytes.toUpper).toArray u) ∧ o = []) := by
  refine fn_sub ?_
  walk_at "mine enter"
  (((repeat' (first | (k_unfold; walk_at "mine cl") | (walk_at "mine sB"; walk_at "mine ld"))); (all_goals try walk_at "mine fd")))
  rename Fr _ _ _ _ => F
  refine fn_call (rest := []) (own := []) (hex_fn w b t hb) (by assumption) (by assumption) F (news := []) (fun _ hp => nomatch hp) all_nil all_nil all_nil (by omega) (by omega) (un_u ?_)
  rintro u h₂ tk₂ F₂ N₂ -
  simp only [List.append_nil] at N₂
  have hsz : ((hexout b).map Nat.toUInt8).size ≤ 100 := by
    rw [Array.size_map, hexout_eq, List.size_toArray, hexl_len, Array.length_toList]; omega
  (((repeat' (first | (k_unfold; walk_at "mine cl") | (walk_at "mine sB"; walk_at "mine ld"))); (all_goals try walk_at "mine fd")))
  all_goals exact HeldP.mk ⟨[], ⟨⟨_, rfl⟩, rfl⟩, all_nil⟩
end
local macro_rules | `(tactic| walk_at "binaryOp BitAnd int int") => `(tactic| (k_dflt (refine' my_and ?c ?_; (case c => exact (Int.toNat_of_nonneg (by decide)).symm); k_whole); intro t'))
local macro_rules | `(tactic| walk_at "binaryOp BitOr int int") => `(tactic| (k_dflt (refine my_or ?_); intro t'))
local macro_rules | `(tactic| walk_at "binaryOp LShift int int") => `(tactic| (k_dflt (refine' my_shl ?c ?b ?a ?_; (case c => exact (Int.toNat_of_nonneg (by decide)).symm); (case b => decide); (case a => first | omega | assumption | (refine Nat.lt_of_le_of_lt Nat.and_le_right ?_; decide)); k_whole); intro t'))
local macro_rules | `(tactic| walk_at "binaryOp RShift int int") => `(tactic| (k_dflt (refine' my_shr ?c ?_; (case c => exact (Int.toNat_of_nonneg (by decide)).symm); k_whole); intro t'))
local macro_rules | `(tactic| walk_at "subscriptTail Name BinOp bytes int") => `(tactic| ((with_reducible show wpAny _ _ (subscriptTail _ _ (Value.bytes _ _) (Value.int _ _)) _ _ _); k_dflt (refine' my_bitem ?z ?l ?_; (case z => decide); (case l => first | (refine Nat.lt_of_le_of_lt Nat.and_le_right ?_; decide) | (refine Nat.lt_of_le_of_lt (Nat.mul_le_mul_right _ Nat.and_le_right) ?_; decide)); k_whole); intro t' k'))
local macro_rules | `(tactic| walk_at "mine sW") => `(tactic| ((fail_if_success (with_reducible show wpAny _ _ (call (Value.type "bytes") _ _) _ _ _)); (fail_if_success (with_reducible show wpAny _ _ (exec (Stmt.For _ _ _ _ _) _) _ _ _)); (fail_if_success (with_reducible show wpAny _ _ (call (Value.ref _) _ _) _ _ _))))
local macro_rules | `(tactic| walk_at "UnrEnd") => `(tactic| (k_dflt (refine' unr_end ?F ?N ?_; (case F => k_asm); (case N => k_asm))))
local macro_rules | `(tactic| walk_at "call builtin:list.append") => `(tactic| ((with_reducible show wpAny _ _ (call (Value.builtin "list.append") [Value.ref _, _]) _ _ _); k_dflt (refine' my_append ?F ?N ?U ?a ?_; (case F => k_asm); (case N => k_asm); (case U => k_upd); (case a => first | omega | (simp only [List.length_append, List.length_cons, List.length_nil]; omega)); k_whole); intro h' F' N'; (try k_sweep)))
noncomputable section
set_option maxRecDepth 100000
noncomputable def B64L : Array UInt8 := #[65, 66, 67, 68, 69, 70, 71, 72, 73, 74, 75, 76, 77, 78, 79, 80, 81, 82, 83, 84, 85, 86, 87, 88, 89, 90, 97, 98, 99, 100, 101, 102, 103, 104, 105, 106, 107, 108, 109, 110, 111, 112, 113, 114, 115, 116, 117, 118, 119, 120, 121, 122, 48, 49, 50, 51, 52, 53, 54, 55, 56, 57, 43, 47]
noncomputable def bc (j : Nat) : Nat := (B64L.getD j 0).toNat
/-- what leftchar holds after i bytes -/
noncomputable def lcOf (l : List Nat) : Nat → Nat
  | 0 => 0
  | i + 1 => (lcOf l i * 2 ^ 8 ||| l.getD i 0) &&& 65535
noncomputable def outOf64 (l : List Nat) : Nat → List Nat
  | 0 => []
  | 1 => [bc (lcOf l 1 / 2 ^ 2 &&& 63)]
  | 2 => [bc (lcOf l 1 / 2 ^ 2 &&& 63), bc (lcOf l 2 / 2 ^ 4 &&& 63)]
  | _ => [bc (lcOf l 1 / 2 ^ 2 &&& 63), bc (lcOf l 2 / 2 ^ 4 &&& 63), bc (lcOf l 3 / 2 ^ 6 &&& 63), bc (lcOf l 3 / 2 ^ 0 &&& 63)]
noncomputable def enc64 (l : List Nat) : List Nat := match l.length with
  | 0 => []
  | 1 => outOf64 l 1 ++ [bc ((lcOf l 1 &&& 3) * 2 ^ 4), 61, 61]
  | 2 => outOf64 l 2 ++ [bc ((lcOf l 2 &&& 15) * 2 ^ 2), 61]
  | _ => outOf64 l 3
noncomputable def lbOf (i : Nat) : Int := match i with | 0 => 0 | 1 => 2 | 2 => 4 | _ => 0
theorem bc_lt (j : Nat) : 0 ≤ ((bc j : Nat) : Int) ∧ ((bc j : Nat) : Int) < 256 := by
  have : bc j < 256 := (B64L.getD j 0).toNat_lt
  omega
theorem bc_lt' (j : Nat) : bc j < 256 := (B64L.getD j 0).toNat_lt
theorem out64_lt (l : List Nat) (i : Nat) : ∀ n ∈ outOf64 l i, n < 256 := by
  intro n hn
  unfold outOf64 at hn
  split at hn <;> simp only [List.mem_cons, List.not_mem_nil, or_false] at hn
  · exact hn ▸ bc_lt' _
  · rcases hn with rfl | rfl <;> exact bc_lt' _
  · rcases hn with rfl | rfl | rfl | rfl <;> exact bc_lt' _
theorem enc64_lt (l : List Nat) : ∀ n ∈ enc64 l, n < 256 := by
  intro n hn
  unfold enc64 at hn
  split at hn
  · cases hn
  · rcases List.mem_append.mp hn with hn | hn
    · exact out64_lt _ _ n hn
    · simp only [List.mem_cons, List.not_mem_nil, or_false] at hn
      rcases hn with rfl | rfl | rfl
      · exact bc_lt' _
      · decide
      · decide
  · rcases List.mem_append.mp hn with hn | hn
    · exact out64_lt _ _ n hn
    · simp only [List.mem_cons, List.not_mem_nil, or_false] at hn
      rcases hn with rfl | rfl
      · exact bc_lt' _
      · decide
  · exact out64_lt _ _ n hn
inductive Inv64 (l : List Nat) (l' : Addr) (i : Nat) (m : Str → Option Value) (nw : Led) : Prop
  | mk (vs : List Value) (n : Nat) (tb tc : Tok) (hv : IntsAre vs ((outOf64 l i).map fun (n : Nat) => (n : Int))) (e : nw = [(l', listOf vs.toArray n)])
    (hm : ∀ q ∈ [(Str.ofString "out", Value.ref l'), (Str.ofString "leftbits", Value.int (lbOf i) tb), (Str.ofString "leftchar", Value.int ((lcOf l i : Nat) : Int) tc), (Str.ofString "newline", Value.bool false)], m q.1 = some q.2) : Inv64 l l' i m nw
set_option maxHeartbeats 2000000 in
theorem b64_fn (w : World) (b : Array UInt8) (t : Tok) (l : List Nat) (hb : KBw.bInts b = l.map fun (n : Nat) => (n : Int)) (h1 : 1 ≤ l.length) (h3 : l.length ≤ 3) :
    FnR w 135 8 ⟨[.bytes b t], [(Str.ofString "newline", .bool false)]⟩ [] [] (fun v o => (∃ u, v = .bytes ((enc64 l).map Nat.toUInt8).toArray u) ∧ o = []) := by
  refine fn_sub ?_
  walk_at "mine enter"
  (((repeat' (first | (k_unfold; walk_at "mine cl") | (walk_at "mine sB"; walk_at "mine ld"))); (all_goals try walk_at "mine fd")))
  rename Fr _ _ _ _ => F
  refine fn_call (rest := []) (own := []) (buffer_fn w b t) (by assumption) (by assumption) F (news := []) (fun _ hp => nomatch hp) all_nil all_nil all_nil (by omega) (by omega) (un_e ?_)
  rintro h₂ tk₂ F₂ N₂ -
  simp only [List.append_nil] at N₂
  (((repeat' (first | (k_unfold; walk_at "mine cl") | (walk_at "mine sB"; walk_at "mine ld"))); (all_goals try walk_at "mine fd")))
  rename Fr _ _ _ _ => F
  refine fn_call (rest := []) (own := []) (truth_fn w) (by assumption) (by assumption) F (news := []) (fun _ hp => nomatch hp) all_nil all_nil all_nil (by omega) (by omega) (un_e ?_)
  rintro h₂ tk₂ F₂ N₂ -
  simp only [List.append_nil] at N₂
  (((repeat' (first | (k_unfold; walk_at "mine cl") | (walk_at "mine sB"; walk_at "mine ld"))); (all_goals try walk_at "mine fd")))
  rename Fr _ _ _ _ => F
  rename News _ _ _ _ => N
  rename_i l' _ _ _ _ _ _ _
  refine For_invVF F (by rfl) (by rfl) ?_ (fun _ => rfl) PassesOwn.never
  walk1
  refine my_forBytes (Inv64 l l') hb rfl F N ⟨[], 0, ?tb, ?tc, .nil, rfl, ?nm⟩ ?turn ?done
  case nm => ((repeat' (first | exact all_nil | (refine all_cons ?_ ?_; (focus (with_unfolding_all rfl))))))
  case turn =>
    (try clear F; try clear N)
    intro I hI i k m nw hk h0 h256 hJ u it h tk F N
    obtain ⟨vs, n, tb, tc, hv, rfl, hm⟩ := hJ
    k_lt hI
    obtain ⟨kn, hkn, rfl⟩ : ∃ kn : Nat, l[i]? = some kn ∧ k = (kn : Int) := by
      rw [List.getElem?_map] at hk
      cases e : l[i]? with
      | none => rw [e] at hk; cases hk
      | some kn => rw [e] at hk; exact ⟨kn, rfl, (Option.some.inj hk).symm⟩
    have hil : i < l.length := (List.getElem?_eq_some_iff.mp hkn).1
    have hkd : l.getD i 0 = kn := by rw [List.getD_eq_getElem?_getD, hkn]; rfl
    subst hkd
    replace F := fr_ov (ps := [(Str.ofString "b", Value.int ((l.getD i 0 : Nat) : Int) u), (Str.ofString "out", Value.ref l'), (Str.ofString "leftbits", Value.int (lbOf i) tb), (Str.ofString "leftchar", Value.int ((lcOf l i : Nat) : Int) tc), (Str.ofString "newline", Value.bool false)]) F (all_cons (by rfl) (names_not hm (by ((repeat' (first | exact all_nil | (refine all_cons ?_ ?_; (focus (dsimp only; decide)))))))))
    (try clear hm)
    have hvl := hv.length
    have hlc : lcOf l i < 2 ^ 60 := by
      cases i with
      | zero => exact Nat.pow_pos (by decide)
      | succ i => exact Nat.lt_of_le_of_lt Nat.and_le_right (by decide)
    obtain rfl | rfl | rfl : i = 0 ∨ i = 1 ∨ i = 2 := by omega
    · have hvl0 : vs.length = 0 := hvl
      (try dsimp only [envOf, lbOf] at F N ⊢)
      (((repeat' (first | (k_unfold; walk_at "mine cl") | (walk_at "mine sW"; walk_at "mine ld"))); (all_goals try walk_at "mine fd")))
      refine HeldP.mk ⟨all_cons (Nat.ne_of_lt hI) all_nil, _, _, ?_, ?_, intsAre_snoc hv _ _, rfl, ?nm0⟩
      case nm0 => ((repeat' (first | exact all_nil | (refine all_cons ?_ ?_; (focus (with_unfolding_all rfl))))))
    · have hvl0 : vs.length = 1 := hvl
      (try dsimp only [envOf, lbOf] at F N ⊢)
      (((repeat' (first | (k_unfold; walk_at "mine cl") | (walk_at "mine sW"; walk_at "mine ld"))); (all_goals try walk_at "mine fd")))
      refine HeldP.mk ⟨all_cons (Nat.ne_of_lt hI) all_nil, _, _, ?_, ?_, intsAre_snoc hv _ _, rfl, ?nm1⟩
      case nm1 => ((repeat' (first | exact all_nil | (refine all_cons ?_ ?_; (focus (with_unfolding_all rfl))))))
    · have hvl0 : vs.length = 2 := hvl
      (try dsimp only [envOf, lbOf] at F N ⊢)
      (((repeat' (first | (k_unfold; walk_at "mine cl") | (walk_at "mine sW"; walk_at "mine ld"))); (all_goals try walk_at "mine fd")))
      refine HeldP.mk ⟨all_cons (Nat.ne_of_lt hI) all_nil, _, _, ?_, ?_, intsAre_snoc (intsAre_snoc hv _ _) _ _, rfl, ?nm2⟩
      case nm2 => ((repeat' (first | exact all_nil | (refine all_cons ?_ ?_; (focus (with_unfolding_all rfl))))))
  case done =>
    rintro m nw h tk ⟨vs, n, tb, tc, hv, rfl, hm⟩ F₃ N₃
    (try clear F; try clear N)
    replace F₃ := fr_ov F₃ hm
    (try clear hm)
    rw [List.length_map] at *
    have hvl := hv.length
    obtain e | e | e : l.length = 1 ∨ l.length = 2 ∨ l.length = 3 := by omega
    · have he : enc64 l = outOf64 l 1 ++ [bc ((lcOf l 1 &&& 3) * 2 ^ 4), 61, 61] := by unfold enc64; rw [e] <;> rfl
      rw [e] at hv hvl F₃
      have hvl0 : vs.length = 1 := hvl
      (try dsimp only [envOf, lbOf] at F₃ N₃ ⊢)
      (((repeat' (first | (k_unfold; walk_at "mine cl") | (walk_at "mine sW"; walk_at "mine ld"))); (all_goals try walk_at "mine fd")))
      rename Fr _ _ _ _ => F
      rename News _ _ _ _ => N
      refine my_bytes (l := enc64 l) F N (.head _) (by rw [he]; exact intsAre_snoc (intsAre_snoc (intsAre_snoc hv _ _) _ _) _ _) (enc64_lt l) (by simp only [List.length_append, List.length_cons, List.length_nil]; omega) rfl fun h' t' k' F' N' => ?_
      (((repeat' (first | (k_unfold; walk_at "mine cl") | (walk_at "mine sW"; walk_at "mine ld"))); (all_goals try walk_at "mine fd")))
      exact HeldP.mk ⟨[], ⟨⟨_, rfl⟩, rfl⟩, all_nil⟩
    · have he : enc64 l = outOf64 l 2 ++ [bc ((lcOf l 2 &&& 15) * 2 ^ 2), 61] := by unfold enc64; rw [e] <;> rfl
      rw [e] at hv hvl F₃
      have hvl0 : vs.length = 2 := hvl
      (try dsimp only [envOf, lbOf] at F₃ N₃ ⊢)
      (((repeat' (first | (k_unfold; walk_at "mine cl") | (walk_at "mine sW"; walk_at "mine ld"))); (all_goals try walk_at "mine fd")))
      rename Fr _ _ _ _ => F
      rename News _ _ _ _ => N
      refine my_bytes (l := enc64 l) F N (.head _) (by rw [he]; exact intsAre_snoc (intsAre_snoc hv _ _) _ _) (enc64_lt l) (by simp only [List.length_append, List.length_cons, List.length_nil]; omega) rfl fun h' t' k' F' N' => ?_
      (((repeat' (first | (k_unfold; walk_at "mine cl") | (walk_at "mine sW"; walk_at "mine ld"))); (all_goals try walk_at "mine fd")))
      exact HeldP.mk ⟨[], ⟨⟨_, rfl⟩, rfl⟩, all_nil⟩
    · have he : enc64 l = outOf64 l 3 := by unfold enc64; rw [e] <;> rfl
      rw [e] at hv hvl F₃
      have hvl0 : vs.length = 4 := hvl
      (try dsimp only [envOf, lbOf] at F₃ N₃ ⊢)
      (((repeat' (first | (k_unfold; walk_at "mine cl") | (walk_at "mine sW"; walk_at "mine ld"))); (all_goals try walk_at "mine fd")))
      rename Fr _ _ _ _ => F
      rename News _ _ _ _ => N
      refine my_bytes (l := enc64 l) F N (.head _) (by rw [he]; exact hv) (enc64_lt l) (by omega) rfl fun h' t' k' F' N' => ?_
      (((repeat' (first | (k_unfold; walk_at "mine cl") | (walk_at "mine sW"; walk_at "mine ld"))); (all_goals try walk_at "mine fd")))
      exact HeldP.mk ⟨[], ⟨⟨_, rfl⟩, rfl⟩, all_nil⟩
end
section
set_option maxRecDepth 100000
local macro_rules | `(tactic| walk_at "binaryOp Mod int int") => `(tactic| (k_dflt (refine' my_fmod (k := 2) ?c ?k ?_; (case c => exact rfl); (case k => decide); k_whole); intro t'))
noncomputable def unhexB (b : Array UInt8) (n : Nat) : List Nat := (List.range n).map fun j => hexval (b.getD (2 * j) 0).toNat * 16 + hexval (b.getD (2 * j + 1) 0).toNat
theorem unhexB_succ (b : Array UInt8) (n : Nat) : unhexB b (n + 1) = unhexB b n ++ [hexval (b.getD (2 * n) 0).toNat * 16 + hexval (b.getD (2 * n + 1) 0).toNat] := by
  unfold unhexB; rw [List.range_succ, List.map_append]; rfl
theorem arr_getD_mem {b : Array UInt8} {j : Nat} (h : j < b.size) : b.getD j 0 ∈ b.toList := by
  rw [Array.getD, dif_pos h]; simp
theorem unhexB_lt {b : Array UInt8} (hx : ∀ c ∈ b.toList, hexval c.toNat < 16) {n : Nat} (hn : 2 * n ≤ b.size) : ∀ x ∈ unhexB b n, x < 256 := fun x hx' => by
  obtain ⟨j, hj, rfl⟩ := List.mem_map.mp hx'
  have hj := List.mem_range.mp hj
  have h1 := hx _ (arr_getD_mem (b := b) (j := 2 * j) (by omega))
  have h2 := hx _ (arr_getD_mem (b := b) (j := 2 * j + 1) (by omega))
  omega
inductive InvHex (b : Array UInt8) (t : Tok) (l' : Addr) (nn : Nat) (k : Nat) (m : Str → Option Value) (nw : Led) : Prop
  | mk (j : Nat) (vs : List Value) (n : Nat) (ta ti : Tok) (e1 : k = nn - j) (hj : j ≤ nn) (hv : IntsAre vs ((unhexB b j).map fun (n : Nat) => (n : Int))) (e : nw = [(l', listOf vs.toArray n)])
    (hm : ∀ q ∈ [(Str.ofString "argbuf", Value.bytes b t), (Str.ofString "arglen", Value.int ((b.size : Nat) : Int) ta), (Str.ofString "out", Value.ref l'), (Str.ofString "i", Value.int ((2 * j : Nat) : Int) ti)], m q.1 = some q.2) : InvHex b t l' nn k m nw
set_option maxHeartbeats 2000000 in
theorem a2bhex_fn (w : World) (b : Array UInt8) (t : Tok) (nn : Nat) (hsz : b.size = 2 * nn) (h100 : b.size ≤ 100) (hx : ∀ c ∈ b.toList, hexval c.toNat < 16) :
    FnR w 158 8 ⟨[.bytes b t], []⟩ [] [] (fun v o => (∃ u, v = .bytes ((unhexB b nn).map Nat.toUInt8).toArray u) ∧ o = []) := by
  refine fn_sub ?_
  walk_at "mine enter"
  (((repeat' (first | (k_unfold; walk_at "mine cl") | (walk_at "mine sB"; walk_at "mine ld"))); (all_goals try walk_at "mine fd")))
  rename Fr _ _ _ _ => F
  refine fn_call (rest := []) (own := []) (abuffer_fn w b t) (by assumption) (by assumption) F (news := []) (fun _ hp => nomatch hp) all_nil all_nil all_nil (by omega) (by omega) (un_e ?_)
  rintro h₂ tk₂ F₂ N₂ -
  simp only [List.append_nil] at N₂
  (((repeat' (first | (k_unfold; walk_at "mine cl") | (walk_at "mine sB"; walk_at "mine ld"))); (all_goals try walk_at "mine fd")))
  rename Fr _ _ _ _ => F
  rename News _ _ _ _ => N
  rename_i l' _ _ _ _ _
  refine While_inv2 (InvHex b t l' nn) (n₀ := nn)
    F N ⟨0, [], 0, ?ta, ?ti, rfl, Nat.zero_le _, .nil, rfl, ?nm⟩ ?turn PassesOwn.never
  case nm => ((repeat' (first | exact all_nil | (refine all_cons ?_ ?_; (focus (with_unfolding_all rfl))))))
  case turn =>
    (try clear F; try clear N)
    rintro k m₁ nw h₁ tk₁ F₁ N₁ ⟨j, vs, n, ta, ti, rfl, hj, hv, rfl, hm⟩
    replace F₁ := fr_ov F₁ hm
    (try clear hm)
    have hvl := hv.length
    (((repeat' (first | (k_unfold; walk_at "mine cl") | (walk_at "mine sB"; walk_at "mine ld"))); (all_goals try walk_at "mine fd")))
    · have hlt : 2 * j < b.size := by omega
      have e1 := hx _ (arr_getD_mem (b := b) (j := 2 * j) (by omega))
      have e2 := hx _ (arr_getD_mem (b := b) (j := 2 * j + 1) (by omega))
      have c1 := (b.getD (2 * j) 0).toNat_lt
      have c2 := (b.getD (2 * j + 1) 0).toNat_lt
      have hvl' : vs.length = j := by rw [hvl, List.length_map]; simp [unhexB]
      refine my_bitem (by omega) hlt (fun t' k' => ?_)
      (((repeat' (first | (k_unfold; walk_at "mine cl") | (walk_at "mine sB"; walk_at "mine ld"))); (all_goals try walk_at "mine fd")))
      rename Fr _ _ _ _ => F
      rename News _ _ _ _ => N
      refine fn_call (rest := [_]) (own := []) (hexval_fn w _ _ (by omega)) (by assumption) (by assumption) F N (fun _ hp => nomatch hp) all_nil rest_all (by omega) (by omega) (un_u ?_)
      rintro u h₂ tk₂ F₂ N₂ -
      (try clear F; try clear N)
      dsimp only [List.nil_append] at N₂
      (((repeat' (first | (k_unfold; walk_at "mine cl") | (walk_at "mine sB"; walk_at "mine ld"))); (all_goals try walk_at "mine fd")))
      refine my_bitem (j := 2 * j + 1) (by omega) (by omega) (fun t' k' => ?_)
      (((repeat' (first | (k_unfold; walk_at "mine cl") | (walk_at "mine sB"; walk_at "mine ld"))); (all_goals try walk_at "mine fd")))
      rename Fr _ _ _ _ => F
      rename News _ _ _ _ => N
      refine fn_call (rest := [_]) (own := []) (hexval_fn w _ _ (by omega)) (by assumption) (by assumption) F N (fun _ hp => nomatch hp) all_nil rest_all (by omega) (by omega) (un_u ?_)
      rintro u h₂ tk₂ F₂ N₂ -
      (try clear F; try clear N)
      dsimp only [List.nil_append] at N₂
      generalize hv1 : hexval (b.getD (2 * j) 0).toNat = v1 at *
      generalize hv2 : hexval (b.getD (2 * j + 1) 0).toNat = v2 at *
      (((repeat' (first | (k_unfold; walk_at "mine cl") | (walk_at "mine sB"; walk_at "mine ld"))); (all_goals try walk_at "mine fd")))
      refine HeldP.mk ⟨nn - (j + 1), by omega, j + 1, _, _, ?ta1, ?ti1, rfl, by omega, by rw [unhexB_succ, hv1, hv2, List.map_append]; exact intsAre_snoc hv _ _, rfl, ?nm1⟩
      case nm1 => ((repeat' (first | exact all_nil | (refine all_cons ?_ ?_; (focus (with_unfolding_all rfl))))))
    · rename Fr _ _ _ _ => F
      rename News _ _ _ _ => N
      obtain rfl : j = nn := by omega
      refine my_bytes (l := unhexB b j) F N (.head _) hv (unhexB_lt hx (by omega)) (by rw [hvl, List.length_map]; simp [unhexB]; omega) rfl fun h' t' k' F' N' => ?_
      (((repeat' (first | (k_unfold; walk_at "mine cl") | (walk_at "mine sB"; walk_at "mine ld"))); (all_goals try walk_at "mine fd")))
      exact HeldP.mk ⟨[], ⟨⟨_, rfl⟩, rfl⟩, all_nil⟩
end
local macro_rules | `(tactic| walk_at "eval Call") => `(tactic| ((with_reducible show wpAny _ _ (eval (Expr.Call (Expr.Name _ _) _ [] _) _) _ _ _); k_dflt (refine Call_ ?_)))
local macro_rules | `(tactic| walk_at "mine pad1") => `(tactic| fail)
noncomputable section
set_option maxRecDepth 100000
noncomputable def qOf : Nat → Nat
  | 0 => 0
  | 1 => 1
  | 2 => 2
  | 3 => 3
  | _ => 0
noncomputable def leftOf (v : Nat → Nat) : Nat → Nat
  | 0 => 0
  | 1 => v 0
  | 2 => v 1 &&& 15
  | 3 => v 2 &&& 3
  | _ => 0
noncomputable def dec64 (v : Nat → Nat) : Nat → List Nat
  | 0 => []
  | 1 => []
  | 2 => [v 0 * 2 ^ 2 ||| v 1 / 2 ^ 4]
  | 3 => [v 0 * 2 ^ 2 ||| v 1 / 2 ^ 4, (v 1 &&& 15) * 2 ^ 4 ||| v 2 / 2 ^ 2]
  | _ => [v 0 * 2 ^ 2 ||| v 1 / 2 ^ 4, (v 1 &&& 15) * 2 ^ 4 ||| v 2 / 2 ^ 2, (v 2 &&& 3) * 2 ^ 6 ||| v 3]
inductive InvA64 (nl : Nat) (l' : Addr) (v : Nat → Nat) (i : Nat) (m : Str → Option Value) (nw : Led) : Prop
  | mk (vs : List Value) (n : Nat) (tq tc tp ti : Tok) (ix : Int) (c : Nat) (hc : min i nl = c) (d : Nat) (hd : i - nl = d) (hv : IntsAre vs ((dec64 v c).map fun (n : Nat) => (n : Int))) (e : nw = [(l', listOf vs.toArray n)])
    (hm : ∀ q ∈ [(Str.ofString "out", Value.ref l'), (Str.ofString "quad_pos", Value.int ((qOf c : Nat) : Int) tq), (Str.ofString "leftchar", Value.int ((leftOf v c : Nat) : Int) tc), (Str.ofString "pads", Value.int ((d : Nat) : Int) tp), (Str.ofString "i", Value.int ix ti), (Str.ofString "strict_mode", Value.bool false)], m q.1 = some q.2) : InvA64 nl l' v i m nw
set_option maxHeartbeats 2000000 in
theorem a2b64_fn (w : World) (b : Array UInt8) (t : Tok) (l : List Nat) (nl : Nat) (hb : KBw.bInts b = l.map fun (n : Nat) => (n : Int)) (h4 : l.length = 4) (h2 : 2 ≤ nl) (hn4 : nl ≤ 4)
    (hlet : ∀ i, i < nl → b64val (l.getD i 0) < 64) (hpad : ∀ i, nl ≤ i → i < 4 → l.getD i 0 = 61) :
    FnR w 127 8 ⟨[.bytes b t], [(Str.ofString "strict_mode", .bool false)]⟩ [] [] (fun v o => (∃ u, v = .bytes ((dec64 (fun i => b64val (l.getD i 0)) nl).map Nat.toUInt8).toArray u) ∧ o = []) := by
  refine fn_sub ?_
  walk_at "mine enter"
  (((repeat' (first | (k_unfold; walk_at "mine cl") | (walk_at "mine sB"; walk_at "mine ld"))); (all_goals try walk_at "mine fd")))
  rename Fr _ _ _ _ => F
  refine fn_call (rest := []) (own := []) (abuffer_fn w b t) (by assumption) (by assumption) F (news := []) (fun _ hp => nomatch hp) all_nil all_nil all_nil (by omega) (by omega) (un_e ?_)
  rintro h₂ tk₂ F₂ N₂ -
  simp only [List.append_nil] at N₂
  (((repeat' (first | (k_unfold; walk_at "mine cl") | (walk_at "mine sB"; walk_at "mine ld"))); (all_goals try walk_at "mine fd")))
  rename Fr _ _ _ _ => F
  refine fn_call (rest := []) (own := []) (truth_fn w) (by assumption) (by assumption) F (news := []) (fun _ hp => nomatch hp) all_nil all_nil all_nil (by omega) (by omega) (un_e ?_)
  rintro h₂ tk₂ F₂ N₂ -
  simp only [List.append_nil] at N₂
  (((repeat' (first | (k_unfold; walk_at "mine cl") | (walk_at "mine sB"; walk_at "mine ld"))); (all_goals try walk_at "mine fd")))
  rename Fr _ _ _ _ => F
  rename News _ _ _ _ => N
  rename_i l' _ _ _ _ _ _ _ _ _ _ _
  generalize hv0 : (fun i => b64val (l.getD i 0)) = v
  have hvi : ∀ i, b64val (l.getD i 0) = v i := fun i => by rw [← hv0]
  refine For_invVF F (by rfl) (by rfl) ?_ (fun _ => rfl) PassesOwn.never
  walk1
  refine my_forBytes (InvA64 nl l' v) hb rfl F N ⟨[], 0, ?tq, ?tc, ?tp, ?ti, 0, 0, Nat.min_eq_left (Nat.zero_le _), 0, Nat.zero_sub _, .nil, rfl, ?nm⟩ ?turn ?done
  case nm =>
    ((repeat' (first | exact all_nil | (refine all_cons ?_ ?_; (focus (with_unfolding_all rfl))))))
  case turn =>
    (try clear F; try clear N)
    intro I hI i k m nw hk h0 h256 hJ u it h tk F N
    obtain ⟨vs, n, tq, tc, tp, ti, ix, c, rfl, d, rfl, hv, rfl, hm⟩ := hJ
    k_lt hI
    obtain ⟨kn, hkn, rfl⟩ : ∃ kn : Nat, l[i]? = some kn ∧ k = (kn : Int) := by
      rw [List.getElem?_map] at hk
      cases e : l[i]? with
      | none => rw [e] at hk; cases hk
      | some kn => rw [e] at hk; exact ⟨kn, rfl, (Option.some.inj hk).symm⟩
    have hil : i < 4 := by have := (List.getElem?_eq_some_iff.mp hkn).1; omega
    have hkd : l.getD i 0 = kn := by rw [List.getD_eq_getElem?_getD, hkn]; rfl
    subst hkd
    replace F := fr_ov (ps := [(Str.ofString "this_ch", Value.int ((l.getD i 0 : Nat) : Int) u), (Str.ofString "out", Value.ref l'), (Str.ofString "quad_pos", Value.int ((qOf (min i nl) : Nat) : Int) tq), (Str.ofString "leftchar", Value.int ((leftOf v (min i nl) : Nat) : Int) tc), (Str.ofString "pads", Value.int ((i - nl : Nat) : Int) tp), (Str.ofString "i", Value.int ix ti), (Str.ofString "strict_mode", Value.bool false)]) F (all_cons (by rfl) (names_not hm (by ((repeat' (first | exact all_nil | (refine all_cons ?_ ?_; (focus (dsimp only; decide)))))))))
    (try clear hm)
    have hvl := hv.length
    by_cases hlt : i < nl
    · rw [Nat.min_eq_left (by omega), show i - nl = 0 by omega] at F
      rw [Nat.min_eq_left (by omega)] at hv hvl
      have hq : qOf i = i := by
        obtain rfl | rfl | rfl | rfl : i = 0 ∨ i = 1 ∨ i = 2 ∨ i = 3 := by omega
        all_goals rfl
      rw [hq] at F
      have hb64 := hlet i hlt
      have hne : l.getD i 0 ≠ 61 := fun e => by rw [e] at hb64; exact absurd hb64 (by decide)
      have hvs : vs.length ≤ 3 := by
        obtain rfl | rfl | rfl | rfl : i = 0 ∨ i = 1 ∨ i = 2 ∨ i = 3 := by omega
        all_goals (rw [hvl, List.length_map]; simp [dec64])
      have hll : leftOf v i < 2 ^ 60 := by
        have h00 := hlet 0 (by omega)
        rw [hvi] at h00
        obtain rfl | rfl | rfl | rfl : i = 0 ∨ i = 1 ∨ i = 2 ∨ i = 3 := by omega
        · exact Nat.pow_pos (by decide)
        · show v 0 < _; omega
        · exact Nat.lt_of_le_of_lt Nat.and_le_right (by decide)
        · exact Nat.lt_of_le_of_lt Nat.and_le_right (by decide)
      (try dsimp only [envOf] at F N ⊢)
      (((repeat' (first | (k_unfold; walk_at "mine cl") | (walk_at "mine sW"; walk_at "mine ld"))); (all_goals try walk_at "mine fd")))
      rename Fr _ _ _ _ => F
      rename News _ _ _ _ => N
      refine fn_call (rest := [_, _]) (own := []) (b64val_fn w _ _ (by omega)) (by assumption) (by assumption) F N (fun _ hp => nomatch hp) all_nil rest_all (by omega) (by omega) (un_u ?_)
      rintro u h₂ tk₂ F₂ N₂ -
      (try clear F; try clear N)
      dsimp only [List.nil_append] at N₂
      rw [hvi] at hb64 ⊢
      (((repeat' (first | (k_unfold; walk_at "mine cl") | (walk_at "mine sW"; walk_at "mine ld"))); (all_goals try walk_at "mine fd")))
      · obtain rfl : i = 0 := by omega
        refine HeldP.mk ⟨all_cons (Nat.ne_of_lt hI) all_nil, _, _, ?_, ?_, ?_, ?_, ?_, 1, Nat.min_eq_left (by omega), 0, by omega, hv, rfl, ?nm0⟩
        case nm0 => ((repeat' (first | exact all_nil | (refine all_cons ?_ ?_; (focus (with_unfolding_all rfl))))))
      · obtain rfl : i = 1 := by omega
        refine HeldP.mk ⟨all_cons (Nat.ne_of_lt hI) all_nil, _, _, ?_, ?_, ?_, ?_, ?_, 2, Nat.min_eq_left (by omega), 0, by omega, intsAre_snoc hv _ _, rfl, ?nm1⟩
        case nm1 => ((repeat' (first | exact all_nil | (refine all_cons ?_ ?_; (focus (with_unfolding_all rfl))))))
      · obtain rfl : i = 2 := by omega
        refine HeldP.mk ⟨all_cons (Nat.ne_of_lt hI) all_nil, _, _, ?_, ?_, ?_, ?_, ?_, 3, Nat.min_eq_left (by omega), 0, by omega, intsAre_snoc hv _ _, rfl, ?nm2⟩
        case nm2 => ((repeat' (first | exact all_nil | (refine all_cons ?_ ?_; (focus (with_unfolding_all rfl))))))
      · obtain rfl : i = 3 := by omega
        refine HeldP.mk ⟨all_cons (Nat.ne_of_lt hI) all_nil, _, _, ?_, ?_, ?_, ?_, ?_, 4, Nat.min_eq_left (by omega), 0, by omega, intsAre_snoc hv _ _, rfl, ?nm3⟩
        case nm3 => ((repeat' (first | exact all_nil | (refine all_cons ?_ ?_; (focus (with_unfolding_all rfl))))))
    · have h61 := hpad i (by omega) hil
      have hq : qOf nl = nl := by
        obtain rfl | rfl : nl = 2 ∨ nl = 3 := by omega
        all_goals rfl
      rw [Nat.min_eq_right (by omega)] at hv hvl F
      rw [hq, h61] at F
      (try dsimp only [envOf] at F N ⊢)
      (((repeat' (first | (k_unfold; walk_at "mine cl") | (walk_at "mine sW"; walk_at "mine ld"))); (all_goals try walk_at "mine fd")))
      refine HeldP.mk ⟨all_cons (Nat.ne_of_lt hI) all_nil, _, _, ?_, ?_, ?_, ?_, ?_, nl, Nat.min_eq_right (by omega), (i - nl) + 1, by omega, hv, rfl, ?nm4⟩
      case nm4 =>
        rw [hq]
        ((repeat' (first | exact all_nil | (refine all_cons ?_ ?_; (focus (with_unfolding_all rfl))))))
  case done =>
    rintro m nw h tk ⟨vs, n, tq, tc, tp, ti, ix, c, rfl, d, rfl, hv, rfl, hm⟩ F₃ N₃
    (try clear F; try clear N)
    replace F₃ := fr_ov F₃ hm
    (try clear hm)
    rw [List.length_map, h4] at *
    have hlt : ∀ x ∈ dec64 v nl, x < 256 := by
      have h0 := hlet 0 (by omega)
      have h1 := hlet 1 (by omega)
      have ha : v 0 * 2 ^ 2 ||| v 1 / 2 ^ 4 < 2 ^ 8 := Nat.or_lt_two_pow (by rw [← hvi]; omega) (by rw [← hvi]; omega)
      have hb : nl = 3 ∨ nl = 4 → (v 1 &&& 15) * 2 ^ 4 ||| v 2 / 2 ^ 2 < 2 ^ 8 := fun h => by
        have h2 := hlet 2 (by omega)
        have := @Nat.and_le_right (v 1) 15
        exact Nat.or_lt_two_pow (by omega) (by rw [← hvi]; omega)
      have hc : nl = 4 → (v 2 &&& 3) * 2 ^ 6 ||| v 3 < 2 ^ 8 := fun h => by
        have h3 := hlet 3 (by omega)
        have := @Nat.and_le_right (v 2) 3
        exact Nat.or_lt_two_pow (by omega) (by rw [← hvi]; omega)
      obtain rfl | rfl | rfl : nl = 2 ∨ nl = 3 ∨ nl = 4 := by omega
      all_goals (intro x hx; simp only [dec64, List.mem_cons, List.not_mem_nil, or_false] at hx)
      · exact hx ▸ ha
      · rcases hx with rfl | rfl
        · exact ha
        · exact hb (.inl rfl)
      · rcases hx with rfl | rfl | rfl
        · exact ha
        · exact hb (.inr rfl)
        · exact hc rfl
    have hvl := hv.length
    rw [List.length_map] at hvl
    rw [Nat.min_eq_right hn4] at F₃ hv hvl
    have hvz : vs.length ≤ 1000 := by
      obtain rfl | rfl | rfl : nl = 2 ∨ nl = 3 ∨ nl = 4 := by omega
      all_goals (rw [hvl]; simp [dec64])
    obtain rfl | rfl | rfl : nl = 2 ∨ nl = 3 ∨ nl = 4 := by omega
    all_goals (
      (try dsimp only [envOf, qOf] at F₃ N₃ ⊢)
      (((repeat' (first | (k_unfold; walk_at "mine cl") | (walk_at "mine sW"; walk_at "mine ld"))); (all_goals try walk_at "mine fd")))
      rename Fr _ _ _ _ => F
      rename News _ _ _ _ => N
      refine my_bytes F N (.head _) hv hlt hvz rfl fun h' t' k' F' N' => ?_
      (((repeat' (first | (k_unfold; walk_at "mine cl") | (walk_at "mine sW"; walk_at "mine ld"))); (all_goals try walk_at "mine fd")))
      exact HeldP.mk ⟨[], ⟨⟨_, by rw [hv0]⟩, rfl⟩, all_nil⟩)
end
local macro_rules | `(tactic| walk_at "mine sS") => `(tactic| (walk_at "mine sW"; (fail_if_success (with_reducible show wpAny _ _ (getMethod (Value.ref _) _ _) _ _ _)); (fail_if_success (with_reducible show wpAny _ _ (call (Value.builtin "re.Pattern.search") _ _) _ _ _))))
noncomputable section
set_option maxRecDepth 100000
set_option maxHeartbeats 2000000 in
theorem b64encode_fn (w : World) (b : Array UInt8) (t : Tok) (l : List Nat) (hb : KBw.bInts b = l.map fun (n : Nat) => (n : Int)) (h1 : 1 ≤ l.length) (h3 : l.length ≤ 3) :
    FnR w 166 10 ⟨[.bytes b t], []⟩ [] [] (fun v o => (∃ u, v = .bytes ((enc64 l).map Nat.toUInt8).toArray u) ∧ o = []) := by
  refine fn_sub ?_
  walk_at "mine enter"
  (((repeat' (first | (k_unfold; walk_at "mine cl") | (walk_at "mine sW"; walk_at "mine ld"))); (all_goals try walk_at "mine fd")))
  rename Fr _ _ _ _ => F
  refine fn_call (rest := []) (own := []) (b64_fn w b t l hb h1 h3) (by assumption) (by assumption) F (news := []) (fun _ hp => nomatch hp) all_nil all_nil all_nil (by omega) (by omega) (un_u ?_)
  rintro u h₂ tk₂ F₂ N₂ -
  simp only [List.append_nil] at N₂
  (((repeat' (first | (k_unfold; walk_at "mine cl") | (walk_at "mine sW"; walk_at "mine ld"))); (all_goals try walk_at "mine fd")))
  all_goals exact HeldP.mk ⟨[], ⟨⟨_, rfl⟩, rfl⟩, all_nil⟩
set_option maxHeartbeats 2000000 in
theorem b64decode_fn (w : World) (b : Array UInt8) (t : Tok) (l : List Nat) (nl : Nat) (hb : KBw.bInts b = l.map fun (n : Nat) => (n : Int)) (h4 : l.length = 4) (h2 : 2 ≤ nl) (hn4 : nl ≤ 4)
    (hlet : ∀ i, i < nl → b64val (l.getD i 0) < 64) (hpad : ∀ i, nl ≤ i → i < 4 → l.getD i 0 = 61) :
    FnR w 174 10 ⟨[.bytes b t], []⟩ [] [] (fun v o => (∃ u, v = .bytes ((dec64 (fun i => b64val (l.getD i 0)) nl).map Nat.toUInt8).toArray u) ∧ o = []) := by
  refine fn_sub ?_
  walk_at "mine enter"
  (((repeat' (first | (k_unfold; walk_at "mine cl") | (walk_at "mine sW"; walk_at "mine ld"))); (all_goals try walk_at "mine fd")))
  rename Fr _ _ _ _ => F
  refine fn_call (rest := []) (own := []) (fromdata_fn w b t) (by assumption) (by assumption) F (news := []) (fun _ hp => nomatch hp) all_nil all_nil all_nil (by omega) (by omega) (un_e ?_)
  rintro h₂ tk₂ F₂ N₂ -
  simp only [List.append_nil] at N₂
  (((repeat' (first | (k_unfold; walk_at "mine cl") | (walk_at "mine sW"; walk_at "mine ld"))); (all_goals try walk_at "mine fd")))
  rename Fr _ _ _ _ => F
  refine fn_call (rest := []) (own := []) (a2b64_fn w b t l nl hb h4 h2 hn4 hlet hpad) (by assumption) (by assumption) F (news := []) (fun _ hp => nomatch hp) all_nil all_nil all_nil (by omega) (by omega) (un_u ?_)
  rintro u h₂ tk₂ F₂ N₂ -
  simp only [List.append_nil] at N₂
  (((repeat' (first | (k_unfold; walk_at "mine cl") | (walk_at "mine sW"; walk_at "mine ld"))); (all_goals try walk_at "mine fd")))
  all_goals exact HeldP.mk ⟨[], ⟨⟨_, rfl⟩, rfl⟩, all_nil⟩
set_option maxHeartbeats 2000000 in
theorem b16decode_fn (w : World) (b : Array UInt8) (t : Tok) (nn : Nat) (hsz : b.size = 2 * nn) (h100 : b.size ≤ 100) (hx : ∀ c ∈ b.toList, hexval c.toNat < 16) (hup : ∀ c ∈ b.toList, upHex c.toNat) :
    FnR w 189 10 ⟨[.bytes b t], []⟩ [] [] (fun v o => (∃ u, v = .bytes ((unhexB b nn).map Nat.toUInt8).toArray u) ∧ o = []) := by
  refine fn_sub ?_
  walk_at "mine enter"
  (((repeat' (first | (k_unfold; walk_at "mine cl") | (walk_at "mine sW"; walk_at "mine ld"))); (all_goals try walk_at "mine fd")))
  rename Fr _ _ _ _ => F
  refine fn_call (rest := []) (own := []) (fromdata_fn w b t) (by assumption) (by assumption) F (news := []) (fun _ hp => nomatch hp) all_nil all_nil all_nil (by omega) (by omega) (un_e ?_)
  rintro h₂ tk₂ F₂ N₂ -
  simp only [List.append_nil] at N₂
  rename (Mine.hd.heap_1 w.params).In _ => X
  have hp := X 70 patObj (by k_is)
  have hc := X 69 codeObj (by k_is)
  (((repeat' (first | (k_unfold; walk_at "mine cl") | (walk_at "mine sS"; walk_at "mine ld"))); (all_goals try walk_at "mine fd")))
  rename Fr _ _ _ _ => F
  refine getM_search (F.keep _ _ hp) ?_
  (((repeat' (first | (k_unfold; walk_at "mine cl") | (walk_at "mine sS"; walk_at "mine ld"))); (all_goals try walk_at "mine fd")))
  refine call_search (F.keep _ _ hp) (F.keep _ _ hc) hup ?_
  (((repeat' (first | (k_unfold; walk_at "mine cl") | (walk_at "mine sW"; walk_at "mine ld"))); (all_goals try walk_at "mine fd")))
  rename Fr _ _ _ _ => F
  refine fn_call (rest := []) (own := []) (a2bhex_fn w b t nn hsz h100 hx) (by assumption) (by assumption) F (news := []) (fun _ hp => nomatch hp) all_nil all_nil all_nil (by omega) (by omega) (un_u ?_)
  rintro u h₂ tk₂ F₂ N₂ -
  simp only [List.append_nil] at N₂
  (((repeat' (first | (k_unfold; walk_at "mine cl") | (walk_at "mine sW"; walk_at "mine ld"))); (all_goals try walk_at "mine fd")))
  all_goals exact HeldP.mk ⟨[], ⟨⟨_, rfl⟩, rfl⟩, all_nil⟩
end
local macro_rules | `(tactic| walk_at "mine sX") => `(tactic| (walk_at "mine sY"; (fail_if_success (with_reducible show wpAny _ _ (subscriptTail _ _ (Value.ref _) (Value.int _ _)) _ _ _))))
noncomputable section
set_option maxRecDepth 100000
noncomputable def menu5 : List Nat := [0, 62, 251, 255, 104]
noncomputable def rowN (x : Int) : Nat := 1 + (x.fmod 3).toNat
noncomputable def rowAt (x : Int) (k : Nat) : Nat := menu5.getD (((x.fdiv 3).fdiv (5 ^ k)).fmod 5).toNat 0
noncomputable def rowOf (x : Int) : List Nat := (List.range (rowN x)).map (rowAt x)
theorem rowN_eq (x : Int) : (1 + x.fmod 3 : Int) = ((rowN x : Nat) : Int) ∧ 1 ≤ rowN x ∧ rowN x ≤ 3 := by
  have h1 := Int.fmod_nonneg_of_pos x (show (0 : Int) < 3 by decide)
  have h2 := Int.fmod_lt_of_pos x (show (0 : Int) < 3 by decide)
  unfold rowN
  omega
theorem menu5_at (j : Nat) : menu5.getD j 0 < 256 := by
  unfold menu5
  match j with
  | 0 => decide
  | 1 => decide
  | 2 => decide
  | 3 => decide
  | 4 => decide
  | n + 5 => exact Nat.zero_lt_succ _
theorem my_menu {prog : Program} {w : World} {A : Around} {E : Value → Shared → Prop} {s : Shared} {h₀ : Heap} {L D : Addr} {news : Led} {n : Nat} {k : Int} {t t0 t1 t2 t3 t4 : Tok} {value slice : Expr} {Q : Value → Shared → Prop} (N : News h₀ L s.heap news)
    (hm : (D, listOf #[.int 0 t0, .int 62 t1, .int 251 t2, .int 255 t3, .int 104 t4] n) ∈ news) (h0 : 0 ≤ k) (h1 : k < 5) (h : ∀ u, Q (.int ((menu5.getD k.toNat 0 : Nat) : Int) u) s)
    (hs : subscripted slice false (.ref D) (.int k t) = operate [.ref D, .int k t] (getItem (.ref D) (.int k t)) := by with_unfolding_all rfl) (hg : ∀ r, letTemporaryGo value (.ref D) r = pure () := by intro _; with_unfolding_all rfl) :
    wpAny (model prog w) A (subscriptTail value slice (.ref D) (.int k t)) Q E s := by
  refine my_sub (vs := [.int 0 t0, .int 62 t1, .int 251 t2, .int 255 t3, .int 104 t4]) N hm h0 (by simpa using h1) (by omega) ?_ hs hg
  obtain ⟨j, rfl⟩ := Int.eq_ofNat_of_zero_le h0
  rw [Int.toNat_natCast] at h ⊢
  obtain rfl | rfl | rfl | rfl | rfl : j = 0 ∨ j = 1 ∨ j = 2 ∨ j = 3 ∨ j = 4 := by omega
  all_goals exact h _
theorem take_row {ys : List Value} {x : Int} {i : Nat} {t : Tok} (h : IntsAre ys (((List.range i).map (rowAt x)).map fun (n : Nat) => (n : Int))) : IntsAre (ys ++ [.int ((rowAt x i : Nat) : Int) t]) (((List.range (i + 1)).map (rowAt x)).map fun (n : Nat) => (n : Int)) := by
  rw [List.range_succ, List.map_append, List.map_append]
  exact intsAre_snoc h _ _
set_option maxHeartbeats 600000 in
theorem octets_fn (w : World) (x : Int) (t : Tok) :
    FnR w 269 8 ⟨[.int x t], []⟩ [] [] (fun v o => (∃ u, v = .bytes ((rowOf x).map Nat.toUInt8).toArray u) ∧ o = []) := by
  walk_at "mine enterC"
  rename_i h0 tk0 g L X T' F' hro hdp hun _ oc hcd N'
  (((repeat' (first | (k_unfold; walk_at "mine cl") | (walk_at "mine sZ"; walk_at "mine ld"))); (all_goals try walk_at "mine fd")))
  ((lcg_calm; k_dflt (refine LCg.ListComp_U (F₀ := by k_asm) (by with_unfolding_all rfl) (by decide) (by rfl) (by decide) (by rfl) ?_); (((repeat' (first | (k_unfold; walk_at "mine cl") | (walk_at "mine sZ"; walk_at "mine ld"))); (all_goals try walk_at "mine fd")))))
  rename IsRange _ _ _ _ _ _ _ _ => hR
  rename Fr _ _ _ _ => F
  rename News _ _ _ _ => N
  obtain ⟨hn, hn1, hn3⟩ := rowN_eq x
  rw [hn] at hR
  have hsm := small_up (rowN x) (by omega)
  (try clear F'); (try clear N')
  refine LCg.CompSrc.range (n := rowN x) (by rfl) F N hR hsm.1 hsm.2 (by rw [sizeLine_eq]; omega) fun g' => ?_
  refine comp_ind (fun i ys nw => IntsAre ys (((List.range i).map (rowAt x)).map fun (n : Nat) => (n : Int)) ∧ nw = [(L + 1, oc)]) ⟨.nil, rfl⟩ ?fin ?step
  case step =>
    (try clear F; try clear N)
    rintro i ys nw hi ⟨hv, rfl⟩ v Ia oI C oC D m₂ h tk E' hv' hC hx F N off ne
    obtain ⟨tv, rfl⟩ := hv'
    rw [Int.zero_add] at hx
    obtain rfl | rfl | rfl : i = 0 ∨ i = 1 ∨ i = 2 := by omega
    all_goals (
      (((repeat' (first | (k_unfold; walk_at "mine cl") | (walk_at "mine sX"; walk_at "mine ld"))); (all_goals try walk_at "mine fd")))
      rename Fr _ _ _ _ => F
      rename News _ _ _ _ => N
      refine kba_turn (value' := PySem.Expr.Name (PySem.Str.ofString "_") ⟨0, 0, 0, 0⟩) (fun _ => rfl) ?_
      refine my_menu N (.head _) (Int.fmod_nonneg_of_pos _ (by decide)) (Int.fmod_lt_of_pos _ (by decide)) fun u => ?_
      refine LCg.CompEnd.intro F N [(L + 1, oc)] (fun p hp => .tail _ hp) off trivial ⟨take_row hv, rfl⟩)
  case fin =>
    (try clear F; try clear N)
    rintro ys nw ⟨hv, rfl⟩
    unfold LCg.FinE
    intro D h₃ tk₃ F N off
    replace N : News g L h₃ ((D, listOf ys.toArray ys.length) :: _) := N
    have hvl := hv.length
    simp only [List.length_map, List.length_range] at hvl
    (((repeat' (first | (k_unfold; walk_at "mine cl") | (walk_at "mine sW"; walk_at "mine ld"))); (all_goals try walk_at "mine fd")))
    rename Fr _ _ _ _ => F
    rename News _ _ _ _ => N
    refine my_bytes F N (.head _) hv (fun n hn => ?_) (by omega) rfl fun h' t' k' F' N' => ?_
    · obtain ⟨k, _, rfl⟩ := List.mem_map.mp hn
      exact menu5_at _
    (((repeat' (first | (k_unfold; walk_at "mine cl") | (walk_at "mine sW"; walk_at "mine ld"))); (all_goals try walk_at "mine fd")))
    exact HeldP.mk ⟨[], ⟨⟨_, rfl⟩, rfl⟩, all_nil⟩
end
local macro_rules | `(tactic| walk_at "mine sT") => `(tactic| (walk_at "mine sX"; (fail_if_success (with_reducible show wpAny _ _ (subscriptTail _ _ (Value.str _ _) (Value.int _ _)) _ _ _)); (fail_if_success (with_reducible show wpAny _ _ (binaryOp Operator.Add (Value.str _ _) (Value.str _ _)) _ _ _)); (fail_if_success (with_reducible show wpAny _ _ (call (Value.builtin "str.join") _ _) _ _ _)); (fail_if_success (with_reducible show wpAny _ _ (call (Value.builtin "str.encode") _ _) _ _ _)); (fail_if_success (with_reducible show wpAny _ _ (call (Value.type "str") _ _) _ _ _)); (fail_if_success (with_reducible show wpAny _ _ (call (Value.builtin "str.index") _ _) _ _ _))))
section
set_option maxRecDepth 100000
local macro_rules | `(tactic| walk_at "binaryOp FloorDiv int int") => `(tactic| ((with_reducible show wpAny _ _ (binaryOp _ (Value.int (Nat.cast _) _) _) _ _ _); k_dflt (refine' my_fdiv (k := 16) ?c ?k ?z ?_; (case c => exact rfl); (case k => decide); (case z => decide); k_whole); intro t'))
local macro_rules | `(tactic| walk_at "binaryOp Mod int int") => `(tactic| ((with_reducible show wpAny _ _ (binaryOp _ (Value.int (Nat.cast _) _) _) _ _ _); k_dflt (refine' my_fmod (k := 16) ?c ?k ?_; (case c => exact rfl); (case k => decide); k_whole); intro t'))
set_option maxHeartbeats 600000 in
theorem figures_fn (w : World) (b : Array UInt8) (t : Tok) (hb : b.size ≤ 3) :
    FnR w 279 8 ⟨[.bytes b t], []⟩ [] [] (fun v o => (∃ u, v = .bytes (figB b.toList).toArray u) ∧ o = []) := by
  refine fn_sub ?_
  walk_at "mine enter"
  (((repeat' (first | (k_unfold; walk_at "mine cl") | (walk_at "mine sT"; walk_at "mine ld"))); (all_goals try walk_at "mine fd")))
  ((lcg_calm; k_dflt (refine ListComp_V (F₀ := by k_asm) (by with_unfolding_all rfl) (by decide) (by rfl) (by decide) (by rfl) ?_); (((repeat' (first | (k_unfold; walk_at "mine cl") | (walk_at "mine sZ"; walk_at "mine ld"))); (all_goals try walk_at "mine fd")))))
  rename Fr _ _ _ _ => F
  rename News _ _ _ _ => N
  refine ⟨rfl, _, F, N, .inl ⟨b, t, rfl, by rw [sizeLine_eq]; omega, fun g' => ?_⟩⟩
  refine comp_ind (fun i ys nw => StrsAre ys ((b.toList.take i).map fun c => figS c.toNat) ∧ nw = []) ⟨.nil, rfl⟩ ?fin ?step
  case step =>
    (try clear F; try clear N)
    rintro i ys nw hi ⟨hv, rfl⟩ v Ia oI C oC D m₂ h tk E' hv' hC hx F N off ne
    obtain ⟨c, tv, hc, rfl⟩ := hv'
    have hc256 := c.toNat_lt
    (((repeat' (first | (k_unfold; walk_at "mine cl") | (walk_at "mine sT"; walk_at "mine ld"))); (all_goals try walk_at "mine fd")))
    refine my_stritem (by show c.toNat / 16 < 16; omega) (by decide) ?_
    (((repeat' (first | (k_unfold; walk_at "mine cl") | (walk_at "mine sT"; walk_at "mine ld"))); (all_goals try walk_at "mine fd")))
    refine my_stritem (by show c.toNat % 16 < 16; omega) (by decide) ?_
    (((repeat' (first | (k_unfold; walk_at "mine cl") | (walk_at "mine sT"; walk_at "mine ld"))); (all_goals try walk_at "mine fd")))
    refine my_stradd (by show 1 + 1 ≤ _; decide) fun t' k' => ?_
    rename Fr _ _ _ _ => F
    rename News _ _ _ _ => N
    refine LCg.CompEnd.intro F N [] (fun p hp => hp) off trivial ⟨?_, rfl⟩
    rw [List.take_add_one, Array.getElem?_toList, hc, Option.toList_some, List.map_append]
    exact strsAre_snoc hv _ _
  case fin =>
    (try clear F; try clear N)
    rintro ys nw ⟨hv, rfl⟩
    rw [List.take_of_length_le (by rw [Array.length_toList]; exact Nat.le_refl _)] at hv
    unfold LCg.FinE
    intro D h₃ tk₃ F N off
    replace N : News _ _ h₃ ((D, listOf ys.toArray ys.length) :: _) := N
    (((repeat' (first | (k_unfold; walk_at "mine cl") | (walk_at "mine sT"; walk_at "mine ld"))); (all_goals try walk_at "mine fd")))
    rename Fr _ _ _ _ => F
    rename News _ _ _ _ => N
    refine my_join N (.head _) hv (by decide) (by rw [figS_sum, List.length_map, Array.length_toList]; omega) fun t' k' => ?_
    (((repeat' (first | (k_unfold; walk_at "mine cl") | (walk_at "mine sT"; walk_at "mine ld"))); (all_goals try walk_at "mine fd")))
    refine call_encode (by rw [fig_join]; exact figL_lt _) (by rw [Str.length, ← Array.length_toList, fig_join, figL_len, Array.length_toList]; omega) ?_
    rw [fig_bytes]
    (((repeat' (first | (k_unfold; walk_at "mine cl") | (walk_at "mine sT"; walk_at "mine ld"))); (all_goals try walk_at "mine fd")))
    exact HeldP.mk ⟨[], ⟨⟨_, rfl⟩, rfl⟩, fun _ hp => .tail _ (by simpa using hp)⟩
end
section
set_option maxRecDepth 100000
local macro_rules | `(tactic| walk_at "call type:str") => `(tactic| (k_dflt (refine' call_str_ascii ?a ?b ?c ?_; (case a => assumption); (case b => assumption); (case c => assumption); k_whole); intro t' k'))
set_option maxHeartbeats 600000 in
theorem places_fn (w : World) (b : Array UInt8) (t : Tok) (h0 : 0 < b.size) (hz : b.size ≤ 100) (hs : ∀ c ∈ b.toList, c.toNat ∈ SGL) :
    FnR w 284 8 ⟨[.bytes b t], []⟩ [] [] (fun v o => ∃ R vs, v = .ref R ∧ o = [(R, listOf vs.toArray vs.length)] ∧ IntsAre vs (b.toList.map fun c => ((plc c.toNat : Nat) : Int))) := by
  have h128 : ∀ c ∈ b.toList, c.toNat < 128 := fun c hc => (by decide : ∀ x ∈ SGL, x < 128) _ (hs c hc)
  walk_at "mine enterC"
  rename_i h0' tk0 g L X T' F' hro hdp hun _ oc hcd N'
  (((repeat' (first | (k_unfold; walk_at "mine cl") | (walk_at "mine sT"; walk_at "mine ld"))); (all_goals try walk_at "mine fd")))
  ((lcg_calm; k_dflt (refine ListComp_V (F₀ := by k_asm) (by with_unfolding_all rfl) (by decide) (by rfl) (by decide) (by rfl) ?_); (((repeat' (first | (k_unfold; walk_at "mine cl") | (walk_at "mine sZ"; walk_at "mine ld"))); (all_goals try walk_at "mine fd")))))
  rename Fr _ _ _ _ => F
  rename News _ _ _ _ => N
  rename Obj.data _ = Data.cell (some _) => hcs
  refine ⟨rfl, _, F, N, .inr ⟨_, _, rfl, ?ha, by rw [Array.size_map, sizeLine_eq]; omega, fun g' => ?_⟩⟩
  case ha =>
    rw [Array.all_eq_true]
    intro i hi
    rw [Array.getElem_map]
    exact decide_eq_true (h128 _ (by simp))
  rw [Array.size_map]
  refine comp_ind (fun i ys nw => IntsAre ys ((b.toList.take i).map fun c => ((plc c.toNat : Nat) : Int)) ∧ nw = [(L + 1, _)]) ⟨.nil, rfl⟩ ?fin ?step
  case step =>
    (try clear F; try clear N)
    rintro i ys nw hi ⟨hv, rfl⟩ v Ia oI C oC D m₂ h tk E' hv' hC hx F N off ne
    obtain ⟨c, tv, hc, rfl⟩ := hv'
    have hci : c = b[i].toNat := by
      rw [Array.getElem?_map, Array.getElem?_eq_getElem hi] at hc
      exact (Option.some.inj hc).symm
    subst hci
    (((repeat' (first | (k_unfold; walk_at "mine cl") | (walk_at "mine sT"; walk_at "mine ld"))); (all_goals try walk_at "mine fd")))
    refine my_index (hs _ (by simp)) fun t' k' => ?_
    rename Fr _ _ _ _ => F
    rename News _ _ _ _ => N
    refine LCg.CompEnd.intro F N [(L + 1, _)] (fun p hp => hp) off trivial ⟨?_, rfl⟩
    rw [List.take_add_one, Array.getElem?_toList, Array.getElem?_eq_getElem hi, Option.toList_some, List.map_append]
    exact intsAre_snoc hv _ _
  case fin =>
    (try clear F; try clear N)
    rintro ys nw ⟨hv, rfl⟩
    rw [List.take_of_length_le (by rw [Array.length_toList]; exact Nat.le_refl _)] at hv
    unfold LCg.FinE
    intro D h₃ tk₃ F N off
    replace N : News _ _ h₃ ((D, listOf ys.toArray ys.length) :: _) := N
    (((repeat' (first | (k_unfold; walk_at "mine cl") | (walk_at "mine sT"; walk_at "mine ld"))); (all_goals try walk_at "mine fd")))
    exact HeldP.mk ⟨[(D, listOf ys.toArray ys.length)], ⟨D, ys, rfl, rfl, hv⟩, fun q hq => by rw [List.mem_singleton.mp hq]; exact .head _⟩
end
local macro_rules | `(tactic| walk_at "mine sU") => `(tactic| (walk_at "mine sT"; (fail_if_success (with_reducible show wpAny _ _ (pyIter (Value.ref _)) _ _ _)); (fail_if_success (with_reducible show wpAny _ _ (call (Value.type "list") _ _) _ _ _)); (fail_if_success (with_reducible show wpAny _ _ (call (Value.builtin "sum") _ _) _ _ _)); (fail_if_success (with_reducible show wpAny _ _ (binaryOp Operator.Mult _ _) _ _ _)); (fail_if_success (with_reducible show SrcG _ _ _ _ _ _ _ _ _ _ _ _ _ _)); (fail_if_success (with_reducible show wpAny _ _ (subscriptTail _ (Expr.Slice _ _ _ _) _ _) _ _ _))))
section
set_option maxRecDepth 100000
local macro_rules | `(tactic| walk_at "binaryOp FloorDiv int int") => `(tactic| ((with_reducible show wpAny _ _ (binaryOp _ (Value.int (Nat.cast _) _) _) _ _ _); k_dflt (refine' my_fdiv ?c ?k ?z ?_; (case c => exact (Int.toNat_of_nonneg (by decide)).symm); (case k => decide); (case z => decide); k_whole); intro t'))
local macro_rules | `(tactic| walk_at "binaryOp Mod int int") => `(tactic| ((with_reducible show wpAny _ _ (binaryOp _ (Value.int (Nat.cast _) _) _) _ _ _); k_dflt (refine' my_fmod ?c ?k ?_; (case c => exact (Int.toNat_of_nonneg (by decide)).symm); (case k => decide); k_whole); intro t'))
set_option maxHeartbeats 2000000 in
theorem lawb64_fn (w : World) (b : Array UInt8) (t u : Tok) (h0 : 1 ≤ b.size) (hz : b.size ≤ 3) :
    FnR w 274 8 ⟨[.bytes b t, .str (Str.ofString "+/") u], []⟩ [] [] (fun v o => (∃ S u, v = .str S u ∧ S.cps.toList = lawL b.toList) ∧ o = []) := by
  walk_at "mine enterC"
  (((repeat' (first | (k_unfold; walk_at "mine cl") | (walk_at "mine sU"; walk_at "mine ld"))); (all_goals try walk_at "mine fd")))
  refine my_stradd (by decide +kernel) fun t' k' => ?_
  (((repeat' (first | (k_unfold; walk_at "mine cl") | (walk_at "mine sU"; walk_at "mine ld"))); (all_goals try walk_at "mine fd")))
  rename Fr _ _ _ _ => F
  rename News _ _ _ _ => N
  refine For_invVF F (by rfl) (by rfl) ?_ (fun _ => rfl) PassesOwn.never
  (((repeat' (first | (k_unfold; walk_at "mine cl") | (walk_at "mine sU"; walk_at "mine ld"))); (all_goals try walk_at "mine fd")))
  rename IsRange _ _ _ _ _ _ _ _ => hR
  rename Fr _ _ _ _ => F
  rename News _ _ _ _ => N
  obtain ⟨hsm, hn⟩ := small_3 b.size (by omega) h0
  refine krs_iter (n := 1) (by rfl) hR hsm hn F N fun I hI => ?_
  (try clear F; try clear N; try clear hR)
  k_lt hI
  refine KrsRest.succ (v := 0) (by decide) fun tk0 h tk F N => ?_
  (try dsimp only [envOfC] at F N)
  (((repeat' (first | (k_unfold; walk_at "mine cl") | (walk_at "mine sU"; walk_at "mine ld"))); (all_goals try walk_at "mine fd")))
  rename Fr _ _ _ _ => F
  rename News _ _ _ _ => N
  refine KBc.slice_K (s := ⟨_, _, _, _, _⟩) (ks := KBw.bInts b) F N rfl (by constructor) (by constructor) (by rw [KBw.ints_length]; omega) fun h' t' k F N hk => ?_
  have hp : KBw.bInts (KBy.picked b (some 0) (some (0 + 3))) = KBw.bInts b := by
    rw [hk]
    have e1 : clipAt (KBw.bInts b).length 0 = 0 := by unfold clipAt; rw [if_neg (by decide)]; omega
    have e2 : clipAt (KBw.bInts b).length (0 + 3) = (KBw.bInts b).length := by
      rw [KBw.ints_length]; unfold clipAt; rw [if_neg (by decide)]; omega
    simp only [Option.elim, e1, e2]
    simp
  (try clear hk)
  generalize KBy.picked b (some 0) (some (0 + 3)) = p at hp ⊢
  obtain rfl := bInts_inj hp
  (((repeat' (first | (k_unfold; walk_at "mine cl") | (walk_at "mine sU"; walk_at "mine ld"))); (all_goals try walk_at "mine fd")))
  rename Fr _ _ _ _ => F
  rename News _ _ _ _ => N
  refine my_listB rfl F N (by omega) fun D h' tk vs n hD hv F N => ?_
  k_lt hD
  (((repeat' (first | (k_unfold; walk_at "mine cl") | (walk_at "mine sU"; walk_at "mine ld"))); (all_goals try walk_at "mine fd")))
  have hvl : vs.length = p.size := by
    have := hv.length
    rw [List.length_map] at this
    rw [this]; exact Array.length_toList
  ((k_dflt (refine LCg.ListComp_U (F₀ := by k_asm) (by with_unfolding_all rfl) (by decide) (by rfl) (by decide) (by rfl) ?_); (((repeat' (first | (k_unfold; walk_at "mine cl") | (walk_at "mine sU"; walk_at "mine ld"))); (all_goals try walk_at "mine fd")))))
  rename IsRange _ _ _ _ _ _ _ _ => hR
  rename Fr _ _ _ _ => F
  rename News _ _ _ _ => N
  rw [List.length_map, Array.length_toList] at hR
  have hsr := small_up p.size (by omega)
  refine LCg.CompSrc.range (n := p.size) (by rfl) F N hR hsr.1 hsr.2 (by rw [sizeLine_eq]; omega) fun g' => ?_
  (try clear hR)
  rename IntsAre vs _ => hv
  refine comp_const (fun i ys => IntsAre ys ((List.range i).map fun j => ((((p.toList.getD j 0).toNat * 256 ^ (2 - j) : Nat)) : Int))) .nil ?fin ?step
  case step =>
    (try clear F; try clear N)
    intro i ys hi hy v Ia oI C oC D' m₂ h tk E' hv' hC hx F N off ne
    obtain ⟨tv, rfl⟩ := hv'
    rw [Int.zero_add] at hx
    have hlt : (p.toList.getD i 0).toNat < 256 := UInt8.toNat_lt _
    have hpi : (p.toList.map fun c => ((c.toNat : Nat) : Int)).getD i 0 = (((p.toList.getD i 0).toNat : Nat) : Int) := (KBw.getD_ints _ _).symm
    obtain rfl | rfl | rfl : i = 0 ∨ i = 1 ∨ i = 2 := by omega
    all_goals (
      (((repeat' (first | (k_unfold; walk_at "mine cl") | (walk_at "mine sU"; walk_at "mine ld"))); (all_goals try walk_at "mine fd")))
      refine my_subInt ‹News _ _ _ _› (by k_mem) hv rfl (by rw [List.length_map, Array.length_toList]; omega) (by rw [List.length_map, Array.length_toList]; omega) fun u => ?_
      rw [hpi]
      (((repeat' (first | (k_unfold; walk_at "mine cl") | (walk_at "mine sU"; walk_at "mine ld"))); (all_goals try walk_at "mine fd")))
      refine my_mulNat (Int.toNat_of_nonneg (by decide)).symm (by omega) (by decide) fun t' => ?_
      rename Fr _ _ _ _ => F
      rename News _ _ _ _ => N
      refine LCg.CompEnd.intro F N _ (fun p hp => hp) off trivial ⟨range_snoc hy, rfl⟩)
  case fin =>
    (try clear F; try clear N)
    intro ys hy
    unfold LCg.FinE
    intro D₂ h₃ tk₃ F N off
    simp only [LCg.Off1, and_true] at off
    replace N : News _ _ h₃ ((D₂, listOf ys.toArray ys.length) :: _) := N
    (((repeat' (first | (k_unfold; walk_at "mine cl") | (walk_at "mine sU"; walk_at "mine ld"))); (all_goals try walk_at "mine fd")))
    rename Fr _ _ _ _ => F
    rename News _ _ _ _ => N
    refine sumK rfl F N (PySem.IsL.isList (n := ys.length) (N _ (.head _)).1) hy fun h' tk t' F N => ?_
    rw [cast_sum]
    generalize hNB : ((List.range p.size).map fun j => (p.toList.getD j 0).toNat * 256 ^ (2 - j)).sum = NB
    (((repeat' (first | (k_unfold; walk_at "mine cl") | (walk_at "mine sU"; walk_at "mine ld"))); (all_goals try walk_at "mine fd")))
    ((k_dflt (refine ListComp_G (F₀ := by k_asm) (by with_unfolding_all rfl) (by decide) (by rfl) (by decide) (by rfl) ?_); (((repeat' (first | (k_unfold; walk_at "mine cl") | (walk_at "mine sU"; walk_at "mine ld"))); (all_goals try walk_at "mine fd")))))
    rename IsRange _ _ _ _ _ _ _ _ => hR
    rename Fr _ _ _ _ => F
    rename News _ _ _ _ => N
    rw [hvl] at hR
    obtain ⟨hsm2, hn2⟩ := small_dn3 p.size (by omega)
    refine ⟨rfl, _, F, N, _, _, _, _, _, _, _, p.size + 1, rfl, hR, hsm2, hn2, by rw [sizeLine_eq]; omega, fun g' => ?_⟩
    (try clear F; try clear N; try clear hR)
    refine comp_const (fun i ys => StrsAre ys ((List.range i).map fun j => (⟨#[LT.cps.getD (NB / 64 ^ (3 - j) % 64) 0]⟩ : Str))) .nil ?fin2 ?step2
    case step2 =>
      intro i zs hi hz' v Ia oI C oC D' m₂ h tk E' hv' hC hx F N off2 ne
      obtain ⟨tv, rfl⟩ := hv'
      obtain rfl | rfl | rfl | rfl : i = 0 ∨ i = 1 ∨ i = 2 ∨ i = 3 := by omega
      all_goals (
        (((repeat' (first | (k_unfold; walk_at "mine cl") | (walk_at "mine sU"; walk_at "mine ld"))); (all_goals try walk_at "mine fd")))
        refine my_stritem (x := LT) (by rw [lt_size]; exact Nat.mod_lt _ (by decide)) (by rw [lt_size]; decide) ?_
        rename Fr _ _ _ _ => F
        rename News _ _ _ _ => N
        refine LCg.CompEnd.intro F N _ (fun p hp => hp) off2 trivial ⟨rangeS_snoc (f := fun j => LT.cps.getD (NB / 64 ^ (3 - j) % 64) 0) hz', rfl⟩)
    case fin2 =>
      intro zs hz'
      unfold LCg.FinE
      intro D₃ h₄ tk₄ F N off3
      simp only [LCg.Off1, and_true] at off3
      replace N : News _ _ h₄ ((D₃, listOf zs.toArray zs.length) :: _) := N
      (((repeat' (first | (k_unfold; walk_at "mine cl") | (walk_at "mine sU"; walk_at "mine ld"))); (all_goals try walk_at "mine fd")))
      rename Fr _ _ _ _ => F
      rename News _ _ _ _ => N
      refine my_join N (.head _) hz' (by decide) (by rw [ones_sum, List.length_map, List.length_range]; omega) fun t' k' => ?_
      (((repeat' (first | (k_unfold; walk_at "mine cl") | (walk_at "mine sU"; walk_at "mine ld"))); (all_goals try walk_at "mine fd")))
      have hJ := ones_join (fun j => LT.cps.getD (NB / 64 ^ (3 - j) % 64) 0) (List.range (p.size + 1))
      generalize Txt.join (Str.ofString "") ((List.range (p.size + 1)).map fun j => (⟨#[LT.cps.getD (NB / 64 ^ (3 - j) % 64) 0]⟩ : Str)) = J at hJ ⊢
      have hJl : J.length = p.size + 1 := by rw [str_len, hJ, List.length_map, List.length_range]
      have h0l : (Str.ofString "").length = 0 := by decide +kernel
      refine my_stradd (by omega) fun t' k' => ?_
      (((repeat' (first | (k_unfold; walk_at "mine cl") | (walk_at "mine sU"; walk_at "mine ld"))); (all_goals try walk_at "mine fd")))
      refine KXi.mul (n := 1) (by decide +kernel) (by decide) (by omega) (by omega) fun t' k' _ _ => ?_
      rw [hvl]
      have hM := mul_eq p.size (by omega) (by omega)
      generalize Txt.mul (Str.ofString "=") (3 - (p.size : Int)) = M at hM ⊢
      have hMl : M.length ≤ 3 := by rw [str_len, hM, List.length_replicate]; omega
      refine my_stradd (by rw [Str.length_append]; omega) fun t' k' => ?_
      (((repeat' (first | (k_unfold; walk_at "mine cl") | (walk_at "mine sU"; walk_at "mine ld"))); (all_goals try walk_at "mine fd")))
      rename Fr _ _ _ _ => F
      rename News _ _ _ _ => N
      refine UnrEnd.intro F N [] (fun p hp => by rw [List.mem_singleton.mp hp]; k_mem) (fun _ hp => nomatch hp) ?_
      refine KrsRest.zero fun h' tk' F N => ?_
      (((repeat' (first | (k_unfold; walk_at "mine cl") | (walk_at "mine sU"; walk_at "mine ld"))); (all_goals try walk_at "mine fd")))
      refine HeldP.mk ⟨[], ⟨⟨_, _, rfl, ?_⟩, rfl⟩, all_nil⟩
      show ((Str.ofString "").cps ++ J.cps ++ M.cps).toList = _
      have he : (Str.ofString "").cps = #[] := by decide +kernel
      rw [Array.toList_append, Array.toList_append, hJ, hM, he]
      unfold lawL numOf
      rw [Array.length_toList, hNB]
      rfl
end
local macro_rules | `(tactic| walk_at "mine sE") => `(tactic| (walk_at "mine sU"; (fail_if_success (with_reducible show wpAny _ _ (compareOp CmpOp.LtE (Value.ref _) (Value.ref _)) _ _ _)); (fail_if_success (with_reducible show LCt.CompSrcT _ _ _ _ _ _ _ _ _ _ _ _ _ _ _)); (fail_if_success (with_reducible show wpAny _ _ (binaryOp Operator.Add (Value.ref _) (Value.ref _)) _ _ _))))
local macro_rules | `(tactic| walk_at "mine pad2") => `(tactic| fail)
section
set_option maxRecDepth 100000
local macro_rules | `(tactic| walk_at "callWith ref") => `(tactic| (k_dflt (refine callWith_def_at (by assumption) (by assumption) ?_)))
set_option maxHeartbeats 1000000 in
theorem sorted_fn (w : World) {ro₀ : Led} {f : Addr} {S : Value → Prop} {key : Value → List Int} (M : Marks w ro₀ f S key) (hkey : ∀ a b, S a → S b → ile (key a) (key b) = !vlt b a) (l : Addr) (vs : List Value) (n : Nat) (hS : ∀ v ∈ vs, S v) (h64 : vs.length < 64) (fo : Obj) (fd : FuncData) (hfd : fo.data = .func fd) (hfo : (Mine.hd.heap_1 w.params).lookup f = some fo ∨ (f, fo) ∈ ro₀) :
    FnR w 289 14 ⟨[.ref l, .ref f], []⟩ ((l, listOf vs.toArray n) :: ro₀) [] (fun v o => ∃ R out c, v = .ref R ∧ o = [(R, listOf out.toArray c)] ∧ out.Perm vs ∧ Srt out) := by
  walk_at "mine enterC"
  rename_i h0 tk0 g L X T' F' hro hdp hun _ ot om hdt hdm N'
  have hl : Heap.IsList g l vs.toArray := ⟨_, hro (l, listOf vs.toArray n) (.head _), rfl, n, rfl⟩
  have hro0 : ∀ q ∈ ro₀, g.get? q.1 = some q.2 := fun q hq => hro q (.tail _ hq)
  have hgf : g.get? f = some fo := hfo.elim (fun h => X _ _ h) (fun h => hro0 _ h)
  (((repeat' (first | (k_unfold; walk_at "mine cl") | (walk_at "mine sE"; walk_at "mine ld"))); (all_goals try walk_at "mine fd")))
  rename Fr _ _ _ _ => F
  rename News _ _ _ _ => N
  rename_i Do _ hlt _
  refine For_turns F ?_ (fun _ => rfl) PassesOwn.never
  (((repeat' (first | (k_unfold; walk_at "mine cl") | (walk_at "mine sE"; walk_at "mine ld"))); (all_goals try walk_at "mine fd")))
  refine my_turnsL (fun i m nw => ∃ os Do c ot, nw = [(Do, listOf os.toArray c), (L + 1 + 1, ot), (L + 1, om)] ∧ (∃ v, ot.data = Data.cell v) ∧ os.Perm (vs.take i) ∧ Srt os ∧ (@LT.lt Nat _ (L + 1 + 1) Do) ∧ (∀ q ∈ [(Str.ofString "order", Value.ref Do)], m q.1 = some q.2)) rfl F N hl ⟨[], Do, 0, ot, rfl, ⟨_, hdt⟩, .nil, .nil, hlt.1, ?nm⟩ ?turn ?done
  case nm => ((repeat' (first | exact all_nil | (refine all_cons ?_ ?_; (focus (with_unfolding_all rfl))))))
  case turn =>
    (try clear F; try clear N; try clear hlt; try clear hdt)
    rintro I i m₁ nw h tk oI' hI hi hnI ⟨os, D, c, ot, rfl, ⟨v0, hot⟩, hperm, hsrt, hLD, hm⟩ F N
    generalize hx : vs.getD i .none = x
    have hSx : S x := by rw [← hx]; exact hS _ (getD_mem hi)
    replace F := fr_ov F hm
    (try clear hm)
    (try dsimp only [envOfC] at F N)
    k_lt hI
    have hDI : @Ne Nat D I := hnI _ (.head _)
    (try clear hnI)
    (((repeat' (first | (k_unfold; walk_at "mine cl") | (walk_at "mine sE"; walk_at "mine ld"))); (all_goals try walk_at "mine fd")))
    ((k_dflt (refine LCt.ListComp_T (F₀ := by k_asm) (by with_unfolding_all rfl) (by decide) (by rfl) (by decide) (by rfl) ?_); (((repeat' (first | (k_unfold; walk_at "mine cl") | (walk_at "mine sE"; walk_at "mine ld"))); (all_goals try walk_at "mine fd")))))
    rename Fr _ _ _ _ => F
    rename News _ _ _ _ => N
    rename Obj.data _ = Data.cell (some x) => hdx
    have hol : os.length ≤ 64 := by rw [hperm.length_eq, List.length_take]; omega
    have hSo : ∀ v ∈ os, S v := fun v hv => hS v (List.mem_of_mem_take (hperm.mem_iff.mp hv))
    refine LCt.CompSrcT.ledger (by rfl) F N (.tail _ (.head _)) (by rw [List.size_toArray, sizeLine_eq]; omega) fun g' => ?_
    rw [List.size_toArray]
    refine comp_goT os.length (fun k ys => ys = (os.take k).filter (fun o => !vlt x o)) ?hz ?hs os.length 0 [] (by omega) rfl
    case hs =>
      (try clear F; try clear N)
      rintro k ys hk rfl v Ia oI2 C oC D2 m₂ h tk E' hv' hC hx' F N off ne
      have hvk : os.getD k .none = v := by
        have : os[k]? = some v := by simpa using hv'
        rw [List.getD_eq_getElem?_getD, this]; rfl
      have hSv : S v := by rw [← hvk]; exact hSo _ (getD_mem hk)
      (((repeat' (first | (k_unfold; walk_at "mine cl") | (walk_at "mine sE"; walk_at "mine ld"))); (all_goals try walk_at "mine fd")))
      rename Fr _ _ _ _ => F
      rename News _ _ _ _ => N
      refine fn_call (rest := _) (own := []) (M v hSv) (by assumption) (by assumption) F N (fun _ hp => nomatch hp) (ro_keep2 F hro0) rest_all (by omega) (by omega) (un_31 ?_)
      rintro R₁ k₁ n₁ hk₁ h₂ tk₂ F₂ N₂ -
      (try clear F; try clear N)
      dsimp only [List.cons_append, List.nil_append] at N₂
      (((repeat' (first | (k_unfold; walk_at "mine cl") | (walk_at "mine sE"; walk_at "mine ld"))); (all_goals try walk_at "mine fd")))
      rename Fr _ _ _ _ => F
      rename News _ _ _ _ => N
      refine fn_call (rest := _) (own := []) (M x hSx) (by assumption) (by assumption) F N (fun _ hp => nomatch hp) (ro_keep2 F hro0) rest_all (by omega) (by omega) (un_31 ?_)
      rintro R₂ k₂ n₂ hk₂ h₃ tk₃ F₂ N₂ -
      (try clear F; try clear N)
      dsimp only [List.cons_append, List.nil_append] at N₂
      (((repeat' (first | (k_unfold; walk_at "mine cl") | (walk_at "mine sE"; walk_at "mine ld"))); (all_goals try walk_at "mine fd")))
      rename Fr _ _ _ _ => F
      rename News _ _ _ _ => N
      refine my_listle N (.tail _ (.head _)) (.head _) hk₁ hk₂ (by show (arnd _ _ _ _).units < _; dsimp only [arnd]; omega) ?_
      rw [hkey v x hSv hSx]
      cases hc : vlt x v
      · simp only [Bool.not_false]
        (((repeat' (first | (k_unfold; walk_at "mine cl") | (walk_at "mine sE"; walk_at "mine ld"))); (all_goals try walk_at "mine fd")))
        refine LCg.CompEnd.intro F N _ (fun p hp => .tail _ (.tail _ hp)) off (.inr ⟨_, .tail _ (.head _), rfl, _, rfl⟩) ⟨?_, rfl⟩
        rw [filt_snoc hk, hvk, if_neg (by simp [hc])]
      · simp only [Bool.not_true]
        (((repeat' (first | (k_unfold; walk_at "mine cl") | (walk_at "mine sE"; walk_at "mine ld"))); (all_goals try walk_at "mine fd")))
        refine LCg.CompEnd.intro F N _ (fun p hp => .tail _ (.tail _ hp)) off (.inr ⟨_, .tail _ (.head _), rfl, _, rfl⟩) ⟨?_, rfl⟩
        rw [filt_snoc hk, hvk, if_pos hc, List.append_nil]
    case hz =>
      (try clear F; try clear N)
      rintro ys rfl
      rw [List.take_length]
      unfold LCg.FinE
      intro D₃ h₄ tk₄ F N off
      simp only [LCg.Off1, and_true] at off
      have hins := srt_ins (x := x) hsrt
      have hpe := ins_perm (x := x) (os := os) (os.filter fun o => !vlt x o).length
      have hpl : (os.filter fun o => !vlt x o).length ≤ os.length := List.length_filter_le _ _
      generalize (os.filter fun o => !vlt x o) = ys at *
      replace N : News _ _ h₄ ((D₃, listOf ys.toArray ys.length) :: _) := N
      (((repeat' (first | (k_unfold; walk_at "mine cl") | (walk_at "mine sE"; walk_at "mine ld"))); (all_goals try walk_at "mine fd")))
      rename Fr _ _ _ _ => F
      rename News _ _ _ _ => N
      refine my_upto (s := ⟨_, _, _, _, _⟩) F N (.tail _ (.tail _ (.head _))) (by omega) fun D₄ h₅ F N hD₄ => ?_
      k_lt hD₄
      (((repeat' (first | (k_unfold; walk_at "mine cl") | (walk_at "mine sE"; walk_at "mine ld"))); (all_goals try walk_at "mine fd")))
      rename Fr _ _ _ _ => F
      rename News _ _ _ _ => N
      refine my_addL (ys := [x]) F N (by k_mem) (by k_mem) (by rw [List.length_take, List.length_singleton]; omega) fun D₅ h₆ tk₆ c₆ F N hD₅ => ?_
      k_lt hD₅
      (((repeat' (first | (k_unfold; walk_at "mine cl") | (walk_at "mine sE"; walk_at "mine ld"))); (all_goals try walk_at "mine fd")))
      refine my_from (s := ⟨_, _, _, _, _⟩) (a := D) (xs := os) F N (by k_mem) (by omega) fun D₆ h₇ F N hD₆ => ?_
      k_lt hD₆
      (((repeat' (first | (k_unfold; walk_at "mine cl") | (walk_at "mine sE"; walk_at "mine ld"))); (all_goals try walk_at "mine fd")))
      rename Fr _ _ _ _ => F
      rename News _ _ _ _ => N
      refine my_addL F N (by k_mem) (by k_mem) (by simp only [List.length_append, List.length_take, List.length_drop, List.length_singleton]; omega) fun D₇ h₈ tk₈ c₈ F N hD₇ => ?_
      k_lt hD₇
      (((repeat' (first | (k_unfold; walk_at "mine cl") | (walk_at "mine sE"; walk_at "mine ld"))); (all_goals try walk_at "mine fd")))
      refine HeldP.mk ⟨[(D₇, _), (L + 1 + 1, _), (L + 1, om)], by k_mem, ?sub, all_cons (Nat.ne_of_gt (by omega)) (all_cons (Nat.ne_of_lt (by omega)) (all_cons (Nat.ne_of_lt (by omega)) all_nil)), _, D₇, c₈, _, rfl, ⟨_, hdx⟩, ?perm, hins, by omega, ?nm2⟩
      case sub => exact all_cons (by k_mem) (all_cons (by k_mem) (all_cons (by k_mem) all_nil))
      case perm =>
        refine hpe.trans ?_
        rw [List.take_add_one, List.getElem?_eq_getElem hi]
        have : x = vs[i] := by rw [← hx, List.getD_eq_getElem?_getD, List.getElem?_eq_getElem hi]; rfl
        rw [this]
        exact hperm.append_right _
      case nm2 => ((repeat' (first | exact all_nil | (refine all_cons ?_ ?_; (focus (with_unfolding_all rfl))))))
  case done =>
    rintro m₁ nw h tk ⟨os, D, c, ot, rfl, -, hperm, hsrt, hLD, hm⟩ F₃ N₃
    (try clear F; try clear N)
    replace F₃ := fr_ov F₃ hm
    (try clear hm)
    rw [List.take_length] at hperm
    (try dsimp only [envOfC] at F₃ N₃)
    (((repeat' (first | (k_unfold; walk_at "mine cl") | (walk_at "mine sE"; walk_at "mine ld"))); (all_goals try walk_at "mine fd")))
    exact HeldP.mk ⟨[(D, _)], ⟨D, os, c, rfl, rfl, hperm, hsrt⟩, fun q hq => by rw [List.mem_singleton.mp hq]; exact .head _⟩
end
noncomputable section
set_option maxRecDepth 100000
set_option linter.unusedVariables false
theorem ile_map {f : UInt8 → Int} : ∀ (a b : List UInt8), (∀ x ∈ a, ∀ y ∈ b, (f x = f y ↔ x = y) ∧ (f x ≤ f y ↔ x ≤ y)) → ile (a.map f) (b.map f) = !blt b a
  | [], b, _ => by
    cases b <;> simp [ile, blt, Builtin.Bytes.order]
  | x :: a, [], _ => by simp [ile, blt, Builtin.Bytes.order]
  | x :: a, y :: b, h => by
    have ih := ile_map (f := f) a b fun x hx y hy => h x (.tail _ hx) y (.tail _ hy)
    obtain ⟨h1, h2⟩ := h x (.head _) y (.head _)
    rw [List.map_cons, List.map_cons, ile]
    unfold blt at ih ⊢
    rw [Builtin.Bytes.order]
    by_cases he : x = y
    · subst he
      rw [if_pos rfl, ih]
      simp [UInt8.lt_irrefl]
    · rw [if_neg (fun q => he (h1.mp q))]
      by_cases hlt : y < x
      · rw [if_pos hlt]
        have : ¬ f x ≤ f y := fun q => UInt8.not_lt.mpr (h2.mp q) hlt
        simp [this]
      · have hle := UInt8.not_lt.mp hlt
        have hgt : y > x := UInt8.lt_of_le_of_ne hle he
        rw [if_neg hlt, if_pos hgt]
        simp [h2.mpr hle]
theorem sgl_lt : ∀ i j : Nat, i < j → j < SGL.length → SGL.getD i 0 < SGL.getD j 0 := by
  have hp : SGL.Pairwise (· < ·) := by decide
  intro i j hij hj
  have := List.pairwise_iff_getElem.mp hp i j (by omega) hj hij
  rw [List.getD_eq_getElem?_getD, List.getD_eq_getElem?_getD, List.getElem?_eq_getElem (by omega : i < SGL.length), List.getElem?_eq_getElem hj]
  exact this
theorem sgl_at {c : Nat} (hc : c ∈ SGL) : plc c < SGL.length ∧ SGL.getD (plc c) 0 = c := by
  have hlt := List.idxOf_lt_length_of_mem hc
  refine ⟨hlt, ?_⟩
  unfold plc
  rw [List.getD_eq_getElem?_getD, List.getElem?_eq_getElem hlt]
  exact List.getElem_idxOf hlt
theorem plc_mono {c d : Nat} (hc : c ∈ SGL) (hd : d ∈ SGL) : (plc c = plc d ↔ c = d) ∧ (plc c ≤ plc d ↔ c ≤ d) := by
  obtain ⟨h1, e1⟩ := sgl_at hc
  obtain ⟨h2, e2⟩ := sgl_at hd
  constructor
  · constructor
    · intro h; rw [← e1, ← e2, h]
    · intro h; rw [h]
  · constructor
    · intro h
      rcases Nat.lt_or_eq_of_le h with h | h
      · have := sgl_lt _ _ h h2
        rw [e1, e2] at this; omega
      · rw [← e1, ← e2, h]; exact Nat.le_refl _
    · intro h
      rcases Nat.lt_or_ge (plc d) (plc c) with q | q
      · have := sgl_lt _ _ q h1
        rw [e1, e2] at this; omega
      · exact q
noncomputable def rowKey (v : Value) : List Int := (bk v).map fun c => ((c.toNat : Nat) : Int)
noncomputable def plcKey (v : Value) : List Int := (bk v).map fun c => ((plc c.toNat : Nat) : Int)
theorem rowKey_le (a b : Value) : ile (rowKey a) (rowKey b) = !vlt b a := ile_map _ _ fun x _ y _ => by
  refine ⟨?_, ?_⟩
  · rw [Int.ofNat_inj]; exact UInt8.toNat_inj
  · rw [Int.ofNat_le]; exact (UInt8.le_iff_toNat_le).symm
theorem plcKey_le (a b : Value) (ha : ∀ c ∈ bk a, c.toNat ∈ SGL) (hb : ∀ c ∈ bk b, c.toNat ∈ SGL) : ile (plcKey a) (plcKey b) = !vlt b a := ile_map _ _ fun x hx y hy => by
  obtain ⟨h1, h2⟩ := plc_mono (ha x hx) (hb y hy)
  refine ⟨?_, ?_⟩
  · rw [Int.ofNat_inj, h1]; exact UInt8.toNat_inj
  · rw [Int.ofNat_le, h2]; exact (UInt8.le_iff_toNat_le).symm
end
noncomputable section
set_option maxRecDepth 100000
set_option linter.unusedVariables false
noncomputable def Menu : List UInt8 := [0, 62, 251, 255, 104]
noncomputable def AllRows : List (List UInt8) := (Menu.map fun a => [a]) ++ (Menu.flatMap fun a => Menu.map fun b => [a, b]) ++ (Menu.flatMap fun a => Menu.flatMap fun b => Menu.map fun c => [a, b, c])
theorem menu_at (j : Nat) : (menu5.getD j 0).toUInt8 ∈ Menu := by
  rcases j with _ | _ | _ | _ | _ | j
  all_goals first | decide | skip
  show (0 : Nat).toUInt8 ∈ Menu
  decide
theorem row_mem (x : Int) : (rowOf x).map Nat.toUInt8 ∈ AllRows := by
  have hm : ∀ k, (rowAt x k).toUInt8 ∈ Menu := fun k => menu_at _
  obtain ⟨-, h1, h3⟩ := rowN_eq x
  unfold rowOf AllRows
  obtain e | e | e : rowN x = 1 ∨ rowN x = 2 ∨ rowN x = 3 := by omega
  · rw [e]
    refine List.mem_append_left _ (List.mem_append_left _ (List.mem_map.mpr ⟨_, hm 0, rfl⟩))
  · rw [e]
    refine List.mem_append_left _ (List.mem_append_right _ (List.mem_flatMap.mpr ⟨_, hm 0, List.mem_map.mpr ⟨_, hm 1, rfl⟩⟩))
  · rw [e]
    refine List.mem_append_right _ (List.mem_flatMap.mpr ⟨_, hm 0, List.mem_flatMap.mpr ⟨_, hm 1, List.mem_map.mpr ⟨_, hm 2, rfl⟩⟩⟩)
theorem rows_len : ∀ l ∈ AllRows, 1 ≤ l.length ∧ l.length ≤ 3 := by decide +kernel
theorem rows_hexl : ∀ l ∈ AllRows, ((hexl l).map Nat.toUInt8).map Builtin.Bytes.toUpper = figB l := by decide +kernel
theorem rows_figs : ∀ l ∈ AllRows, (figB l).length = 2 * l.length ∧ ∀ c ∈ figB l, hexval c.toNat < 16 ∧ ((48 ≤ c.toNat ∧ c.toNat ≤ 57) ∨ (65 ≤ c.toNat ∧ c.toNat ≤ 70)) := by decide +kernel
theorem rows_unhex : ∀ l ∈ AllRows, (unhexB (figB l).toArray l.length).map Nat.toUInt8 = l := by decide +kernel
theorem rows_enc : ∀ l ∈ AllRows, enc64 (l.map UInt8.toNat) = lawL l := by decide +kernel
theorem rows_let : ∀ l ∈ AllRows, (lawL l).length = 4 ∧ ∀ c ∈ lawL l, c ∈ SGL := by decide +kernel
theorem rows_dec : ∀ l ∈ AllRows, (∀ i, i < l.length + 1 → b64val ((lawL l).getD i 0) < 64) ∧ (∀ i, i < 4 → l.length + 1 ≤ i → (lawL l).getD i 0 = 61) ∧ (dec64 (fun i => b64val ((lawL l).getD i 0)) (l.length + 1)).map Nat.toUInt8 = l := by decide +kernel
end
noncomputable section
set_option maxRecDepth 100000
set_option linter.unusedVariables false
theorem rank_map {f : List UInt8 → List UInt8} (hf : ∀ a b, blt (f a) (f b) = blt a b) {i : Nat} {K : List UInt8} {all : List (List UInt8)} (h : Rank blt i K all) : Rank blt i (f K) (all.map f) := by
  obtain ⟨A, B, h1, h2, h3, h4⟩ := h
  refine ⟨A.map f, B.map f, ?_, by rw [List.length_map, h2], fun a ha => ?_, fun b hb => ?_⟩
  · rw [← List.map_cons, ← List.map_append]; exact h1.map f
  · obtain ⟨c, hc, rfl⟩ := List.mem_map.mp ha
    rw [hf]; exact h3 c hc
  · obtain ⟨c, hc, rfl⟩ := List.mem_map.mp hb
    rw [hf]; exact h4 c hc
theorem rank_mem {lb : List UInt8 → List UInt8 → Bool} {i : Nat} {K : List UInt8} {all : List (List UInt8)} (h : Rank lb i K all) : K ∈ all := by
  obtain ⟨A, B, h1, -⟩ := h
  exact h1.mem_iff.mp (List.mem_append_right _ (.head _))
theorem figC_lt_iff : ∀ i, i < 16 → ∀ j, j < 16 → (((figC i).toUInt8 < (figC j).toUInt8 ↔ i < j) ∧ ((figC i).toUInt8 = (figC j).toUInt8 ↔ i = j)) := by decide +kernel
theorem figB_cons (c : UInt8) (l : List UInt8) : figB (c :: l) = (figC (c.toNat / 16)).toUInt8 :: (figC (c.toNat % 16)).toUInt8 :: figB l := rfl
theorem figB_lt : ∀ (a b : List UInt8), (figB a < figB b ↔ a < b)
  | [], [] => Iff.rfl
  | [], y :: b => by rw [figB_cons]; simp [figB, figL]
  | x :: a, [] => by rw [figB_cons]; simp [figB, figL]
  | x :: a, y :: b => by
    have ih := figB_lt a b
    have hx := x.toNat_lt
    have hy := y.toNat_lt
    obtain ⟨h1, h2⟩ := figC_lt_iff (x.toNat / 16) (by omega) (y.toNat / 16) (by omega)
    obtain ⟨h3, h4⟩ := figC_lt_iff (x.toNat % 16) (by omega) (y.toNat % 16) (by omega)
    rw [figB_cons, figB_cons, List.cons_lt_cons_iff, List.cons_lt_cons_iff, List.cons_lt_cons_iff, h1, h2, h3, h4, ih, UInt8.lt_iff_toNat_lt, ← UInt8.toNat_inj]
    by_cases hR : a < b
    · simp only [hR, and_true]; constructor <;> omega
    · simp only [hR, and_false, or_false]; constructor <;> omega
theorem blt_figB (a b : List UInt8) : blt (figB a) (figB b) = blt a b := by
  rw [blt_iff, blt_iff]
  exact decide_eq_decide.mpr (figB_lt a b)
/-- a row of the law -/
noncomputable def RowV (v : Value) : Prop := ∃ b t, v = .bytes b t ∧ b.toList ∈ AllRows
theorem RowV.isB {v : Value} (h : RowV v) : IsB v := let ⟨b, t, e, _⟩ := h; ⟨b, t, e⟩
theorem RowV.mem {v : Value} (h : RowV v) : bk v ∈ AllRows := by obtain ⟨b, t, rfl, h⟩ := h; exact h
noncomputable def letB (l : List UInt8) : List UInt8 := (lawL l).map Nat.toUInt8
end
noncomputable section
set_option maxRecDepth 100000
set_option linter.unusedVariables false
noncomputable def IsI (v : Value) : Prop := ∃ x t, v = .int x t
theorem ints_isI : ∀ {vs : List Value} {ns : List Int}, IntsAre vs ns → ∀ v ∈ vs, IsI v
  | _, _, .nil, v, h => nomatch h
  | _, _, .cons n t h, v, hv => by
    rcases List.mem_cons.mp hv with rfl | hv
    · exact ⟨_, _, rfl⟩
    · exact ints_isI h v hv
section
variable {prog : Program} {w : World} {A : Around} {E : Value → Shared → Prop} {s : Shared} {h₀ : Heap} {L a b D : Addr} {m : Str → Option Value} {news : Led} {xs ys : List Value} {n k p : Nat} {t : Tok}
theorem my_uptoB {value slice : Expr} {Q : Value → Shared → Prop} (F : Fr h₀ L s.heap m) (N : News h₀ L s.heap news) (hl : h₀.IsList a xs.toArray) (hz : xs.length ≤ 1000)
    (h : ∀ D h', Fr h₀ L h' m → News h₀ L h' ((D, W.listOf (xs.take p).toArray 0) :: news) → (∀ p ∈ news, p.1 < D) → Q (.ref D) { s with heap := h' })
    (hs : subscripted slice false (.ref a) (.ref s.heap.objs.size) = operate [.ref s.heap.objs.size, .ref a] (getItem (.ref a) (.ref s.heap.objs.size)) := by with_unfolding_all rfl) (ht : ∀ r, letTemporaryGo value (.ref a) r = pure () := by intro _; with_unfolding_all rfl) :
    wpAny (model prog w) A (subscriptTail value slice (.ref a) (.ref s.heap.objs.size)) Q E { s with heap := s.heap.push { cls := .type "slice", data := .fields #[.none, .int (p : Int) t, .none] } } := by
  refine kmk_slice_lit (hi := some (p : Int)) F N (hl.at fun o e => F.keep _ o e) .none (.int _ _) ?_ h hs ht (by rw [List.size_toArray, sizeLine_eq]; omega)
  rw [slicePick_upto']
theorem my_addG {Q : Value → Shared → Prop} (F : Fr h₀ L s.heap m) (N : News h₀ L s.heap news) (ha : (a, W.listOf xs.toArray n) ∈ news) (hb : (b, W.listOf ys.toArray k) ∈ news) (hz : xs.length + ys.length ≤ 1000)
    (h : ∀ zs, zs = xs ++ ys → ∀ D h' tk c, Fr h₀ L h' m → News h₀ L h' ((D, W.listOf zs.toArray c) :: news) → (∀ p ∈ news, p.1 < D) → Q (.ref D) { s with heap := h', toks := tk }) : wpAny (model prog w) A (binaryOp .Add (.ref a) (.ref b)) Q E s :=
  my_addL F N ha hb hz fun D h' tk c => h _ rfl D h' tk c
end
theorem zs_ok {vs ys zs : List Value} {ns : List Int} (e : zs = vs.take 7 ++ ys) (hI : IntsAre vs ns) (hy : ∀ v ∈ ys, IsI v) (h6 : ys.length = 6) : (∀ v ∈ zs, IsI v) ∧ 6 ≤ zs.length ∧ zs.length ≤ 13 := by
  subst e
  refine ⟨fun v hv => (List.mem_append.mp hv).elim (fun h => ints_isI hI v (List.mem_of_mem_take h)) (hy v), ?_⟩
  rw [List.length_append, List.length_take]; omega
theorem news_head {h₀ h : Heap} {L : Addr} {q : Addr × Obj} {rest : Led} (N : News h₀ L h (q :: rest)) : ∃ o, o = q.2 ∧ News h₀ L h ((q.1, o) :: rest) := ⟨_, rfl, N⟩
theorem news_sub {h₀ h : Heap} {L : Addr} {l l' : Led} (N : News h₀ L h l) (hs : ∀ q ∈ l', q ∈ l) : News h₀ L h l' := fun q hq => N q (hs q hq)
theorem ro_news {h₀ h : Heap} {L : Addr} {l ro : Led} (N : News h₀ L h l) (hs : ∀ q ∈ ro, q ∈ l) : ∀ q ∈ ro, h.get? q.1 = some q.2 ∧ q.1 ∉ ([] : Led).map (·.1) := fun q hq => ⟨(N q (hs q hq)).1, fun h => nomatch h⟩
theorem fn_enterLo {w : World} {f : Addr} {d : Nat} {args : Args} {ro own : Led} {P : Value → Led → Prop} {o : Obj}
    {name qual : Str} {params : Arguments} {body : Expr} {scope : Scope} {pm ctv : Value} {c' : Addr} {oc : Obj} {vsc : Array Value} {tq : Tok} {binds : List (Str × Value)}
    (ho : o = kla_obj name qual params body scope [] pm c' ctv) (hm : (f, o) ∈ ro) (hmc : (c', oc) ∈ ro) (h1 : oc.data = .fields vsc) (h2 : vsc[1]? = some (.str qual tq)) (hd : 0 < d)
    (hbind : bindArgs (kla_fn name qual params body scope [] pm (.ref c') ctv) args = pure binds) (hloc : ∀ y ∈ binds, scope.names.lookup y.1 = some .local)
    (hbody : ∀ (p : Program) (loose : List Str) (mean : ExcName → Option Value) (mg mb : Str → Option Value) (dp un : Nat) (fr : Option (List Env)) (gd : Option (List Code)) (s₁ : Shared) (h : Heap) (tk : Nat) (g : Heap) (L : Addr),
      (Mine.hd.heap_1 w.params).In g → Top p loose mean mg mb g → Fr g L h (fun y => binds.reverse.lookup y) → News g L h own → (∀ q ∈ own, q.1 < L) → (∀ q ∈ ro, g.get? q.1 = some q.2) →
      dp + d < recursionLimit + 1 → un + 8 * d < cLine + 3 →
      wpAny (model PySem.Challenge.rw_kq0059_01.prog w) (arnd dp un fr gd) (eval body (envX qual scope L f (.ref c') [])) (fun v s' => FnEnd g L P v s' s₁) (fun _ _ => False) { s₁ with heap := h, toks := tk })
    (hco : scope.isCoroutine = false) (hgen : scope.isGenerator = false) (hk : scope.kind = .function)
    (hcell : ∀ x ∈ scope.names, x.2 ≠ .cell) : FnR w f d args ro own P :=
  fn_enterL (by rw [← ho]; exact hm) hmc h1 h2 hd hbind hloc hbody hco hgen hk hcell
/-- the rows made so far -/
noncomputable def RowsAre (i : Nat) (ys : List Value) : Prop := ys.length = i ∧ ∀ v ∈ ys, RowV v
theorem rows_snoc {i : Nat} {ys : List Value} {v : Value} (h : RowsAre i ys) (hv : RowV v) : RowsAre (i + 1) (ys ++ [v]) := by
  refine ⟨by rw [List.length_append, h.1, List.length_singleton], fun u hu => ?_⟩
  rcases List.mem_append.mp hu with hu | hu
  · exact h.2 u hu
  · rw [List.mem_singleton.mp hu]; exact hv
/-- ys are what f makes of the first i of vs -/
noncomputable def MapsTo (f : List UInt8 → List UInt8) (vs : List Value) (i : Nat) (ys : List Value) : Prop := (∀ v ∈ ys, IsB v) ∧ ys.map bk = (vs.take i).map fun v => f (bk v)
theorem maps_nil {f : List UInt8 → List UInt8} {vs : List Value} : MapsTo f vs 0 [] := And.intro (fun _ h => nomatch h) rfl
theorem maps_snoc {f : List UInt8 → List UInt8} {vs ys : List Value} {i : Nat} {v : Value} (h : MapsTo f vs i ys) (hi : i < vs.length) (hv : IsB v) (e : bk v = f (bk (vs.getD i .none))) : MapsTo f vs (i + 1) (ys ++ [v]) := by
  refine ⟨fun u hu => ?_, ?_⟩
  · rcases List.mem_append.mp hu with hu | hu
    · exact h.1 u hu
    · rw [List.mem_singleton.mp hu]; exact hv
  · rw [List.map_append, h.2, List.take_add_one, List.map_append, List.getElem?_eq_getElem hi]
    congr 1
    rw [List.getD_eq_getElem?_getD, List.getElem?_eq_getElem hi] at e
    show [bk v] = [f (bk vs[i])]
    rw [e]; rfl
theorem maps_all {f : List UInt8 → List UInt8} {vs ys : List Value} {n : Nat} (h : MapsTo f vs n ys) (hn : vs.length = n) : ys.map bk = (vs.map bk).map f ∧ ys.length = n := by
  have e := h.2
  rw [← hn, List.take_length] at e
  refine ⟨by rw [e, List.map_map]; rfl, ?_⟩
  have := congrArg List.length e
  simpa [hn] using this
end
noncomputable section
set_option maxRecDepth 100000
set_option linter.unusedVariables false
theorem row_at {rs : List Value} {i : Nat} {v : Value} (hR : ∀ v ∈ rs, RowV v) (h : rs.toArray[i]? = some v) : ∃ b t, v = .bytes b t ∧ b.toList ∈ AllRows ∧ b.size ≤ 3 ∧ 1 ≤ b.size ∧ i < rs.length ∧ rs.getD i .none = .bytes b t := by
  have h' : rs[i]? = some v := by simpa using h
  obtain ⟨hi, e⟩ := List.getElem?_eq_some_iff.mp h'
  obtain ⟨b, t, rfl, hb⟩ := hR v (e ▸ List.getElem_mem hi)
  have hl := rows_len _ hb
  rw [Array.length_toList] at hl
  exact ⟨b, t, rfl, hb, hl.2, hl.1, hi, by rw [List.getD_eq_getElem?_getD, h']; rfl⟩
theorem hx_fig {b : Array UInt8} (hb : b.toList ∈ AllRows) : ((hexout b).map Nat.toUInt8).toList.map Builtin.Bytes.toUpper = figB b.toList := by
  rw [hexout_eq, Array.toList_map]
  exact rows_hexl _ hb
theorem en_let {b : Array UInt8} (hb : b.toList ∈ AllRows) : (enc64 (b.toList.map UInt8.toNat)).map Nat.toUInt8 = letB b.toList := by
  rw [rows_enc _ hb]; rfl
theorem bints_eq (b : Array UInt8) : KBw.bInts b = (b.toList.map UInt8.toNat).map fun (n : Nat) => (n : Int) := by
  unfold KBw.bInts
  rw [List.map_map]; rfl
theorem sgl_lt256 : ∀ c ∈ SGL, c < 128 := by decide +kernel
theorem lawL_ok {l : List UInt8} (h : l ∈ AllRows) {S : Str} (e : S.cps.toList = lawL l) : (∀ c ∈ S.cps.toList, c < 128) ∧ S.cps.size = 4 := by
  obtain ⟨h4, hs⟩ := rows_let l h
  refine ⟨fun c hc => sgl_lt256 c (hs c (e ▸ hc)), ?_⟩
  rw [← Array.length_toList, e, h4]
theorem let_bytes {l : List UInt8} {S : Str} {t : Tok} (e : S.cps.toList = lawL l) : bk (.bytes (S.cps.map Nat.toUInt8) t) = letB l := by
  show (S.cps.map Nat.toUInt8).toList = _
  rw [Array.toList_map, e]; rfl
/-- a row's letters decode to the row -/
theorem let_decode {l : List UInt8} (h : l ∈ AllRows) {b : Array UInt8} (e : b.toList = letB l) :
    (KBw.bInts b = (lawL l).map fun (n : Nat) => (n : Int)) ∧ (lawL l).length = 4 ∧ 2 ≤ l.length + 1 ∧ l.length + 1 ≤ 4 ∧ (∀ i, i < l.length + 1 → b64val ((lawL l).getD i 0) < 64) ∧
    (∀ i, l.length + 1 ≤ i → i < 4 → (lawL l).getD i 0 = 61) ∧ (dec64 (fun i => b64val ((lawL l).getD i 0)) (l.length + 1)).map Nat.toUInt8 = l := by
  obtain ⟨h1, h3⟩ := rows_len l h
  obtain ⟨h4, hs⟩ := rows_let l h
  obtain ⟨d1, d2, d3⟩ := rows_dec l h
  refine ⟨?_, h4, by omega, by omega, d1, fun i hi hi4 => d2 i hi4 hi, d3⟩
  unfold KBw.bInts
  rw [e, letB, List.map_map]
  refine List.map_congr_left fun c hc => ?_
  have : c < 256 := Nat.lt_trans (sgl_lt256 c (hs c hc)) (by decide)
  show ((c.toUInt8.toNat : Nat) : Int) = (c : Int)
  rw [Nat.toUInt8, UInt8.toNat_ofNat', Nat.mod_eq_of_lt this]
theorem let_sgl {l : List UInt8} (h : l ∈ AllRows) : ∀ c ∈ letB l, c.toNat ∈ SGL := by
  obtain ⟨h4, hs⟩ := rows_let l h
  intro c hc
  obtain ⟨n, hn, rfl⟩ := List.mem_map.mp hc
  have : n < 256 := Nat.lt_trans (sgl_lt256 n (hs n hn)) (by decide)
  rw [Nat.toUInt8, UInt8.toNat_ofNat', Nat.mod_eq_of_lt this]
  exact hs n hn
theorem let_len {l : List UInt8} (h : l ∈ AllRows) : (letB l).length = 4 := by
  unfold letB
  rw [List.length_map, (rows_let l h).1]
/-- a row's figures decode to the row -/
theorem fig_decode {l : List UInt8} (h : l ∈ AllRows) {b : Array UInt8} (e : b.toList = figB l) :
    b.size = 2 * l.length ∧ b.size ≤ 100 ∧ (∀ c ∈ b.toList, hexval c.toNat < 16) ∧ (∀ c ∈ b.toList, upHex c.toNat) ∧ (unhexB b l.length).map Nat.toUInt8 = l := by
  obtain ⟨h1, h3⟩ := rows_len l h
  obtain ⟨f1, f2⟩ := rows_figs l h
  have hu := rows_unhex l h
  have hz : b.size = 2 * l.length := by rw [← Array.length_toList, e, f1]
  have eb : b = (figB l).toArray := by rw [← e]
  refine ⟨hz, by omega, fun c hc => (f2 c (e ▸ hc)).1, fun c hc => (f2 c (e ▸ hc)).2, ?_⟩
  rw [eb]; exact hu
end
noncomputable section
set_option maxRecDepth 100000
set_option linter.unusedVariables false
theorem mem_eq {x r : List UInt8} {l : List (List UInt8)} (e : x = r) (h : r ∈ l) : x ∈ l := e ▸ h
/-- a row's letters -/
noncomputable def LetV (v : Value) : Prop := ∃ b t, v = .bytes b t ∧ ∃ r, r ∈ AllRows ∧ b.toList = letB r
theorem LetV.isB {v : Value} (h : LetV v) : IsB v := let ⟨b, t, e, _⟩ := h; ⟨b, t, e⟩
theorem LetV.sgl {v : Value} (h : LetV v) : ∀ c ∈ bk v, c.toNat ∈ SGL := by
  obtain ⟨b, t, rfl, r, hr, e⟩ := h
  show ∀ c ∈ b.toList, _
  rw [e]; exact let_sgl hr
theorem places_marks (w : World) : Marks w [] 284 LetV plcKey := by
  rintro x ⟨b, t, rfl, r, hr, e⟩
  have h4 : b.size = 4 := by rw [← Array.length_toList, e, let_len hr]
  intro p loose mean mg mb dp un fr gd s base R X T st hown hro hdp hun hret
  refine places_fn w b t (by omega) (by omega) (by rw [e]; exact let_sgl hr) p loose mean mg mb dp un fr gd s base R X T st hown hro hdp hun fun v own' h' tk' hP hA => ?_
  obtain ⟨D, vs, rfl, rfl, hI⟩ := hP
  exact hret _ _ h' tk' ⟨D, vs, vs.length, rfl, rfl, hI⟩ hA
theorem maps_let {rs ms : List Value} {n : Nat} (hR : ∀ v ∈ rs, RowV v) (h : MapsTo letB rs n ms) (hn : rs.length = n) : ∀ v ∈ ms, LetV v ∧ ∃ r, r ∈ rs.map bk ∧ r ∈ AllRows ∧ bk v = letB r := by
  intro v hv
  obtain ⟨e, -⟩ := maps_all h hn
  obtain ⟨b, t, rfl⟩ := h.1 v hv
  have hm : bk (.bytes b t) ∈ (rs.map bk).map letB := e ▸ List.mem_map_of_mem hv
  obtain ⟨r, hr, er⟩ := List.mem_map.mp hm
  obtain ⟨u, hu, rfl⟩ := List.mem_map.mp hr
  exact ⟨⟨b, t, rfl, _, (hR u hu).mem, er.symm⟩, _, hr, (hR u hu).mem, er.symm⟩
end
noncomputable section
set_option maxRecDepth 100000
set_option maxHeartbeats 1000000 in
theorem lam_marks (w : World) {name qual : Str} {pm ctL : Value} {cL fL : Addr} {oL oF : Obj} {vL : Array Value} {tL : Tok} {p1 p2 p3 p4 : Pos}
    (hoF : oF = kla_obj name qual { posonlyargs := [], args := [{ arg := Str.ofString "row", annotation := none, pos := p1 }], vararg := none, kwonlyargs := [], kw_defaults := [], kwarg := none, defaults := [] }
      (Expr.Call (Expr.Name (Str.ofString "list") p2) [Expr.Name (Str.ofString "row") p3] [] p4)
      { kind := .function, names := [(Str.ofString "row", .local), (Str.ofString "list", .globalImplicit)], isGenerator := false, isCoroutine := false } [] pm cL ctL)
    (d1 : oL.data = .fields vL) (d2 : vL[1]? = some (.str qual tL)) : Marks w [(fL, oF), (cL, oL)] fL RowV rowKey := by
  rintro x ⟨b, t, rfl, hb⟩
  refine fn_enterLo hoF (.head _) (.tail _ (.head _)) d1 d2 (by decide) rfl ?hloc ?hbody rfl rfl rfl ?hcell
  case hloc => exact all_cons (by with_unfolding_all rfl) all_nil
  case hcell => decide +kernel
  intro p loose mean mg mb dp un fr gd s₁ h tk g L X T F N hown hro hdp hun
  have hb3 := (rows_len _ hb).2
  rw [Array.length_toList] at hb3
  (((repeat' (first | (k_unfold; walk_at "mine cl") | (walk_at "mine sE"; walk_at "mine ld"))); (all_goals try walk_at "mine fd")))
  refine my_listB (by rfl) F N (by omega) fun D h' tk' vs n hD hI F N => ?_
  (((repeat' (first | (k_unfold; walk_at "mine cl") | (walk_at "mine sE"; walk_at "mine ld"))); (all_goals try walk_at "mine fd")))
  exact HeldP.mk ⟨D, vs, n, rfl, rfl, hI⟩
theorem fo_of {w : World} {f : Addr} {name qual : Str} {params : Arguments} {body : List Stmt} {scope : Scope} {dV kV doc pm cdv ct oc : Value} {an od : Option Addr} {osl : Array (Option Value)}
    (ho : (Mine.hd.heap_1 w.params).lookup f = some ⟨oc, od, .func (fnOf name qual params body scope dV kV doc pm an cdv ct), osl⟩) : ∃ fo fd, fo.data = Data.func fd ∧ (Mine.hd.heap_1 w.params).lookup f = some fo := ⟨_, _, rfl, ho⟩
theorem plc_fo (w : World) : ∃ fo fd, fo.data = Data.func fd ∧ (Mine.hd.heap_1 w.params).lookup 284 = some fo := by
  refine' fo_of ?k6
  case k6 => k_is
end
local macro_rules | `(tactic| walk_at "mine sF") => `(tactic| (walk_at "mine sE"; (fail_if_success (with_reducible show wpAny _ _ (compareOp CmpOp.NotIn _ _) _ _ _))))
section
set_option maxRecDepth 100000
local macro_rules | `(tactic| walk_at "callWith ref") => `(tactic| (k_dflt (refine' callWith_K ?k1 ?k2 ?_; (case k1 => k_asm); (case k2 => k_is); k_whole)))
local macro_rules | `(tactic| k_qdec) => `(tactic| fail "off")
set_option maxHeartbeats 8000000 in
theorem lawThm : PySem.Challenge.rw_kq0059_01.Holds := by
  refine Mine.hd ⟨Mine.hdLeft, ?_⟩
  k_go0
  rename_i w s0 s1 mg mb G Y fa ofa pm doc kV hofa hgens MX LV TP TB TE TW hcd ns hs hlay hL1 hr1 hl2 w4 w3 l vs w0 hl0 ra w1 r0 hI hrw hlen hc2 hD h1 X T K F N l0
  have hdp : callerA.depth + 1 + 40 < recursionLimit := by decide
  have hun : callerA.units + 3 + 8 * 40 < cLine := by decide
  have hlen63 : ns.length ≤ 63 := by omega
  refine (fun h => h : wpAny (model PySem.Challenge.rw_kq0059_01.prog w) (arnd (callerA.depth + 1) (callerA.units + 3) _ _) _ _ _ _ → _) ?_
  refine wpAny_mono (Q := fun f s' => ∃ h tk ps m, f = Flow.ret (.bool true) ∧ s' = { s1 with heap := h, toks := tk } ∧ Fr (ghostOf s1.heap [(298, 296)]) s1.heap.objs.size h m ∧ News (ghostOf s1.heap [(298, 296)]) s1.heap.objs.size h [(296, tabObj ps)]) (E := fun _ _ => False) ?body ?post (fun _ _ x => False.elim x)
  case post =>
    rintro f s' ⟨h, tk, ps, m, rfl, rfl, F', N'⟩
    (try clear F; try clear N; try clear l0; try clear h1)
    refine ⟨?_, ?_⟩
    case refine_2 => exact ⟨GrownAt.of N' (.head _), True.intro⟩
    case refine_1 =>
      k_end
      kc_close
  case body =>
  (try clear G; try clear Y; try clear hofa; try clear TP; try clear TB; try clear TE; try clear TW; try clear hs; try clear hlay; try clear hL1; try clear hr1; try clear hl2; try clear ra; try clear w1; try clear r0; try clear hrw; try clear hD; try clear hc2; try clear hl0)
  k_fold
  have hl : (ghostOf s1.heap [(298, 296)]).IsList l vs.toArray := by assumption
  have hvl := hI.length
  (((repeat' (first | (k_unfold; walk_at "mine cl") | (walk_at "mine sE"; walk_at "mine ld"))); (all_goals try walk_at "mine fd")))
  ((k_dflt (refine LCg.Assign_ListComp_U (F₀ := by k_asm) (by rfl) (by with_unfolding_all rfl) (by with_unfolding_all rfl) (by decide) (by rfl) (by decide) (by rfl) (by rfl) (by rfl) ?_); (((repeat' (first | (k_unfold; walk_at "mine cl") | (walk_at "mine sU"; walk_at "mine ld"))); (all_goals try walk_at "mine fd")))))
  refine my_uptoB (p := 7) (s := ⟨_, _, _, _, _⟩) F N hl (by omega) fun D₁ h₁ F N hD₁ => ?_
  k_lt hD₁
  (((repeat' (first | (k_unfold; walk_at "mine cl") | (walk_at "mine sE"; walk_at "mine ld"))); (all_goals try walk_at "mine fd")))
  rename_i D₂ h₂ F N hD₂
  obtain ⟨hD₂, hD₂'⟩ := hD₂
  refine my_addG F N (.tail _ (.head _)) (.head _) (by rw [List.length_take]; show _ + 6 ≤ 1000; omega) fun zs hzs D₃ h₃ tk₃ c₃ F N hD₃ => ?_
  k_lt hD₃
  obtain ⟨hzI, hz6⟩ := zs_ok hzs hI (all_cons ⟨_, _, rfl⟩ (all_cons ⟨_, _, rfl⟩ (all_cons ⟨_, _, rfl⟩ (all_cons ⟨_, _, rfl⟩ (all_cons ⟨_, _, rfl⟩ (all_cons ⟨_, _, rfl⟩ all_nil)))))) rfl
  (try clear hzs)
  (((repeat' (first | (k_unfold; walk_at "mine cl") | (walk_at "mine sE"; walk_at "mine ld"))); (all_goals try walk_at "mine fd")))
  refine LCg.CompSrc.ledger (by rfl) F N (.head _) (by rw [List.size_toArray, sizeLine_eq]; omega) fun g' => ?_
  rw [List.size_toArray]
  refine comp_const RowsAre ⟨rfl, all_nil⟩ ?fin1 ?step1
  case step1 =>
    (try clear F; try clear N)
    rintro i ys hi hIys v Ia oI C oC D m₂ h tk E' hv' hC hx F N off ne
    obtain ⟨x, t, rfl⟩ : IsI v := hzI v (by
      have : zs[i]? = some v := by simpa using hv'
      exact List.mem_of_getElem? this)
    (((repeat' (first | (k_unfold; walk_at "mine cl") | (walk_at "mine sE"; walk_at "mine ld"))); (all_goals try walk_at "mine fd")))
    rename Fr _ _ _ _ => F
    rename News _ _ _ _ => N
    refine fn_call (rest := _) (own := []) (octets_fn w x t) (by assumption) (by assumption) F N (fun _ hp => nomatch hp) all_nil rest_all (by omega) (by omega) (un_u ?_)
    rintro u h₂ tk₂ F₂ N₂ -
    dsimp only [List.nil_append] at N₂
    (((repeat' (first | (k_unfold; walk_at "mine cl") | (walk_at "mine sE"; walk_at "mine ld"))); (all_goals try walk_at "mine fd")))
    refine LCg.CompEnd.intro F₂ N₂ _ (fun p hp => hp) off (.inr ⟨_, .head _, rfl, _, rfl⟩) ⟨rows_snoc hIys ⟨_, _, rfl, row_mem x⟩, rfl⟩
  case fin1 =>
  (try clear F; try clear N)
  rintro rs ⟨hrl, hrR⟩
  rw [List.size_toArray] at hrl
  unfold LCg.FinA
  intro D h₄ tk₄ F N off
  simp only [LCg.Off1, and_true] at off
  have hD296 : @Ne Nat 296 D := off.2.2.2
  (try clear off)
  replace N : News _ _ h₄ ((D, listOf rs.toArray rs.length) :: [(296, tabObj #[])]) := fun q hq => N q ((List.mem_cons.mp hq).elim (fun h => h ▸ .head _) fun h => .tail _ (.tail _ (.tail _ (.tail _ h))))
  (((repeat' (first | (k_unfold; walk_at "mine cl") | (walk_at "mine sE"; walk_at "mine ld"))); (all_goals try walk_at "mine fd")))
  rename_i fL cL oL vL tL ctL h₅ tk₅ F N d1 d2 l1 l2
  obtain ⟨oF, hoF, N⟩ := news_head N
  (try dsimp only at hoF)
  have M := lam_marks w (fL := fL) hoF d1 d2
  have hfd : ∃ fd, oF.data = .func fd := ⟨_, by rw [hoF]⟩
  obtain ⟨fd, hfd⟩ := hfd
  (try clear hoF; try clear d1; try clear d2)
  refine fn_call (rest := _) (own := []) (sorted_fn w M (fun a b _ _ => rowKey_le a b) D rs rs.length hrR (by omega) oF fd hfd (.inr (.head _))) (by assumption) (by assumption) F N (fun _ hp => nomatch hp) (ro_news N (all_cons (.tail _ (.tail _ (.head _))) (all_cons (.head _) (all_cons (.tail _ (.head _)) all_nil)))) rest_all (by omega) (by omega) (un_32 ?_)
  rintro Do os co hop hos h₂ tk₂ F₂ N₂ hne
  (try clear M; try clear hfd; try clear F; try clear N)
  have hDo := (hne _ (.head _)).resolve_left (fun h => nomatch h)
  have hDoD : @Ne Nat D Do := hDo _ (.tail _ (.tail _ (.head _)))
  have hDo6 : @Ne Nat 296 Do := hDo _ (.tail _ (.tail _ (.tail _ (.head _))))
  (try clear hDo; try clear hne)
  have N := news_sub (l' := (D, listOf rs.toArray rs.length) :: (Do, listOf os.toArray co) :: [_]) N₂ (all_cons (.tail _ (.tail _ (.tail _ (.head _)))) (all_cons (.head _) (all_cons (.tail _ (.tail _ (.tail _ (.tail _ (.head _))))) all_nil)))
  (try clear N₂)
  have hol := hop.length_eq
  have hr1 : Rank blt ((rs.length - 1) / 2) (bk (os.getD ((rs.length - 1) / 2) .none)) (rs.map bk) := rank_sorted hop hos (by omega)
  have hr2 : Rank blt (rs.length / 2) (bk (os.getD (rs.length / 2) .none)) (rs.map bk) := rank_sorted hop hos (by omega)
  have hf1 : RowV (os.getD ((rs.length - 1) / 2) .none) := hrR _ (hop.mem_iff.mp (getD_mem (by omega)))
  have hf2 : RowV (os.getD (rs.length / 2) .none) := hrR _ (hop.mem_iff.mp (getD_mem (by omega)))
  have e1 : (((rs.length : Nat) : Int) - 1).fdiv 2 = (((rs.length - 1) / 2 : Nat) : Int) := by rw [Int.fdiv_eq_ediv_of_nonneg _ (by omega)]; omega
  have e2 : ((rs.length : Nat) : Int).fdiv 2 = ((rs.length / 2 : Nat) : Int) := by rw [Int.fdiv_eq_ediv_of_nonneg _ (by omega)]; omega
  (((repeat' (first | (k_unfold; walk_at "mine cl") | (walk_at "mine sE"; walk_at "mine ld"))); (all_goals try walk_at "mine fd")))
  rename Fr _ _ _ _ => F
  rename News _ _ _ _ => N
  rw [e1]
  refine my_sub N (.tail _ (.head _)) (by omega) (by omega) (by omega) ?_
  rw [Int.toNat_natCast]
  generalize os.getD ((rs.length - 1) / 2) .none = x1 at *
  (((repeat' (first | (k_unfold; walk_at "mine cl") | (walk_at "mine sE"; walk_at "mine ld"))); (all_goals try walk_at "mine fd")))
  rename Fr _ _ _ _ => F
  rename News _ _ _ _ => N
  rw [e2]
  refine my_sub N (.tail _ (.head _)) (by omega) (by omega) (by omega) ?_
  rw [Int.toNat_natCast]
  generalize os.getD (rs.length / 2) .none = x2 at *
  (((repeat' (first | (k_unfold; walk_at "mine cl") | (walk_at "mine sE"; walk_at "mine ld"))); (all_goals try walk_at "mine fd")))
  have hrB : ∀ v ∈ rs, IsB v := fun v hv => (hrR v hv).isB
  have hDo' : @Ne Nat Do D := fun h => hDoD h.symm
  rename Fr _ _ _ _ => F
  rename News _ _ _ _ => N
  replace N := news_sub (l' := (D, listOf rs.toArray rs.length) :: [_]) N (all_cons (.tail _ (.head _)) (all_cons (.tail _ (.tail _ (.tail _ (.head _)))) all_nil))
  refine fn_call (rest := [_]) (own := [_]) (median_low_fn w D rs rs.length hrB (by omega) (by omega)) (by assumption) (by assumption) F N (all_cons (.head _) all_nil) all_nil (all_cons ⟨.tail _ (.head _), all_cons hD296 all_nil⟩ all_nil) (by omega) (by omega) (un_p ?_)
  (try clear F; try clear N)
  rintro out hop' hos' h₂ tk₂ F N -
  dsimp only [List.cons_append, List.nil_append] at N
  have hq1 : bk (out.getD ((rs.length - 1) / 2) .none) = bk x1 := rank_unique (rank_sorted hop' hos' (by rw [hop'.length_eq]; omega)) hr1
  have hqB1 : IsB (out.getD ((rs.length - 1) / 2) .none) := hrB _ (hop'.mem_iff.mp (getD_mem (by rw [hop'.length_eq]; omega)))
  generalize out.getD ((rs.length - 1) / 2) .none = q1 at *
  (try clear hop'; try clear hos')
  (((repeat' (first | (k_unfold; walk_at "mine cl") | (walk_at "mine sE"; walk_at "mine ld"))); (all_goals try walk_at "mine fd")))
  rename Fr _ _ _ _ => F
  rename News _ _ _ _ => N
  refine fn_call (rest := [_]) (own := [_]) (median_high_fn w D rs rs.length hrB (by omega) (by omega)) (by assumption) (by assumption) F N (all_cons (.head _) all_nil) all_nil (all_cons ⟨.tail _ (.head _), all_cons hD296 all_nil⟩ all_nil) (by omega) (by omega) (un_p ?_)
  (try clear F; try clear N)
  rintro out hop' hos' h₂ tk₂ F N -
  dsimp only [List.cons_append, List.nil_append] at N
  have hq2 : bk (out.getD (rs.length / 2) .none) = bk x2 := rank_unique (rank_sorted hop' hos' (by rw [hop'.length_eq]; omega)) hr2
  have hqB2 : IsB (out.getD (rs.length / 2) .none) := hrB _ (hop'.mem_iff.mp (getD_mem (by rw [hop'.length_eq]; omega)))
  generalize out.getD (rs.length / 2) .none = q2 at *
  (try clear hop'; try clear hos')
  have hxB1 := hf1.isB
  have hxB2 := hf2.isB
  (((repeat' (first | (k_unfold; walk_at "mine cl") | (walk_at "mine sE"; walk_at "mine ld"))); (all_goals try walk_at "mine fd")))
  rename Fr _ _ _ _ => F
  rename News _ _ _ _ => N
  refine my_listne2 N (.tail _ (.head _)) (.head _) (all_cons hqB1 (all_cons hqB2 all_nil)) (all_cons hxB1 (all_cons hxB2 all_nil)) (by show (arnd _ _ _ _).units < _; dsimp only [arnd]; omega) hq1 hq2 ?_
  replace N := news_sub (l' := (D, listOf rs.toArray rs.length) :: [_]) N (all_cons (.tail _ (.tail _ (.head _))) (all_cons (.tail _ (.tail _ (.tail _ (.head _)))) all_nil))
  (try clear hq1; try clear hq2; try clear hqB1; try clear hqB2; try clear q1; try clear q2)
  (((repeat' (first | (k_unfold; walk_at "mine cl") | (walk_at "mine sE"; walk_at "mine ld"))); (all_goals try walk_at "mine fd")))
  ((k_dflt (refine LCg.ListComp_U (F₀ := by k_asm) (by with_unfolding_all rfl) (by decide) (by rfl) (by decide) (by rfl) ?_); (((repeat' (first | (k_unfold; walk_at "mine cl") | (walk_at "mine sU"; walk_at "mine ld"))); (all_goals try walk_at "mine fd")))))
  refine LCg.CompSrc.ledger (by rfl) F N (.head _) (by rw [List.size_toArray, sizeLine_eq]; omega) fun g' => ?_
  refine comp_const (MapsTo figB rs) maps_nil ?fin2 ?step2
  case step2 =>
    (try clear F; try clear N)
    rintro i ys hi hIys v Ia oI C oC D m₂ h tk E' hv' hC hx F N off ne
    obtain ⟨b, t, rfl, hb, hb3, hb1, hir, hbr⟩ := row_at hrR hv'
    (((repeat' (first | (k_unfold; walk_at "mine cl") | (walk_at "mine sE"; walk_at "mine ld"))); (all_goals try walk_at "mine fd")))
    rename Fr _ _ _ _ => F
    rename News _ _ _ _ => N
    refine fn_call (rest := _) (own := []) (b16enc_fn w b t (by omega)) (by assumption) (by assumption) F N (fun _ hp => nomatch hp) all_nil rest_all (by omega) (by omega) (un_u ?_)
    rintro u h₂ tk₂ F₂ N₂ -
    dsimp only [List.nil_append] at N₂
    (((repeat' (first | (k_unfold; walk_at "mine cl") | (walk_at "mine sE"; walk_at "mine ld"))); (all_goals try walk_at "mine fd")))
    refine LCg.CompEnd.intro F₂ N₂ _ (fun p hp => hp) off (.inr ⟨_, .head _, rfl, _, rfl⟩) ⟨maps_snoc hIys hir ⟨_, _, rfl⟩ ?_, rfl⟩
    rw [hbr]
    exact hx_fig hb
  case fin2 =>
  (try clear F; try clear N)
  intro fs hfs
  rw [List.size_toArray] at hfs
  unfold LCg.FinE
  intro Df h₄ tk₄ F N off
  simp only [LCg.Off1, and_true] at off
  replace N : News _ _ h₄ ((Df, listOf fs.toArray fs.length) :: _) := N
  (((repeat' (first | (k_unfold; walk_at "mine cl") | (walk_at "mine sE"; walk_at "mine ld"))); (all_goals try walk_at "mine fd")))
  ((k_dflt (refine LCg.ListComp_U (F₀ := by k_asm) (by with_unfolding_all rfl) (by decide) (by rfl) (by decide) (by rfl) ?_); (((repeat' (first | (k_unfold; walk_at "mine cl") | (walk_at "mine sU"; walk_at "mine ld"))); (all_goals try walk_at "mine fd")))))
  refine LCg.CompSrc.ledger (by rfl) F N (.tail _ (.head _)) (by rw [List.size_toArray, sizeLine_eq]; omega) fun g' => ?_
  refine comp_const (MapsTo letB rs) maps_nil ?fin3 ?step3
  case step3 =>
    (try clear F; try clear N)
    rintro i ys hi hIys v Ia oI C oC D m₂ h tk E' hv' hC hx F N off ne
    obtain ⟨b, t, rfl, hb, hb3, hb1, hir, hbr⟩ := row_at hrR hv'
    (((repeat' (first | (k_unfold; walk_at "mine cl") | (walk_at "mine sE"; walk_at "mine ld"))); (all_goals try walk_at "mine fd")))
    rename Fr _ _ _ _ => F
    rename News _ _ _ _ => N
    refine fn_call (rest := _) (own := []) (b64encode_fn w b t (b.toList.map UInt8.toNat) (bints_eq b) (by rw [List.length_map, Array.length_toList]; omega) (by rw [List.length_map, Array.length_toList]; omega)) (by assumption) (by assumption) F N (fun _ hp => nomatch hp) all_nil rest_all (by omega) (by omega) (un_u ?_)
    rintro u h₂ tk₂ F₂ N₂ -
    dsimp only [List.nil_append] at N₂
    (((repeat' (first | (k_unfold; walk_at "mine cl") | (walk_at "mine sE"; walk_at "mine ld"))); (all_goals try walk_at "mine fd")))
    refine LCg.CompEnd.intro F₂ N₂ _ (fun p hp => hp) off (.inr ⟨_, .tail _ (.head _), rfl, _, rfl⟩) ⟨maps_snoc hIys hir ⟨_, _, rfl⟩ ?_, rfl⟩
    rw [hbr]
    exact en_let hb
  case fin3 =>
  (try clear F; try clear N)
  intro ls hls
  rw [List.size_toArray] at hls
  unfold LCg.FinE
  intro Dl h₄ tk₄ F N off2
  simp only [LCg.Off1, and_true] at off2
  replace N : News _ _ h₄ ((Dl, listOf ls.toArray ls.length) :: _) := N
  (((repeat' (first | (k_unfold; walk_at "mine cl") | (walk_at "mine sE"; walk_at "mine ld"))); (all_goals try walk_at "mine fd")))
  have hfB := hfs.1
  have hlB := hls.1
  obtain ⟨hfm, hfl⟩ := maps_all hfs rfl
  obtain ⟨hlm, hll⟩ := maps_all hls rfl
  rename Fr _ _ _ _ => F
  rename News _ _ _ _ => N
  replace N := news_sub (l' := (Dl, listOf ls.toArray ls.length) :: (Df, listOf fs.toArray fs.length) :: (D, listOf rs.toArray rs.length) :: [_]) N (all_cons (.tail _ (.head _)) (all_cons (.tail _ (.tail _ (.head _))) (all_cons (.tail _ (.tail _ (.tail _ (.head _)))) (all_cons (.tail _ (.tail _ (.tail _ (.tail _ (.head _))))) all_nil))))
  ((k_dflt (refine LCg.ListComp_U (F₀ := by k_asm) (by with_unfolding_all rfl) (by decide) (by rfl) (by decide) (by rfl) ?_); (((repeat' (first | (k_unfold; walk_at "mine cl") | (walk_at "mine sU"; walk_at "mine ld"))); (all_goals try walk_at "mine fd")))))
  refine LCg.CompSrc.ledger (by rfl) F N (.tail _ (.tail _ (.head _))) (by rw [List.size_toArray, sizeLine_eq]; omega) fun g' => ?_
  refine comp_const (MapsTo figB rs) maps_nil ?fin4 ?step4
  case step4 =>
    (try clear F; try clear N)
    rintro i ys hi hIys v Ia oI C oC D m₂ h tk E' hv' hC hx F N off ne
    obtain ⟨b, t, rfl, hb, hb3, hb1, hir, hbr⟩ := row_at hrR hv'
    (((repeat' (first | (k_unfold; walk_at "mine cl") | (walk_at "mine sE"; walk_at "mine ld"))); (all_goals try walk_at "mine fd")))
    rename Fr _ _ _ _ => F
    rename News _ _ _ _ => N
    refine fn_call (rest := _) (own := []) (figures_fn w b t (by omega)) (by assumption) (by assumption) F N (fun _ hp => nomatch hp) all_nil rest_all (by omega) (by omega) (un_u ?_)
    rintro u h₂ tk₂ F₂ N₂ -
    dsimp only [List.nil_append] at N₂
    (((repeat' (first | (k_unfold; walk_at "mine cl") | (walk_at "mine sE"; walk_at "mine ld"))); (all_goals try walk_at "mine fd")))
    refine LCg.CompEnd.intro F₂ N₂ _ (fun p hp => hp) off (.inr ⟨_, .tail _ (.tail _ (.head _)), rfl, _, rfl⟩) ⟨maps_snoc hIys hir ⟨_, _, rfl⟩ ?_, rfl⟩
    rw [hbr]
    rfl
  case fin4 =>
  (try clear F; try clear N)
  intro gs hgs
  rw [List.size_toArray] at hgs
  unfold LCg.FinE
  rintro Dg h₄ tk₄ F N -
  replace N : News _ _ h₄ ((Dg, listOf gs.toArray gs.length) :: _) := N
  (((repeat' (first | (k_unfold; walk_at "mine cl") | (walk_at "mine sE"; walk_at "mine ld"))); (all_goals try walk_at "mine fd")))
  obtain ⟨hgm, hgl⟩ := maps_all hgs rfl
  refine my_listne N (.tail _ (.tail _ (.head _))) (.head _) hfB hgs.1 (by rw [hfl, hgl]) (by show (arnd _ _ _ _).units < _; dsimp only [arnd]; omega) ?_
  rw [decide_eq_true (by rw [hfm, hgm])]
  (try clear hgm; try clear hgl; try clear hgs)
  (((repeat' (first | (k_unfold; walk_at "mine cl") | (walk_at "mine sE"; walk_at "mine ld"))); (all_goals try walk_at "mine fd")))
  ((k_dflt (refine LCg.ListComp_U (F₀ := by k_asm) (by with_unfolding_all rfl) (by decide) (by rfl) (by decide) (by rfl) ?_); (((repeat' (first | (k_unfold; walk_at "mine cl") | (walk_at "mine sU"; walk_at "mine ld"))); (all_goals try walk_at "mine fd")))))
  refine LCg.CompSrc.ledger (by rfl) F N (.tail _ (.tail _ (.tail _ (.head _)))) (by rw [List.size_toArray, sizeLine_eq]; omega) fun g' => ?_
  refine comp_const (MapsTo letB rs) maps_nil ?fin5 ?step5
  case step5 =>
    (try clear F; try clear N)
    rintro i ys hi hIys v Ia oI C oC D m₂ h tk E' hv' hC hx F N off ne
    obtain ⟨b, t, rfl, hb, hb3, hb1, hir, hbr⟩ := row_at hrR hv'
    (((repeat' (first | (k_unfold; walk_at "mine cl") | (walk_at "mine sE"; walk_at "mine ld"))); (all_goals try walk_at "mine fd")))
    rename Fr _ _ _ _ => F
    rename News _ _ _ _ => N
    refine fn_call (rest := _) (own := []) (lawb64_fn w b t _ (by omega) (by omega)) (by assumption) (by assumption) F N (fun _ hp => nomatch hp) all_nil rest_all (by omega) (by omega) (un_s ?_)
    rintro S u hS h₂ tk₂ F₂ N₂ -
    dsimp only [List.nil_append] at N₂
    have hSa := lawL_ok hb hS
    (((repeat' (first | (k_unfold; walk_at "mine cl") | (walk_at "mine sE"; walk_at "mine ld"))); (all_goals try walk_at "mine fd")))
    refine call_encode hSa.1 (by show S.cps.size ≤ 100; omega) ?_
    (((repeat' (first | (k_unfold; walk_at "mine cl") | (walk_at "mine sE"; walk_at "mine ld"))); (all_goals try walk_at "mine fd")))
    refine LCg.CompEnd.intro F₂ N₂ _ (fun p hp => hp) off (.inr ⟨_, .tail _ (.tail _ (.tail _ (.head _))), rfl, _, rfl⟩) ⟨maps_snoc hIys hir ⟨_, _, rfl⟩ ?_, rfl⟩
    rw [hbr]
    exact let_bytes hS
  case fin5 =>
  (try clear F; try clear N)
  intro ks hks
  rw [List.size_toArray] at hks
  unfold LCg.FinE
  rintro Dk h₄ tk₄ F N -
  replace N : News _ _ h₄ ((Dk, listOf ks.toArray ks.length) :: _) := N
  (((repeat' (first | (k_unfold; walk_at "mine cl") | (walk_at "mine sE"; walk_at "mine ld"))); (all_goals try walk_at "mine fd")))
  obtain ⟨hkm, hkl⟩ := maps_all hks rfl
  refine my_listne N (.tail _ (.tail _ (.head _))) (.head _) hlB hks.1 (by rw [hll, hkl]) (by show (arnd _ _ _ _).units < _; dsimp only [arnd]; omega) ?_
  rw [decide_eq_true (by rw [hlm, hkm])]
  (try clear hkm; try clear hkl; try clear hks)
  replace N := news_sub (l' := (Dl, listOf ls.toArray ls.length) :: (Df, listOf fs.toArray fs.length) :: (D, listOf rs.toArray rs.length) :: [_]) N (fun q hq => .tail _ (.tail _ hq))
  (((repeat' (first | (k_unfold; walk_at "mine cl") | (walk_at "mine sE"; walk_at "mine ld"))); (all_goals try walk_at "mine fd")))
  have hF1 : Rank blt ((fs.length - 1) / 2) (figB (bk x1)) (fs.map bk) := by rw [hfm, hfl]; exact rank_map blt_figB hr1
  have hF2 : Rank blt (fs.length / 2) (figB (bk x2)) (fs.map bk) := by rw [hfm, hfl]; exact rank_map blt_figB hr2
  have hDl' : @Ne Nat Dl Df := fun h => off2.1 h.symm
  refine fn_call (rest := [_, _, _]) (own := [_]) (median_low_fn w Df fs fs.length hfB (by omega) (by omega)) (by assumption) (by assumption) F N (all_cons (.tail _ (.head _)) all_nil) all_nil (all_cons ⟨.head _, all_cons hDl' all_nil⟩ (all_cons ⟨.tail _ (.tail _ (.head _)), all_cons off.1 all_nil⟩ (all_cons ⟨.tail _ (.tail _ (.tail _ (.head _))), all_cons off.2 all_nil⟩ all_nil))) (by omega) (by omega) (un_p ?_)
  (try clear F; try clear N)
  rintro out hop' hos' h₂ tk₂ F N -
  dsimp only [List.cons_append, List.nil_append] at N
  have hq1 : bk (out.getD ((fs.length - 1) / 2) .none) = figB (bk x1) := rank_unique (rank_sorted hop' hos' (by rw [hop'.length_eq]; omega)) hF1
  obtain ⟨c1, u1, hqB1⟩ : IsB (out.getD ((fs.length - 1) / 2) .none) := hfB _ (hop'.mem_iff.mp (getD_mem (by rw [hop'.length_eq]; omega)))
  rw [hqB1] at hq1 ⊢
  (try clear hop'; try clear hos'; try clear hqB1; try clear out)
  have hdc1 := fig_decode hf1.mem hq1
  (((repeat' (first | (k_unfold; walk_at "mine cl") | (walk_at "mine sE"; walk_at "mine ld"))); (all_goals try walk_at "mine fd")))
  rename Fr _ _ _ _ => F
  rename News _ _ _ _ => N
  refine fn_call (rest := _) (own := []) (b16decode_fn w c1 u1 _ hdc1.1 hdc1.2.1 hdc1.2.2.1 hdc1.2.2.2.1) (by assumption) (by assumption) F N (fun _ hp => nomatch hp) all_nil rest_all (by omega) (by omega) (un_u ?_)
  (try clear F; try clear N)
  rintro u h₂ tk₂ F N -
  dsimp only [List.nil_append] at N
  have he1 : bk (.bytes ((unhexB c1 (bk x1).length).map Nat.toUInt8).toArray u) = bk x1 := hdc1.2.2.2.2
  have hqB1 : IsB (.bytes ((unhexB c1 (bk x1).length).map Nat.toUInt8).toArray u) := ⟨_, _, rfl⟩
  generalize Value.bytes ((unhexB c1 (bk x1).length).map Nat.toUInt8).toArray u = q1 at *
  (try clear hdc1; try clear hq1)
  (((repeat' (first | (k_unfold; walk_at "mine cl") | (walk_at "mine sE"; walk_at "mine ld"))); (all_goals try walk_at "mine fd")))
  rename Fr _ _ _ _ => F
  rename News _ _ _ _ => N
  refine fn_call (rest := [_, _, _]) (own := [_]) (median_high_fn w Df fs fs.length hfB (by omega) (by omega)) (by assumption) (by assumption) F N (all_cons (.head _) all_nil) all_nil (all_cons ⟨.tail _ (.head _), all_cons hDl' all_nil⟩ (all_cons ⟨.tail _ (.tail _ (.head _)), all_cons off.1 all_nil⟩ (all_cons ⟨.tail _ (.tail _ (.tail _ (.head _))), all_cons off.2 all_nil⟩ all_nil))) (by omega) (by omega) (un_p ?_)
  (try clear F; try clear N)
  rintro out hop' hos' h₂ tk₂ F N -
  dsimp only [List.cons_append, List.nil_append] at N
  have hq2 : bk (out.getD (fs.length / 2) .none) = figB (bk x2) := rank_unique (rank_sorted hop' hos' (by rw [hop'.length_eq]; omega)) hF2
  obtain ⟨c2, u2, hqB2⟩ : IsB (out.getD (fs.length / 2) .none) := hfB _ (hop'.mem_iff.mp (getD_mem (by rw [hop'.length_eq]; omega)))
  rw [hqB2] at hq2 ⊢
  (try clear hop'; try clear hos'; try clear hqB2; try clear out)
  have hdc2 := fig_decode hf2.mem hq2
  (((repeat' (first | (k_unfold; walk_at "mine cl") | (walk_at "mine sE"; walk_at "mine ld"))); (all_goals try walk_at "mine fd")))
  rename Fr _ _ _ _ => F
  rename News _ _ _ _ => N
  refine fn_call (rest := _) (own := []) (b16decode_fn w c2 u2 _ hdc2.1 hdc2.2.1 hdc2.2.2.1 hdc2.2.2.2.1) (by assumption) (by assumption) F N (fun _ hp => nomatch hp) all_nil rest_all (by omega) (by omega) (un_u ?_)
  (try clear F; try clear N)
  rintro u h₂ tk₂ F N -
  dsimp only [List.nil_append] at N
  have he2 : bk (.bytes ((unhexB c2 (bk x2).length).map Nat.toUInt8).toArray u) = bk x2 := hdc2.2.2.2.2
  have hqB2 : IsB (.bytes ((unhexB c2 (bk x2).length).map Nat.toUInt8).toArray u) := ⟨_, _, rfl⟩
  generalize Value.bytes ((unhexB c2 (bk x2).length).map Nat.toUInt8).toArray u = q2 at *
  (try clear hdc2; try clear hq2)
  (((repeat' (first | (k_unfold; walk_at "mine cl") | (walk_at "mine sE"; walk_at "mine ld"))); (all_goals try walk_at "mine fd")))
  rename Fr _ _ _ _ => F
  rename News _ _ _ _ => N
  refine my_listne2 N (.tail _ (.head _)) (.head _) (all_cons hqB1 (all_cons hqB2 all_nil)) (all_cons hxB1 (all_cons hxB2 all_nil)) (by show (arnd _ _ _ _).units < _; dsimp only [arnd]; omega) he1 he2 ?_
  replace N := news_sub (l' := (Df, listOf fs.toArray fs.length) :: (Dl, listOf ls.toArray ls.length) :: (D, listOf rs.toArray rs.length) :: [_]) N (fun q hq => .tail _ (.tail _ hq))
  (try clear he1; try clear he2; try clear hqB1; try clear hqB2; try clear q1; try clear q2)
  (((repeat' (first | (k_unfold; walk_at "mine cl") | (walk_at "mine sE"; walk_at "mine ld"))); (all_goals try walk_at "mine fd")))
  ((k_dflt (refine LCg.ListComp_U (F₀ := by k_asm) (by with_unfolding_all rfl) (by decide) (by rfl) (by decide) (by rfl) ?_); (((repeat' (first | (k_unfold; walk_at "mine cl") | (walk_at "mine sU"; walk_at "mine ld"))); (all_goals try walk_at "mine fd")))))
  refine LCg.CompSrc.ledger (by rfl) F N (.tail _ (.tail _ (.head _))) (by rw [List.size_toArray, sizeLine_eq]; omega) fun g' => ?_
  refine comp_const (MapsTo letB rs) maps_nil ?fin6 ?step6
  case step6 =>
    (try clear F; try clear N)
    rintro i ys hi hIys v Ia oI C oC D m₂ h tk E' hv' hC hx F N off ne
    obtain ⟨b, t, rfl, hb, hb3, hb1, hir, hbr⟩ := row_at hrR hv'
    (((repeat' (first | (k_unfold; walk_at "mine cl") | (walk_at "mine sE"; walk_at "mine ld"))); (all_goals try walk_at "mine fd")))
    rename Fr _ _ _ _ => F
    rename News _ _ _ _ => N
    refine fn_call (rest := _) (own := []) (lawb64_fn w b t _ (by omega) (by omega)) (by assumption) (by assumption) F N (fun _ hp => nomatch hp) all_nil rest_all (by omega) (by omega) (un_s ?_)
    rintro S u hS h₂ tk₂ F₂ N₂ -
    dsimp only [List.nil_append] at N₂
    have hSa := lawL_ok hb hS
    (((repeat' (first | (k_unfold; walk_at "mine cl") | (walk_at "mine sE"; walk_at "mine ld"))); (all_goals try walk_at "mine fd")))
    refine call_encode hSa.1 (by show S.cps.size ≤ 100; omega) ?_
    (((repeat' (first | (k_unfold; walk_at "mine cl") | (walk_at "mine sE"; walk_at "mine ld"))); (all_goals try walk_at "mine fd")))
    refine LCg.CompEnd.intro F₂ N₂ _ (fun p hp => hp) off (.inr ⟨_, .tail _ (.tail _ (.head _)), rfl, _, rfl⟩) ⟨maps_snoc hIys hir ⟨_, _, rfl⟩ ?_, rfl⟩
    rw [hbr]
    exact let_bytes hS
  case fin6 =>
  (try clear F; try clear N)
  intro ms hms
  rw [List.size_toArray] at hms
  unfold LCg.FinE
  rintro Dm h₄ tk₄ F N -
  replace N : News _ _ h₄ ((Dm, listOf ms.toArray ms.length) :: _) := N
  (((repeat' (first | (k_unfold; walk_at "mine cl") | (walk_at "mine sE"; walk_at "mine ld"))); (all_goals try walk_at "mine fd")))
  have hmS := maps_let hrR hms rfl
  obtain ⟨hmm, hml⟩ := maps_all hms rfl
  obtain ⟨fo, fd', hfd', hfo⟩ := plc_fo w
  refine fn_call (rest := _) (own := []) (sorted_fn w (places_marks w) (fun a b ha hb => plcKey_le a b ha.sgl hb.sgl) Dm ms ms.length (fun v hv => (hmS v hv).1) (by omega) fo fd' hfd' (.inl hfo)) (by assumption) (by assumption) F N (fun _ hp => nomatch hp) (ro_news N (all_cons (.head _) all_nil)) rest_all (by omega) (by omega) (un_32 ?_)
  (try clear F; try clear N; try clear hfo; try clear hfd'; try clear fo; try clear fd')
  rintro Dp ps cp hpp hps h₂ tk₂ F N -
  dsimp only [List.cons_append, List.nil_append] at N
  replace N := news_sub (l' := (Dp, listOf ps.toArray cp) :: (Df, listOf fs.toArray fs.length) :: (Dl, listOf ls.toArray ls.length) :: (D, listOf rs.toArray rs.length) :: [_]) N (all_cons (.head _) fun q hq => .tail _ (.tail _ hq))
  have hpl := hpp.length_eq
  have hR1 : Rank blt ((rs.length - 1) / 2) (bk (ps.getD ((rs.length - 1) / 2) .none)) (ls.map bk) := by rw [hlm, ← hmm]; exact rank_sorted hpp hps (by omega)
  have hR2 : Rank blt (rs.length / 2) (bk (ps.getD (rs.length / 2) .none)) (ls.map bk) := by rw [hlm, ← hmm]; exact rank_sorted hpp hps (by omega)
  have hg1 := hmS _ (hpp.mem_iff.mp (getD_mem (j := (rs.length - 1) / 2) (by omega)))
  have hg2 := hmS _ (hpp.mem_iff.mp (getD_mem (j := rs.length / 2) (by omega)))
  (try clear hmS; try clear hmm)
  (((repeat' (first | (k_unfold; walk_at "mine cl") | (walk_at "mine sE"; walk_at "mine ld"))); (all_goals try walk_at "mine fd")))
  rename Fr _ _ _ _ => F
  rename News _ _ _ _ => N
  rw [e1]
  refine my_sub N (.head _) (by omega) (by omega) (by omega) ?_
  rw [Int.toNat_natCast]
  generalize ps.getD ((rs.length - 1) / 2) .none = y1 at *
  (((repeat' (first | (k_unfold; walk_at "mine cl") | (walk_at "mine sE"; walk_at "mine ld"))); (all_goals try walk_at "mine fd")))
  rename Fr _ _ _ _ => F
  rename News _ _ _ _ => N
  rw [e2]
  refine my_sub N (.head _) (by omega) (by omega) (by omega) ?_
  rw [Int.toNat_natCast]
  generalize ps.getD (rs.length / 2) .none = y2 at *
  (((repeat' (first | (k_unfold; walk_at "mine cl") | (walk_at "mine sE"; walk_at "mine ld"))); (all_goals try walk_at "mine fd")))
  rename Fr _ _ _ _ => F
  rename News _ _ _ _ => N
  have off2' : @Ne Nat D Dl ∧ @Ne Nat 296 Dl := ⟨off2.2.1, off2.2.2⟩
  have hDf' : @Ne Nat Df Dl := off2.1
  have hL1 : Rank blt ((ls.length - 1) / 2) (bk y1) (ls.map bk) := by rw [hll]; exact hR1
  have hL2 : Rank blt (ls.length / 2) (bk y2) (ls.map bk) := by rw [hll]; exact hR2
  have hyB1 := hg1.1.isB
  have hyB2 := hg2.1.isB
  replace N := news_sub (l' := (Dl, listOf ls.toArray ls.length) :: (Df, listOf fs.toArray fs.length) :: (D, listOf rs.toArray rs.length) :: [_]) N (all_cons (.tail _ (.tail _ (.tail _ (.head _)))) (all_cons (.tail _ (.tail _ (.head _))) (all_cons (.tail _ (.tail _ (.tail _ (.tail _ (.head _))))) (all_cons (.tail _ (.tail _ (.tail _ (.tail _ (.tail _ (.head _)))))) all_nil))))
  refine fn_call (rest := [_, _, _]) (own := [_]) (median_low_fn w Dl ls ls.length hlB (by omega) (by omega)) (by assumption) (by assumption) F N (all_cons (.head _) all_nil) all_nil (all_cons ⟨.tail _ (.head _), all_cons hDf' all_nil⟩ (all_cons ⟨.tail _ (.tail _ (.head _)), all_cons off2'.1 all_nil⟩ (all_cons ⟨.tail _ (.tail _ (.tail _ (.head _))), all_cons off2'.2 all_nil⟩ all_nil))) (by omega) (by omega) (un_p ?_)
  (try clear F; try clear N)
  rintro out hop' hos' h₂ tk₂ F N -
  dsimp only [List.cons_append, List.nil_append] at N
  have hq1 : bk (out.getD ((ls.length - 1) / 2) .none) = bk y1 := rank_unique (rank_sorted hop' hos' (by rw [hop'.length_eq]; omega)) hL1
  have hqB1 : IsB (out.getD ((ls.length - 1) / 2) .none) := hlB _ (hop'.mem_iff.mp (getD_mem (by rw [hop'.length_eq]; omega)))
  generalize out.getD ((ls.length - 1) / 2) .none = q1 at *
  (try clear hop'; try clear hos')
  (((repeat' (first | (k_unfold; walk_at "mine cl") | (walk_at "mine sE"; walk_at "mine ld"))); (all_goals try walk_at "mine fd")))
  rename Fr _ _ _ _ => F
  rename News _ _ _ _ => N
  refine fn_call (rest := [_, _, _]) (own := [_]) (median_high_fn w Dl ls ls.length hlB (by omega) (by omega)) (by assumption) (by assumption) F N (all_cons (.head _) all_nil) all_nil (all_cons ⟨.tail _ (.head _), all_cons hDf' all_nil⟩ (all_cons ⟨.tail _ (.tail _ (.head _)), all_cons off2'.1 all_nil⟩ (all_cons ⟨.tail _ (.tail _ (.tail _ (.head _))), all_cons off2'.2 all_nil⟩ all_nil))) (by omega) (by omega) (un_p ?_)
  (try clear F; try clear N)
  rintro out hop' hos' h₂ tk₂ F N -
  dsimp only [List.cons_append, List.nil_append] at N
  have hq2 : bk (out.getD (ls.length / 2) .none) = bk y2 := rank_unique (rank_sorted hop' hos' (by rw [hop'.length_eq]; omega)) hL2
  have hqB2 : IsB (out.getD (ls.length / 2) .none) := hlB _ (hop'.mem_iff.mp (getD_mem (by rw [hop'.length_eq]; omega)))
  generalize out.getD (ls.length / 2) .none = q2 at *
  (try clear hop'; try clear hos')
  (((repeat' (first | (k_unfold; walk_at "mine cl") | (walk_at "mine sE"; walk_at "mine ld"))); (all_goals try walk_at "mine fd")))
  rename Fr _ _ _ _ => F
  rename News _ _ _ _ => N
  refine my_listne2 N (.tail _ (.head _)) (.head _) (all_cons hqB1 (all_cons hqB2 all_nil)) (all_cons hyB1 (all_cons hyB2 all_nil)) (by show (arnd _ _ _ _).units < _; dsimp only [arnd]; omega) hq1 hq2 ?_
  replace N := news_sub (l' := (Dl, listOf ls.toArray ls.length) :: (Df, listOf fs.toArray fs.length) :: (D, listOf rs.toArray rs.length) :: [_]) N (fun q hq => .tail _ (.tail _ hq))
  (try clear hq1; try clear hq2; try clear hqB1; try clear hqB2; try clear q1; try clear q2; try clear hyB1; try clear hyB2)
  obtain ⟨⟨lb1, lt1, rfl, -⟩, r1, hr1m, hr1A, hrb1⟩ := hg1
  obtain ⟨⟨lb2, lt2, rfl, -⟩, r2, hr2m, hr2A, hrb2⟩ := hg2
  obtain ⟨g11, g12, g13, g14, g15, g16, g17⟩ := let_decode (b := lb1) hr1A hrb1
  obtain ⟨g21, g22, g23, g24, g25, g26, g27⟩ := let_decode (b := lb2) hr2A hrb2
  (((repeat' (first | (k_unfold; walk_at "mine cl") | (walk_at "mine sF"; walk_at "mine ld"))); (all_goals try walk_at "mine fd")))
  rename Fr _ _ _ _ => F
  rename News _ _ _ _ => N
  refine fn_call (rest := _) (own := []) (b64decode_fn w lb1 lt1 _ _ g11 g12 g13 g14 g15 g16) (by assumption) (by assumption) F N (fun _ hp => nomatch hp) all_nil rest_all (by omega) (by omega) (un_u ?_)
  (try clear F; try clear N)
  rintro u h₂ tk₂ F N -
  dsimp only [List.nil_append] at N
  (((repeat' (first | (k_unfold; walk_at "mine cl") | (walk_at "mine sF"; walk_at "mine ld"))); (all_goals try walk_at "mine fd")))
  refine my_notin N (.tail _ (.tail _ (.head _))) hrB ⟨_, _, rfl⟩ ?_
  rw [decide_eq_true (show bk (.bytes ((dec64 (fun i => b64val ((lawL r1).getD i 0)) (r1.length + 1)).map Nat.toUInt8).toArray u) ∈ rs.map bk from mem_eq g17 hr1m)]
  (((repeat' (first | (k_unfold; walk_at "mine cl") | (walk_at "mine sF"; walk_at "mine ld"))); (all_goals try walk_at "mine fd")))
  rename Fr _ _ _ _ => F
  rename News _ _ _ _ => N
  refine fn_call (rest := _) (own := []) (b64decode_fn w lb2 lt2 _ _ g21 g22 g23 g24 g25 g26) (by assumption) (by assumption) F N (fun _ hp => nomatch hp) all_nil rest_all (by omega) (by omega) (un_u ?_)
  (try clear F; try clear N)
  rintro u h₂ tk₂ F N -
  dsimp only [List.nil_append] at N
  (((repeat' (first | (k_unfold; walk_at "mine cl") | (walk_at "mine sF"; walk_at "mine ld"))); (all_goals try walk_at "mine fd")))
  refine my_notin N (.tail _ (.tail _ (.head _))) hrB ⟨_, _, rfl⟩ ?_
  rw [decide_eq_true (show bk (.bytes ((dec64 (fun i => b64val ((lawL r2).getD i 0)) (r2.length + 1)).map Nat.toUInt8).toArray u) ∈ rs.map bk from mem_eq g27 hr2m)]
  (try clear g11; try clear g12; try clear g13; try clear g14; try clear g15; try clear g16; try clear g17; try clear g21; try clear g22; try clear g23; try clear g24; try clear g25; try clear g26; try clear g27)
  obtain ⟨a1, s1', rfl, ha1⟩ := hf1
  obtain ⟨a2, s2', rfl, ha2⟩ := hf2
  have ha1l := (rows_len _ ha1).2
  have ha2l := (rows_len _ ha2).2
  rw [Array.length_toList] at ha1l ha2l
  (((repeat' (first | (k_unfold; walk_at "mine cl") | (walk_at "mine sF"; walk_at "mine ld"))); (all_goals try walk_at "mine fd")))
  rename Fr _ _ _ _ => F
  rename News _ _ _ _ => N
  refine fn_call (rest := _) (own := []) (figures_fn w a1 s1' (by omega)) (by assumption) (by assumption) F N (fun _ hp => nomatch hp) all_nil rest_all (by omega) (by omega) (un_u ?_)
  (try clear F; try clear N)
  rintro u h₂ tk₂ F N -
  dsimp only [List.nil_append] at N
  (((repeat' (first | (k_unfold; walk_at "mine cl") | (walk_at "mine sF"; walk_at "mine ld"))); (all_goals try walk_at "mine fd")))
  rename Fr _ _ _ _ => F
  rename News _ _ _ _ => N
  refine fn_call (rest := _) (own := []) (figures_fn w a2 s2' (by omega)) (by assumption) (by assumption) F N (fun _ hp => nomatch hp) all_nil rest_all (by omega) (by omega) (un_u ?_)
  (try clear F; try clear N)
  rintro u h₂ tk₂ F N -
  dsimp only [List.nil_append] at N
  (((repeat' (first | (k_unfold; walk_at "mine cl") | (walk_at "mine sF"; walk_at "mine ld"))); (all_goals try walk_at "mine fd")))
  rename Fr _ _ _ _ => F
  rename News _ _ _ _ => N
  refine fn_call (rest := _) (own := []) (heaped_fn w Df fs fs.length (figB a1.toList).toArray (figB a2.toList).toArray _ _ hfB (by omega) (by omega) hF1 hF2) (by assumption) (by assumption) F N (fun _ hp => nomatch hp) (ro_news N (all_cons (.tail _ (.head _)) all_nil)) rest_all (by omega) (by omega) (un_e ?_)
  (try clear F; try clear N)
  rintro h₂ tk₂ F N -
  dsimp only [List.nil_append] at N
  (((repeat' (first | (k_unfold; walk_at "mine cl") | (walk_at "mine sF"; walk_at "mine ld"))); (all_goals try walk_at "mine fd")))
  rename Fr _ _ _ _ => F
  rename News _ _ _ _ => N
  refine fn_call (rest := _) (own := []) (heaped_fn w Dl ls ls.length lb1 lb2 lt1 lt2 hlB (by omega) (by omega) hL1 hL2) (by assumption) (by assumption) F N (fun _ hp => nomatch hp) (ro_news N (all_cons (.head _) all_nil)) rest_all (by omega) (by omega) (un_e ?_)
  (try clear F; try clear N)
  rintro h₂ tk₂ F N -
  dsimp only [List.nil_append] at N
  exact ⟨_, _, _, _, rfl, rfl, F, news_sub N (all_cons (.tail _ (.tail _ (.tail _ (.head _)))) all_nil)⟩
end
end Mine
set_option maxRecDepth 100000 in
theorem PySem.Challenge.cw_kq0059_01_holds : PySem.Challenge.rw_kq0059_01.Holds := by
  exact Mine.lawThm
