/- THE PLAIN LAW: names, first and last places, what can be reached: no Go in sight. -/
import Derived.WalkKit
namespace Go.Proofs.Qxb6602477a

/-- The i-th name of a list. -/
def nm (ns : List ByteArray) (i : Nat) : ByteArray := ns.getD i ⟨#[]⟩
theorem nm_get {ns : List ByteArray} {i : Nat} (h : i < ns.length) : nm ns i = ns[i] := by
  unfold nm; rw [List.getD_eq_getElem?_getD, List.getElem?_eq_getElem h]; rfl
theorem nm_mem {ns : List ByteArray} {i : Nat} (h : i < ns.length) : nm ns i ∈ ns := by rw [nm_get h]; exact List.getElem_mem h
theorem mem_nm {ns : List ByteArray} {s : ByteArray} (h : s ∈ ns) : ∃ i, i < ns.length ∧ nm ns i = s := by
  obtain ⟨i, hi, e⟩ := List.mem_iff_getElem.1 h
  exact ⟨i, hi, by rw [nm_get hi]; exact e⟩

/-- Two names as bytes. -/
def same (t s : ByteArray) : Bool := t.data.toList == s.data.toList
theorem same_iff {t s : ByteArray} : same t s = true ↔ t = s := by
  unfold same
  rw [beq_iff_eq]
  constructor
  · intro h
    cases t; cases s
    congr
    exact Array.toList_inj.1 h
  · rintro rfl; rfl
theorem same_no {t s : ByteArray} : same t s = false ↔ t ≠ s := by
  rw [Bool.eq_false_iff, Ne, same_iff]
theorem same_refl (s : ByteArray) : same s s = true := same_iff.2 rfl
def isIn (ns : List ByteArray) (s : ByteArray) : Bool := ns.any fun t => same t s
theorem isIn_iff {ns : List ByteArray} {s : ByteArray} : isIn ns s = true ↔ s ∈ ns := by
  unfold isIn
  rw [List.any_eq_true]
  constructor
  · rintro ⟨t, ht, h⟩; rw [← same_iff.1 h]; exact ht
  · intro h; exact ⟨s, h, same_refl s⟩

/-! ### The first place of a name -/
def fi (ns : List ByteArray) (s : ByteArray) : Nat := ns.findIdx fun t => same t s
theorem fi_le (ns : List ByteArray) (s : ByteArray) : fi ns s ≤ ns.length := List.findIdx_le_length
theorem fi_name {ns : List ByteArray} {s : ByteArray} (h : fi ns s < ns.length) : nm ns (fi ns s) = s := by
  rw [nm_get h]
  exact same_iff.1 (List.findIdx_getElem (w := h))
theorem fi_before {ns : List ByteArray} {s : ByteArray} {e : Nat} (h : e < fi ns s) : nm ns e ≠ s := by
  have hl : e < ns.length := Nat.lt_of_lt_of_le h (fi_le ns s)
  rw [nm_get hl]
  exact same_no.1 (by simpa using List.not_of_lt_findIdx h)
theorem fi_eq {ns : List ByteArray} {s : ByteArray} {i : Nat} (hi : i < ns.length) (hn : nm ns i = s) (hb : ∀ e, e < i → nm ns e ≠ s) : fi ns s = i := by
  rcases Nat.lt_trichotomy (fi ns s) i with h | h | h
  · exact absurd (fi_name (Nat.lt_trans h hi)) (hb _ h)
  · exact h
  · exact absurd hn (fi_before h)
theorem fi_none {ns : List ByteArray} {s : ByteArray} (hb : ∀ e, e < ns.length → nm ns e ≠ s) : fi ns s = ns.length := by
  rcases Nat.lt_or_ge (fi ns s) ns.length with h | h
  · exact absurd (fi_name h) (hb _ h)
  · have := fi_le ns s; omega
theorem fi_self {ns : List ByteArray} {j : Nat} (_hj : j < ns.length) : fi ns (nm ns j) ≤ j := by
  rcases Nat.lt_or_ge j (fi ns (nm ns j)) with h | h
  · exact absurd rfl (fi_before h)
  · exact h
theorem fi_lt_of_mem {ns : List ByteArray} {s : ByteArray} (h : s ∈ ns) : fi ns s < ns.length := by
  obtain ⟨i, hi, e⟩ := mem_nm h
  have := fi_self hi
  rw [e] at this; omega
theorem fi_fi {ns : List ByteArray} {s : ByteArray} (h : fi ns s < ns.length) : fi ns (nm ns (fi ns s)) = fi ns s := by rw [fi_name h]

/-! ### The last place of a name among the first k -/
def lastTo (ns : List ByteArray) : Nat → ByteArray → Option Nat
  | 0, _ => none
  | k + 1, s => if same (nm ns k) s then some k else lastTo ns k s
theorem lastTo_some {ns : List ByteArray} {s : ByteArray} : ∀ {k j : Nat}, lastTo ns k s = some j → j < k ∧ nm ns j = s
  | 0, j, h => by cases h
  | k + 1, j, h => by
    unfold lastTo at h
    by_cases c : same (nm ns k) s = true
    · rw [if_pos c] at h; cases h; exact ⟨by omega, same_iff.1 c⟩
    · rw [if_neg c] at h
      obtain ⟨h1, h2⟩ := lastTo_some h
      exact ⟨by omega, h2⟩
theorem lastTo_of {ns : List ByteArray} {s : ByteArray} : ∀ {k j : Nat}, j < k → nm ns j = s → ∃ i, lastTo ns k s = some i
  | 0, j, h, _ => by omega
  | k + 1, j, h, e => by
    unfold lastTo
    by_cases c : same (nm ns k) s = true
    · exact ⟨k, by rw [if_pos c]⟩
    · rw [if_neg c]
      have : j ≠ k := by rintro rfl; exact c (same_iff.2 e)
      exact lastTo_of (by omega) e

/-- What a name leads to: the requirements of the last gem so named. -/
def leads (ns : List ByteArray) (req : Nat → List ByteArray) (s : ByteArray) : List ByteArray :=
  match lastTo ns ns.length s with
  | some j => req j
  | none => []

/-- Reached from the roots. -/
def Reach (lead : ByteArray → List ByteArray) (roots : List ByteArray) (s : ByteArray) : Prop :=
  ∀ S : ByteArray → Prop, (∀ r ∈ roots, S r) → (∀ t, S t → ∀ u ∈ lead t, S u) → S s
theorem reach_root {lead : ByteArray → List ByteArray} {roots : List ByteArray} {s : ByteArray} (h : s ∈ roots) : Reach lead roots s := fun _ h1 _ => h1 s h
theorem reach_step {lead : ByteArray → List ByteArray} {roots : List ByteArray} {t u : ByteArray} (h : Reach lead roots t) (hu : u ∈ lead t) : Reach lead roots u :=
  fun S h1 h2 => h2 t (h S h1 h2) u hu

/-! ### Sums -/
def sumF (f : Nat → Nat) : Nat → Nat
  | 0 => 0
  | n + 1 => sumF f n + f n
theorem sumF_congr {f g : Nat → Nat} : ∀ {n : Nat}, (∀ j, j < n → f j = g j) → sumF f n = sumF g n
  | 0, _ => rfl
  | n + 1, h => by unfold sumF; rw [sumF_congr (fun j hj => h j (by omega)), h n (by omega)]
theorem sumF_le {f g : Nat → Nat} : ∀ {n : Nat}, (∀ j, j < n → f j ≤ g j) → sumF f n ≤ sumF g n
  | 0, _ => Nat.le_refl _
  | n + 1, h => by unfold sumF; have h1 := sumF_le (n := n) (fun j hj => h j (by omega)); have h2 := h n (by omega); omega
theorem sumF_one {f g : Nat → Nat} {j0 : Nat} : ∀ {n : Nat}, j0 < n → (∀ j, j < n → j ≠ j0 → f j = g j) → sumF f n + g j0 = sumF g n + f j0
  | 0, h, _ => by omega
  | n + 1, h, e => by
    unfold sumF
    by_cases c : j0 = n
    · subst c
      rw [sumF_congr (f := f) (g := g) (fun j hj => e j (by omega) (by omega))]; omega
    · have h1 := sumF_one (n := n) (by omega) (fun j hj hne => e j (by omega) hne)
      have h2 := e n (by omega) (by omega)
      omega

/-- What the names that are not reached yet may still bring. -/
def still (ns : List ByteArray) (req : Nat → List ByteArray) (R : ByteArray → Bool) : Nat :=
  sumF (fun j => if lastTo ns ns.length (nm ns j) = some j ∧ R (nm ns j) = false then (req j).length else 0) ns.length
/-- One name more is reached. -/
def mark (R : ByteArray → Bool) (s : ByteArray) : ByteArray → Bool := fun t => if same s t then true else R t
theorem mark_self (R : ByteArray → Bool) (s : ByteArray) : mark R s s = true := by unfold mark; rw [if_pos (same_refl s)]
theorem mark_other {R : ByteArray → Bool} {s t : ByteArray} (h : s ≠ t) : mark R s t = R t := by unfold mark; rw [if_neg (by rw [same_iff]; exact h)]
theorem mark_old {R : ByteArray → Bool} {s t : ByteArray} (h : R t = true) : mark R s t = true := by unfold mark; split <;> simp [h]

theorem still_mark (ns : List ByteArray) (req : Nat → List ByteArray) (R : ByteArray → Bool) (s : ByteArray) (hR : R s = false) :
    still ns req (mark R s) + (leads ns req s).length = still ns req R := by
  unfold still leads
  cases hl : lastTo ns ns.length s with
  | none =>
    have hno : ∀ j, j < ns.length → nm ns j ≠ s := by
      intro j hj e
      obtain ⟨i, hi⟩ := lastTo_of hj e
      rw [hl] at hi; cases hi
    show _ + 0 = _
    rw [Nat.add_zero]
    refine sumF_congr (fun j hj => ?_)
    rw [mark_other (fun e => hno j hj e.symm)]
  | some j0 =>
    obtain ⟨hj0, e0⟩ := lastTo_some hl
    have key := sumF_one (f := fun j => if lastTo ns ns.length (nm ns j) = some j ∧ mark R s (nm ns j) = false then (req j).length else 0)
      (g := fun j => if lastTo ns ns.length (nm ns j) = some j ∧ R (nm ns j) = false then (req j).length else 0) (j0 := j0) (n := ns.length) hj0 (fun j hj hne => by
        by_cases c : nm ns j = s
        · rw [c, hl]
          have : ¬ (some j0 = some j) := by simp; omega
          simp [this]
        · rw [mark_other (fun e => c e.symm)])
    rw [e0, hl, mark_self, hR] at key
    simp at key
    exact key

theorem still_le (ns : List ByteArray) (req : Nat → List ByteArray) (R : ByteArray → Bool) : still ns req R ≤ sumF (fun j => (req j).length) ns.length := by
  unfold still
  refine sumF_le (fun j _ => ?_)
  split <;> omega

/-! ### Going through what is pending -/
structure Search (lead : ByteArray → List ByteArray) (roots pending : List ByteArray) (R : ByteArray → Bool) : Prop where
  sound : ∀ s, R s = true → Reach lead roots s
  due : ∀ s ∈ pending, Reach lead roots s
  root : ∀ r ∈ roots, R r = true ∨ r ∈ pending
  closed : ∀ t, R t = true → ∀ u ∈ lead t, R u = true ∨ u ∈ pending
theorem search_start (lead : ByteArray → List ByteArray) (roots : List ByteArray) : Search lead roots roots (fun _ => false) :=
  ⟨fun s h => (by cases h), fun s h => reach_root h, fun r h => .inr h, fun t h => (by cases h)⟩
theorem search_skip {lead : ByteArray → List ByteArray} {roots p : List ByteArray} {s : ByteArray} {R : ByteArray → Bool} (h : Search lead roots (p ++ [s]) R) (hs : R s = true) : Search lead roots p R := by
  refine ⟨h.sound, fun x hx => h.due x (List.mem_append_left _ hx), fun r hr => ?_, fun t ht u hu => ?_⟩
  · rcases h.root r hr with c | c
    · exact .inl c
    · rcases List.mem_append.1 c with c | c
      · exact .inr c
      · rw [List.mem_singleton.1 c]; exact .inl hs
  · rcases h.closed t ht u hu with c | c
    · exact .inl c
    · rcases List.mem_append.1 c with c | c
      · exact .inr c
      · rw [List.mem_singleton.1 c]; exact .inl hs
theorem search_take {lead : ByteArray → List ByteArray} {roots p : List ByteArray} {s : ByteArray} {R : ByteArray → Bool} (h : Search lead roots (p ++ [s]) R) : Search lead roots (p ++ lead s) (mark R s) := by
  have hs : Reach lead roots s := h.due s (by simp)
  have conv : ∀ u, R u = true ∨ u ∈ p ++ [s] → mark R s u = true ∨ u ∈ p ++ lead s := by
    intro u c
    rcases c with c | c
    · exact .inl (mark_old c)
    · rcases List.mem_append.1 c with c | c
      · exact .inr (List.mem_append_left _ c)
      · rw [List.mem_singleton.1 c]; exact .inl (mark_self R s)
  refine ⟨fun x hx => ?_, fun x hx => ?_, fun r hr => conv r (h.root r hr), fun t ht u hu => ?_⟩
  · by_cases c : s = x
    · subst c; exact hs
    · rw [mark_other c] at hx; exact h.sound x hx
  · rcases List.mem_append.1 hx with c | c
    · exact h.due x (List.mem_append_left _ c)
    · exact reach_step hs c
  · by_cases c : s = t
    · subst c; exact .inr (List.mem_append_right _ hu)
    · rw [mark_other c] at ht; exact conv u (h.closed t ht u hu)
theorem search_end {lead : ByteArray → List ByteArray} {roots : List ByteArray} {R : ByteArray → Bool} (h : Search lead roots [] R) (s : ByteArray) : R s = true ↔ Reach lead roots s := by
  refine ⟨h.sound s, fun hr => hr (fun x => R x = true) (fun r hr => ?_) (fun t ht u hu => ?_)⟩
  · rcases h.root r hr with c | c
    · exact c
    · cases c
  · rcases h.closed t ht u hu with c | c
    · exact c
    · cases c
end Go.Proofs.Qxb6602477a
