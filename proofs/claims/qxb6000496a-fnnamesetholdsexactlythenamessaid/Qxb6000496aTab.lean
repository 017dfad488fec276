/- THE PLAIN LAW: an open table by hash, linear probing: no Go in sight. -/
import Derived.WalkKit
namespace Go.Proofs.Qxb6000496a.Tab

/-- Two names as bytes. -/
def same (t s : ByteArray) : Bool := t.data.toList == s.data.toList
theorem same_iff {t s : ByteArray} : same t s = true ↔ t = s := by
  unfold same
  rw [beq_iff_eq]
  constructor
  · intro h
    cases t; cases s
    congr
    exact Array.toList_inj.1 h
  · rintro rfl; rfl
theorem same_no {t s : ByteArray} : same t s = false ↔ t ≠ s := by
  rw [Bool.eq_false_iff, Ne, same_iff]
def isIn (ns : List ByteArray) (s : ByteArray) : Bool := ns.any fun t => same t s
theorem isIn_iff {ns : List ByteArray} {s : ByteArray} : isIn ns s = true ↔ s ∈ ns := by
  unfold isIn
  rw [List.any_eq_true]
  constructor
  · rintro ⟨t, ht, h⟩; rw [← same_iff.1 h]; exact ht
  · intro h; exact ⟨s, h, same_iff.2 rfl⟩

abbrev Tb : Type := List (Option ByteArray)

def at? (tb : Tb) (h e : Nat) : Option (Option ByteArray) := tb[(h + e) % tb.length]?

/-- The first d places from h on are in use, none by the name. -/
def Probe (tb : Tb) (h d : Nat) (name : ByteArray) : Prop := ∀ e, e < d → ∃ s, at? tb h e = some (some s) ∧ s ≠ name

def Added (tb : Tb) (h : Nat) (name : ByteArray) (r : Bool) (tb' : Tb) : Prop :=
  ∃ d, d < tb.length ∧ Probe tb h d name ∧ ((r = false ∧ at? tb h d = some (some name) ∧ tb' = tb) ∨ (r = true ∧ at? tb h d = some none ∧ tb' = tb.set ((h + d) % tb.length) (some name)))

def used (tb : Tb) : Nat := tb.countP Option.isSome

structure Inv (H : ByteArray → Nat) (tb : Tb) (S : ByteArray → Prop) : Prop where
  only : ∀ (i : Nat) (s : ByteArray), tb[i]? = some (some s) → S s
  found : ∀ s : ByteArray, S s → ∃ d : Nat, d < tb.length ∧ at? tb (H s) d = some (some s) ∧ ∀ e, e < d → ∃ t, at? tb (H s) e = some (some t)

theorem inv_new (H : ByteArray → Nat) (n : Nat) : Inv H (List.replicate n none) (fun _ => False) := by
  refine ⟨fun i s h => ?_, fun s h => h.elim⟩
  rw [List.getElem?_replicate] at h
  split at h
  · cases h
  · cases h

theorem used_new (n : Nat) : used (List.replicate n none) = 0 := by
  unfold used
  rw [List.countP_eq_zero]
  intro o ho
  rw [List.eq_of_mem_replicate ho]
  simp

theorem free_of_used (tb : Tb) (h : used tb < tb.length) : ∃ i, i < tb.length ∧ tb[i]? = some none := by
  apply Classical.byContradiction
  intro hn
  have : used tb = tb.length := by
    unfold used
    rw [List.countP_eq_length]
    intro o ho
    obtain ⟨i, hi, rfl⟩ := List.mem_iff_getElem.1 ho
    cases e : tb[i] with
    | none => exact absurd ⟨i, hi, by rw [List.getElem?_eq_getElem hi, e]⟩ hn
    | some s => rfl
  omega

theorem free_at (tb : Tb) (h : Nat) (hu : used tb < tb.length) : ∃ d, d < tb.length ∧ at? tb h d = some none := by
  obtain ⟨i, hi, e⟩ := free_of_used tb hu
  refine ⟨(i + (tb.length - h % tb.length)) % tb.length, Nat.mod_lt _ (by omega), ?_⟩
  unfold at?
  have h1 : h % tb.length < tb.length := Nat.mod_lt _ (by omega)
  have e2 : (h + (i + (tb.length - h % tb.length)) % tb.length) % tb.length = i := by
    rw [Nat.add_mod_mod, Nat.add_mod, Nat.add_mod i]
    have : (h % tb.length + (i % tb.length + (tb.length - h % tb.length) % tb.length) % tb.length) % tb.length = (h % tb.length + (i + (tb.length - h % tb.length))) % tb.length := by
      rw [← Nat.add_mod i, Nat.add_mod_mod]
    rw [this, show h % tb.length + (i + (tb.length - h % tb.length)) = i + tb.length from by omega, Nat.add_mod_right, Nat.mod_eq_of_lt hi]
  rw [e2]; exact e

/-- The probe never goes round. -/
theorem probe_lt (tb : Tb) (h d : Nat) (name : ByteArray) (hu : used tb < tb.length) (hd : d < tb.length) (hp : Probe tb h d name) (s : ByteArray) (hs : at? tb h d = some (some s)) : d + 1 < tb.length := by
  obtain ⟨f, hf, e⟩ := free_at tb h hu
  apply Classical.byContradiction
  intro hn
  rcases Nat.lt_or_ge f d with hfd | hfd
  · obtain ⟨t, ht, _⟩ := hp f hfd
    rw [e] at ht; cases ht
  · have : f = d := by omega
    subst this
    rw [e] at hs; cases hs

theorem added_old {H : ByteArray → Nat} {tb tb' : Tb} {S : ByteArray → Prop} {name : ByteArray} {r : Bool} (hi : Inv H tb S) (hS : S name) (ha : Added tb (H name) name r tb') : r = false ∧ tb' = tb := by
  obtain ⟨d, hd, hp, h | ⟨hr, hn, _⟩⟩ := ha
  · exact ⟨h.1, h.2.2⟩
  · exfalso
    obtain ⟨d0, hd0, h1, h2⟩ := hi.found name hS
    rcases Nat.lt_trichotomy d d0 with h | h | h
    · obtain ⟨t, ht⟩ := h2 d h
      rw [hn] at ht; cases ht
    · subst h; rw [hn] at h1; cases h1
    · obtain ⟨t, ht, hne⟩ := hp d0 h
      rw [h1] at ht
      exact hne (Option.some.inj (Option.some.inj ht)).symm

theorem at?_set {tb : Tb} {p h e : Nat} {name : ByteArray} (_hp : p < tb.length) (hfree : tb[p]? = some none) {s : ByteArray} (h1 : at? tb h e = some (some s)) : at? (tb.set p (some name)) h e = some (some s) := by
  unfold at? at h1 ⊢
  rw [List.length_set]
  have : p ≠ (h + e) % tb.length := by
    intro c; rw [← c, hfree] at h1; cases h1
  rw [List.getElem?_set_ne this]; exact h1

theorem added_new {H : ByteArray → Nat} {tb tb' : Tb} {S : ByteArray → Prop} {name : ByteArray} {r : Bool} (hi : Inv H tb S) (hS : ¬ S name) (ha : Added tb (H name) name r tb') :
    r = true ∧ Inv H tb' (fun s => S s ∨ s = name) ∧ tb'.length = tb.length ∧ used tb' = used tb + 1 := by
  obtain ⟨d, hd, hp, ⟨_, h, _⟩ | ⟨hr, hn, rfl⟩⟩ := ha
  · exact absurd (hi.only _ _ h) hS
  · have hp' : (H name + d) % tb.length < tb.length := Nat.mod_lt _ (by omega)
    refine ⟨hr, ⟨fun i s h => ?_, fun s h => ?_⟩, by simp, ?_⟩
    · by_cases e : (H name + d) % tb.length = i
      · subst e
        rw [List.getElem?_set_self hp'] at h
        exact .inr (Option.some.inj (Option.some.inj h)).symm
      · rw [List.getElem?_set_ne e] at h
        exact .inl (hi.only i s h)
    · rcases h with h | rfl
      · obtain ⟨d0, hd0, h1, h2⟩ := hi.found s h
        exact ⟨d0, by simpa using hd0, at?_set hp' hn h1, fun e he => by obtain ⟨t, ht⟩ := h2 e he; exact ⟨t, at?_set hp' hn ht⟩⟩
      · refine ⟨d, by simpa using hd, ?_, fun e he => ?_⟩
        · unfold at?
          rw [List.length_set, List.getElem?_set_self hp']
        · obtain ⟨t, ht, _⟩ := hp e he
          exact ⟨t, at?_set hp' hn ht⟩
    · unfold used
      rw [List.countP_set hp']
      have e : tb[(H name + d) % tb.length] = none := by
        have := hn; unfold at? at this; rw [List.getElem?_eq_getElem hp'] at this; exact Option.some.inj this
      rw [e]
      simp

/-- The names that are in after the first k of a list. -/
def among (ns : List ByteArray) (k : Nat) (s : ByteArray) : Prop := s ∈ ns.take k

theorem among_succ {ns : List ByteArray} {k : Nat} (h : k < ns.length) (s : ByteArray) : among ns (k + 1) s ↔ among ns k s ∨ s = ns[k] := by
  unfold among
  rw [List.take_succ_eq_append_getElem h, List.mem_append, List.mem_singleton]

theorem inv_congr {H : ByteArray → Nat} {tb : Tb} {S S' : ByteArray → Prop} (h : Inv H tb S) (e : ∀ s, S s ↔ S' s) : Inv H tb S' :=
  ⟨fun i s hs => (e s).1 (h.only i s hs), fun s hs => h.found s ((e s).2 hs)⟩

/-- How many of the first k names came for the first time. -/
def firsts (ns : List ByteArray) : Nat → Nat
  | 0 => 0
  | k + 1 => firsts ns k + if isIn (ns.take k) (ns.getD k ⟨#[]⟩) then 0 else 1

theorem firsts_le (ns : List ByteArray) (k : Nat) : firsts ns k ≤ k := by
  induction k with
  | zero => exact Nat.le_refl _
  | succ k ih => unfold firsts; split <;> omega

/-- What holds after the first k names have been added. -/
structure After (H : ByteArray → Nat) (ns : List ByteArray) (n k : Nat) (tb : Tb) : Prop where
  inv : Inv H tb (among ns k)
  len : tb.length = n
  cnt : used tb = firsts ns k

theorem after_zero (H : ByteArray → Nat) (ns : List ByteArray) (n : Nat) : After H ns n 0 (List.replicate n none) :=
  ⟨inv_congr (inv_new H n) (fun s => by simp [among]), by simp, used_new n⟩

theorem after_succ {H : ByteArray → Nat} {ns : List ByteArray} {n k : Nat} {tb tb' : Tb} {r : Bool} (h : After H ns n k tb) (hk : k < ns.length) (ha : Added tb (H (ns.getD k ⟨#[]⟩)) (ns.getD k ⟨#[]⟩) r tb') :
    After H ns n (k + 1) tb' ∧ r = !(isIn (ns.take k) (ns.getD k ⟨#[]⟩)) := by
  have e : ns.getD k ⟨#[]⟩ = ns[k] := by simp [hk]
  have hf : firsts ns (k + 1) = firsts ns k + if isIn (ns.take k) (ns.getD k ⟨#[]⟩) then 0 else 1 := rfl
  rw [e] at ha hf ⊢
  by_cases hin : ns[k] ∈ ns.take k
  · obtain ⟨rfl, rfl⟩ := added_old h.inv hin ha
    have hc : isIn (ns.take k) ns[k] = true := isIn_iff.2 hin
    rw [hc] at hf ⊢
    refine ⟨⟨inv_congr h.inv (fun s => ?_), h.len, by rw [hf]; exact h.cnt⟩, rfl⟩
    rw [among_succ hk]
    constructor
    · exact .inl
    · rintro (h | rfl)
      · exact h
      · exact hin
  · obtain ⟨rfl, hi, hl, hu⟩ := added_new h.inv hin ha
    have hc : isIn (ns.take k) ns[k] = false := Bool.eq_false_iff.2 (fun c => hin (isIn_iff.1 c))
    rw [hc] at hf ⊢
    refine ⟨⟨inv_congr hi (fun s => (among_succ hk s).symm), hl.trans h.len, by rw [hf, hu, h.cnt]; rfl⟩, rfl⟩

/-- Adding a name that is there already. -/
theorem after_again {H : ByteArray → Nat} {ns : List ByteArray} {n : Nat} {tb tb' : Tb} {r : Bool} {name : ByteArray} (h : After H ns n ns.length tb) (hm : name ∈ ns) (ha : Added tb (H name) name r tb') : r = false ∧ tb' = tb :=
  added_old h.inv (by unfold among; rw [List.take_length]; exact hm) ha

end Go.Proofs.Qxb6000496a.Tab
