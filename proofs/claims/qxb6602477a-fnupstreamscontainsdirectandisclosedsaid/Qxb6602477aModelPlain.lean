/- THE PLAIN LAW of upstreamsModel: classes, the fixed point: no Go in sight. -/
import Derived.Test.Qxb6602477aPlain
namespace Go.Proofs.Qxb6602477a

/-- The classes that the first j rounds have laid. -/
def clsTo (ns : List ByteArray) (j i : Nat) : Int := if i < j then (fi ns (nm ns i) : Int) else 0
theorem clsTo_zero (ns : List ByteArray) (i : Nat) : clsTo ns 0 i = 0 := by unfold clsTo; rw [if_neg (by omega)]
theorem clsTo_all {ns : List ByteArray} {n i : Nat} (h : i < n) : clsTo ns n i = (fi ns (nm ns i) : Int) := by unfold clsTo; rw [if_pos h]
theorem clsTo_succ (ns : List ByteArray) (j i : Nat) : clsTo ns (j + 1) i = if i = j then (fi ns (nm ns j) : Int) else clsTo ns j i := by
  unfold clsTo
  by_cases c : i = j
  · subst c; rw [if_pos (by omega), if_pos rfl]
  · rw [if_neg c]
    by_cases d : i < j
    · rw [if_pos d, if_pos (by omega)]
    · rw [if_neg d, if_neg (by omega)]

/-- The last places that the first j rounds have laid. -/
def lastAt (ns : List ByteArray) (j c : Nat) : Nat := if fi ns (nm ns c) = c then (lastTo ns j (nm ns c)).getD 0 else 0
theorem lastAt_zero (ns : List ByteArray) (c : Nat) : lastAt ns 0 c = 0 := by unfold lastAt lastTo; split <;> rfl
theorem lastAt_succ {ns : List ByteArray} {j c : Nat} (hj : j < ns.length) (_hc : c < ns.length) : lastAt ns (j + 1) c = if c = fi ns (nm ns j) then j else lastAt ns j c := by
  have hf : fi ns (nm ns j) < ns.length := Nat.lt_of_le_of_lt (fi_self hj) hj
  unfold lastAt
  by_cases e : fi ns (nm ns c) = c
  · rw [if_pos e, if_pos e]
    show (if same (nm ns j) (nm ns c) then some j else lastTo ns j (nm ns c)).getD 0 = _
    by_cases d : nm ns j = nm ns c
    · rw [if_pos (same_iff.2 d), if_pos (by rw [d]; exact e.symm)]; rfl
    · rw [if_neg (by rw [same_iff]; exact d), if_neg]
      intro h
      apply d
      rw [h]; exact (fi_name hf).symm
  · rw [if_neg e, if_neg e, if_neg]
    intro h
    apply e
    rw [h, fi_name hf]
theorem lastAt_all {ns : List ByteArray} {c : Nat} (hc : c < ns.length) (hr : fi ns (nm ns c) = c) (req : Nat → List ByteArray) : lastAt ns ns.length c < ns.length ∧ req (lastAt ns ns.length c) = leads ns req (nm ns c) := by
  obtain ⟨i, hi⟩ := lastTo_of (ns := ns) (k := ns.length) hc rfl
  unfold lastAt leads
  rw [if_pos hr, hi]
  exact ⟨(lastTo_some hi).1, rfl⟩

/-! ### Marks on classes -/
def bmark (T : Nat → Bool) (t : Nat) : Nat → Bool := fun c => if c = t then true else T c
theorem bmark_self (T : Nat → Bool) (t : Nat) : bmark T t t = true := by unfold bmark; rw [if_pos rfl]
theorem bmark_old {T : Nat → Bool} {t c : Nat} (h : T c = true) : bmark T t c = true := by unfold bmark; split <;> simp [h]
theorem bmark_inv {T : Nat → Bool} {t c : Nat} (h : bmark T t c = true) : c = t ∨ T c = true := by
  unfold bmark at h
  by_cases e : c = t
  · exact .inl e
  · rw [if_neg e] at h; exact .inr h

/-- How many classes are not reached. -/
def open_ (n : Nat) (T : Nat → Bool) : Nat := sumF (fun c => if T c then 0 else 1) n
theorem open_mark {n t : Nat} {T : Nat → Bool} (ht : t < n) (hT : T t = false) : open_ n (bmark T t) + 1 = open_ n T := by
  have := sumF_one (f := fun c => if bmark T t c then 0 else 1) (g := fun c => if T c then 0 else 1) (j0 := t) (n := n) ht (fun j _ hne => by unfold bmark; rw [if_neg hne])
  simp only [bmark_self, hT] at this
  simpa [open_] using this

section
variable {ns : List ByteArray} {lead : ByteArray → List ByteArray} {roots : List ByteArray}

/-- The kind of a name, -1 where no gem bears it. -/
def cls (ns : List ByteArray) (s : ByteArray) : Int := if fi ns s < ns.length then (fi ns s : Int) else -1
theorem cls_neg {ns : List ByteArray} {s : ByteArray} (h : cls ns s < 0) : ¬ fi ns s < ns.length := by
  unfold cls at h
  by_cases c : fi ns s < ns.length
  · rw [if_pos c] at h; omega
  · exact c
theorem cls_pos {ns : List ByteArray} {s : ByteArray} (h : 0 ≤ cls ns s) : fi ns s < ns.length ∧ cls ns s = (fi ns s : Int) := by
  unfold cls at h ⊢
  by_cases c : fi ns s < ns.length
  · rw [if_pos c]; exact ⟨c, rfl⟩
  · rw [if_neg c] at h; omega

def Sound (ns : List ByteArray) (lead : ByteArray → List ByteArray) (roots : List ByteArray) (T : Nat → Bool) : Prop :=
  ∀ c, c < ns.length → T c = true → Reach lead roots (nm ns c)
def RootsTo (ns : List ByteArray) (roots : List ByteArray) (T : Nat → Bool) (k : Nat) : Prop := ∀ i, i < k → fi ns (nm roots i) < ns.length → T (fi ns (nm roots i)) = true
/-- The first k requirements of kind c are reached. -/
def ClosedAt (ns : List ByteArray) (lead : ByteArray → List ByteArray) (T : Nat → Bool) (c k : Nat) : Prop :=
  ∀ i, i < k → fi ns (nm (lead (nm ns c)) i) < ns.length → T (fi ns (nm (lead (nm ns c)) i)) = true
/-- The first k classes are closed. -/
def ClosedTo (ns : List ByteArray) (lead : ByteArray → List ByteArray) (T : Nat → Bool) (k : Nat) : Prop :=
  ∀ c, c < k → fi ns (nm ns c) = c → T c = true → ClosedAt ns lead T c (lead (nm ns c)).length

theorem sound_none : Sound ns lead roots (fun _ => false) := fun c _ h => by cases h
theorem sound_mark {T : Nat → Bool} {s : ByteArray} (h : Sound ns lead roots T) (hs : Reach lead roots s) (hf : fi ns s < ns.length) : Sound ns lead roots (bmark T (fi ns s)) := by
  intro c hc hT
  rcases bmark_inv hT with e | e
  · subst e; rw [fi_name hf]; exact hs
  · exact h c hc e
theorem rootsTo_skip {T : Nat → Bool} {k : Nat} (h : RootsTo ns roots T k) (hn : ¬ fi ns (nm roots k) < ns.length) : RootsTo ns roots T (k + 1) := by
  intro i hi hf
  by_cases c : i = k
  · subst c; exact absurd hf hn
  · exact h i (by omega) hf
theorem rootsTo_mark {T : Nat → Bool} {k : Nat} (h : RootsTo ns roots T k) : RootsTo ns roots (bmark T (fi ns (nm roots k))) (k + 1) := by
  intro i hi hf
  by_cases c : i = k
  · subst c; exact bmark_self _ _
  · exact bmark_old (h i (by omega) hf)
theorem rootsTo_keep {T : Nat → Bool} {k t : Nat} (h : RootsTo ns roots T k) : RootsTo ns roots (bmark T t) k := fun i hi hf => bmark_old (h i hi hf)

/-- How a pass stands: something has been marked; or nothing has, and D holds. -/
def Pass (n : Nat) (T0 T : Nat → Bool) (ch : Bool) (D : Prop) : Prop := (ch = true ∧ open_ n T < open_ n T0) ∨ (ch = false ∧ T = T0 ∧ D)
theorem pass_mono {n : Nat} {T0 T : Nat → Bool} {ch : Bool} {D D' : Prop} (h : Pass n T0 T ch D) (hd : D → D') : Pass n T0 T ch D' := by
  rcases h with h | ⟨a, b, c⟩
  · exact .inl h
  · exact .inr ⟨a, b, hd c⟩
theorem pass_mark {n t : Nat} {T0 T : Nat → Bool} {ch : Bool} {D D' : Prop} (h : Pass n T0 T ch D) (ht : t < n) (hT : T t = false) : Pass n T0 (bmark T t) true D' := by
  have := open_mark ht hT
  rcases h with ⟨_, b⟩ | ⟨_, b, _⟩
  · exact .inl ⟨rfl, by omega⟩
  · subst b; exact .inl ⟨rfl, by omega⟩

theorem closedAt_zero (T : Nat → Bool) (c : Nat) : ClosedAt ns lead T c 0 := fun i hi => absurd hi (Nat.not_lt_zero i)
theorem closedAt_succ {T : Nat → Bool} {c k : Nat} (h : ClosedAt ns lead T c k) (hk : fi ns (nm (lead (nm ns c)) k) < ns.length → T (fi ns (nm (lead (nm ns c)) k)) = true) : ClosedAt ns lead T c (k + 1) := by
  intro i hi hf
  by_cases e : i = k
  · subst e; exact hk hf
  · exact h i (by omega) hf
theorem closedTo_skip {T : Nat → Bool} {k : Nat} (h : ClosedTo ns lead T k) (hs : ¬ (fi ns (nm ns k) = k ∧ T k = true)) : ClosedTo ns lead T (k + 1) := by
  intro c hc hr hT
  by_cases e : c = k
  · subst e; exact absurd ⟨hr, hT⟩ hs
  · exact h c (by omega) hr hT
theorem closedTo_take {T : Nat → Bool} {k : Nat} (h : ClosedTo ns lead T k) (hc : ClosedAt ns lead T k (lead (nm ns k)).length) : ClosedTo ns lead T (k + 1) := by
  intro c hck hr hT
  by_cases e : c = k
  · subst e; exact hc
  · exact h c (by omega) hr hT

/-- AT THE FIXED POINT: just the names that can be reached. -/
theorem fixed {T : Nat → Bool} (hs : Sound ns lead roots T) (hr : RootsTo ns roots T roots.length) (hc : ClosedTo ns lead T ns.length) (hlead : ∀ s, ¬ fi ns s < ns.length → lead s = []) (s : ByteArray) (hf : fi ns s < ns.length) :
    T (fi ns s) = true ↔ Reach lead roots s := by
  constructor
  · intro h
    have := hs _ hf h
    rwa [fi_name hf] at this
  · intro h
    refine h (fun x => fi ns x < ns.length → T (fi ns x) = true) (fun r hr' => ?_) (fun t ht u hu hfu => ?_) hf
    · obtain ⟨i, hi, e⟩ := mem_nm hr'
      intro hfr
      have := hr i hi
      rw [e] at this
      exact this hfr
    · by_cases hft : fi ns t < ns.length
      · have h1 := ht hft
        obtain ⟨i, hi, e⟩ := mem_nm hu
        have h2 := hc (fi ns t) hft (fi_fi hft) h1
        rw [fi_name hft] at h2
        have h3 := h2 i hi
        rw [fi_name hft, e] at h3
        exact h3 hfu
      · rw [hlead t hft] at hu; cases hu
end

theorem leads_none {ns : List ByteArray} {req : Nat → List ByteArray} {s : ByteArray} (h : ¬ fi ns s < ns.length) : leads ns req s = [] := by
  unfold leads
  cases hl : lastTo ns ns.length s with
  | none => rfl
  | some j =>
    obtain ⟨h1, h2⟩ := lastTo_some hl
    exact absurd (fi_lt_of_mem (by rw [← h2]; exact nm_mem h1)) h
end Go.Proofs.Qxb6602477a
