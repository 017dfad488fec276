import Derived.Test.Qxb6602477aSub
namespace Go.Proofs.Qxb6602477a
open Go.ChangeShapes Go.WideShapes Go.ChangeAt Go.RowKit

/-! ### What a filter keeps lies at ascending places -/
def places (ks : List Kept) (q : Kept → Bool) : List Nat := (List.range ks.length).filter fun j => q (gk ks j)
def placeAt (ks : List Kept) (q : Kept → Bool) (k : Nat) : Nat := (places ks q).getD k 0
theorem filter_places (ks : List Kept) (q : Kept → Bool) : ks.filter q = (places ks q).map (gk ks) := by
  conv => lhs; rw [list_gk ks]
  rw [List.filter_map]
  rfl
theorem places_length (ks : List Kept) (q : Kept → Bool) : (ks.filter q).length = (places ks q).length := by rw [filter_places, List.length_map]
theorem placeAt_get {ks : List Kept} {q : Kept → Bool} {k : Nat} (h : k < (places ks q).length) : placeAt ks q k = (places ks q)[k] := by
  unfold placeAt; rw [List.getD_eq_getElem?_getD, List.getElem?_eq_getElem h]; rfl
theorem places_lt (ks : List Kept) (q : Kept → Bool) (x : Nat) (h : x ∈ places ks q) : x < ks.length := by
  unfold places at h
  simpa using (List.mem_filter.1 h).1
theorem places_asc (ks : List Kept) (q : Kept → Bool) : Asc (ks.filter q).length ks.length (placeAt ks q) := by
  rw [places_length]
  refine ⟨fun k hk => ?_, fun k hk => ?_⟩
  · rw [placeAt_get hk]
    exact places_lt ks q _ (List.getElem_mem hk)
  · rw [placeAt_get hk, placeAt_get (show k < (places ks q).length by omega)]
    have hp : (places ks q).Pairwise (· < ·) := List.Pairwise.filter _ List.pairwise_lt_range
    exact List.pairwise_iff_getElem.1 hp k (k + 1) (by omega) hk (by omega)
theorem placeAt_gk (ks : List Kept) (q : Kept → Bool) {k : Nat} (hk : k < (ks.filter q).length) : gk (ks.filter q) k = gk ks (placeAt ks q k) := by
  rw [gk_get hk, placeAt_get (by rw [← places_length]; exact hk)]
  simp only [filter_places, List.getElem_map]

/-! ### Distinct names -/
theorem same_names_distinct {n : Nat} {ks ks' : List Kept} (h : SameGems n ks ks') (hd : Distinct n ks) : Distinct n ks' := fun i j hi hj => by
  rw [sameGems_gem h, sameGems_gem h]; exact hd i j hi hj
theorem lead_own {ks : List Kept} (hd : Distinct ks.length ks) {j : Nat} (hj : j < ks.length) : lead ks (gk ks j).gem.name = (gk ks j).gem.req := by
  have hn : nm (names ks) j = (gk ks j).gem.name := names_nm hj
  obtain ⟨i, hi⟩ := lastTo_of (ns := names ks) (s := (gk ks j).gem.name) (k := (names ks).length) (j := j) (by rw [names_length]; exact hj) hn
  obtain ⟨h1, h2⟩ := lastTo_some hi
  rw [names_length] at h1
  rw [names_nm h1] at h2
  have : i = j := by
    rcases Nat.lt_trichotomy i j with h | h | h
    · exact absurd h2.symm (hd j i hj h)
    · exact h
    · exact absurd h2 (hd i j h1 h)
  subst this
  unfold lead leads
  rw [hi]
/-- What is reached from a reached gem's requirements is reached. -/
theorem reach_on {ks : List Kept} {roots : List ByteArray} (hd : Distinct ks.length ks) {x : Kept} (hx : x ∈ ks) (hr : Reach (lead ks) roots x.gem.name) {s : ByteArray} (hs : Reach (lead ks) x.gem.req s) : Reach (lead ks) roots s := by
  obtain ⟨j, hj, rfl⟩ := List.getElem_of_mem hx
  rw [← gk_get hj] at hr hs
  exact hs (Reach (lead ks) roots) (fun r h => reach_step hr (by rw [lead_own hd hj]; exact h)) (fun t ht u hu => reach_step ht hu)
/-- A filter that lets less by, behind one that lets more by. -/
theorem filter_twice {ks : List Kept} {R R' : ByteArray → Bool} (h : ∀ s, R' s = true → R s = true) : ks.filter (fun k => R' k.gem.name) = (ks.filter (fun k => R k.gem.name)).filter (fun k => R' k.gem.name) := by
  rw [List.filter_filter]
  congr 1
  funext k
  cases hc : R' k.gem.name with
  | false => rfl
  | true => rw [h _ hc]; rfl
/-- A gem that is required directly. -/
theorem direct_in {n : Nat} {ks3 ks2 : List Kept} {roots : List ByteArray} {R : ByteArray → Bool} (h : SameGems n ks3 ks2) (hR : ∀ s, R s = true ↔ Reach (lead ks2) roots s) {s : ByteArray} (hs : s ∈ roots) (hin : isIn (names ks3) s = true) :
    isIn (names (ks2.filter fun k => R k.gem.name)) s = true := by
  rw [← sameGems_names h] at hin
  have := isIn_iff.1 hin
  unfold names at this
  obtain ⟨k, hk, e⟩ := List.mem_map.1 this
  refine isIn_iff.2 ?_
  unfold names
  refine List.mem_map.2 ⟨k, List.mem_filter.2 ⟨hk, ?_⟩, e⟩
  show R k.gem.name = true
  rw [e, hR]
  exact reach_root hs
theorem whole_in {n : Nat} {ks3 ks2 L : List Kept} {q : Kept → Bool} (h : SameGems n ks3 ks2) (hL : L = ks2.filter q) : ∃ J, Asc L.length n J ∧ ∀ k, k < L.length → SameGem (gk ks3 (J k)) (gk L k) := by
  subst hL
  have ha := places_asc ks2 q
  rw [h.2.1] at ha
  refine ⟨placeAt ks2 q, ha, fun k hk => ?_⟩
  rw [placeAt_gk ks2 q hk]
  exact h.2.2 _ (ha.lt k hk)
theorem sub_in {ks2 L L' : List Kept} {roots : List ByteArray} {R R' : ByteArray → Bool} {x : Kept} (hL : L = ks2.filter (fun k => R k.gem.name)) (hR : ∀ s, R s = true ↔ Reach (lead ks2) roots s)
    (hL' : L' = ks2.filter (fun k => R' k.gem.name)) (hR' : ∀ s, R' s = true ↔ Reach (lead ks2) x.gem.req s) (hd : Distinct ks2.length ks2) (hx : x ∈ L) :
    ∃ J, Asc L'.length L.length J ∧ ∀ k, k < L'.length → (gk L (J k)).gem.name = (gk L' k).gem.name := by
  have hx' := hx
  rw [hL] at hx'
  obtain ⟨hm, hn⟩ := List.mem_filter.1 hx'
  have hsub : ∀ s, R' s = true → R s = true := fun s hs => (hR s).2 (reach_on hd hm ((hR _).1 hn) ((hR' s).1 hs))
  have e : L' = L.filter (fun k => R' k.gem.name) := by rw [hL', hL]; exact filter_twice hsub
  subst e
  exact ⟨placeAt L _, places_asc L _, fun k hk => by rw [placeAt_gk L _ hk]⟩
theorem filter_le {ks L : List Kept} {q : Kept → Bool} (h : L = ks.filter q) : L.length ≤ ks.length := by rw [h]; exact List.length_filter_le _ _
theorem filter_req {n : Nat} {ks L : List Kept} {q : Kept → Bool} (h : L = ks.filter q) (hn : ks.length = n) {k : Nat} (hk : k < L.length) : (gk L k).gem.req.length ≤ sumTo ks n := by
  have hm := gk_mem hk
  have hsub : ∀ x ∈ L, x ∈ ks := fun x hx => by rw [h] at hx; exact (List.mem_filter.1 hx).1
  have hm2 : gk L k ∈ ks := hsub _ hm
  obtain ⟨j, hj, e⟩ := List.getElem_of_mem hm2
  rw [← e, ← gk_get hj]
  exact sumTo_get (by omega) (by omega)
end Go.Proofs.Qxb6602477a
