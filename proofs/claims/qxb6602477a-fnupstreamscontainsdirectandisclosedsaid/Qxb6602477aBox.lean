import Derived.Test.Qxb6602477aBytes
import Derived.Test.Qxb6602477aModel
import Derived.Test.Qxb6602477aUpWalk
import Derived.Deep.RegionHeld3
namespace Go.Proofs.Qxb6602477a
open Go.ChangeShapes Go.WideShapes Go.ChangeAt Go.RowKit

/-! ### From one list of gems to another with the same gems -/
def SameGems (n : Nat) (ks ks' : List Kept) : Prop := ks.length = n ∧ ks'.length = n ∧ ∀ i, i < n → SameGem (gk ks i) (gk ks' i)
theorem sameGems_sum {n : Nat} {ks ks' : List Kept} (h : SameGems n ks ks') : ∀ k, k ≤ n → sumTo ks' k = sumTo ks k
  | 0, _ => by rw [sumTo_zero, sumTo_zero]
  | k + 1, hk => by
    rw [sumTo_succ (by rw [h.2.1]; omega), sumTo_succ (by rw [h.1]; omega), sameGems_sum h k (by omega), (h.2.2 k (by omega)).1]
theorem sumTo_get {ks : List Kept} : ∀ {n i : Nat}, n ≤ ks.length → i < n → (gk ks i).gem.req.length ≤ sumTo ks n
  | 0, i, _, h => by omega
  | n + 1, i, hn, h => by
    rw [sumTo_succ (by omega)]
    by_cases c : i = n
    · subst c; omega
    · have := sumTo_get (ks := ks) (n := n) (i := i) (by omega) (by omega); omega

/-- The box of the second argument. -/
def boxOf (k : Kept) : Obj := .cells #[.string k.gem.name, .string k.gem.version, .string k.gem.gemspec, .slice k.at? k.gem.req.length k.cap, .int .i64 k.gem.level] 25 (0, 0)
theorem box_stays {w w1 : World} {k : Kept} (hb : Below (w.alloc (boxOf k)).heap.size (w.alloc (boxOf k)) w1) : w1.heap[w.heap.size]? = some (boxOf k) := by
  rw [hb.block w.heap.size (by rw [World.size_alloc]; omega)]; exact heap_alloc_new _ _
theorem box_below {w w1 : World} {k : Kept} (hb : Below (w.alloc (boxOf k)).heap.size (w.alloc (boxOf k)) w1) : Below w.heap.size w w1 :=
  ((Below.refl w.heap.size w).alloc (Nat.le_refl _) (boxOf k)).trans (hb.mono (by rw [World.size_alloc]; omega))


/-- The box is written anew. -/
def put0 (w : World) (b : Nat) (k : Kept) : World :=
  ((((w.setCell ⟨b, 0, none⟩ (.string k.gem.name)).setCell ⟨b, 1, none⟩ (.string k.gem.version)).setCell ⟨b, 2, none⟩ (.string k.gem.gemspec)).setCell ⟨b, 3, none⟩ (.slice k.at? k.gem.req.length k.cap)).setCell ⟨b, 4, none⟩ (.int .i64 k.gem.level)
structure Boxed (w : World) (b : Nat) (a : Option Addr) (len : Nat) (ks : List Kept) (g : Kept) (W : World) : Prop where
  c0 : W.cell? ⟨b, 0, none⟩ = some (.string g.gem.name)
  c1 : W.cell? ⟨b, 1, none⟩ = some (.string g.gem.version)
  c2 : W.cell? ⟨b, 2, none⟩ = some (.string g.gem.gemspec)
  c3 : W.cell? ⟨b, 3, none⟩ = some (.slice g.at? g.gem.req.length g.cap)
  c4 : W.cell? ⟨b, 4, none⟩ = some (.int .i64 g.gem.level)
  gems : Gems W a len ks
  ok : g.ok W
  bel : Below w.heap.size w W
theorem box_put {w w4 : World} {k : Kept} (g : Kept) {a : Option Addr} {len : Nat} {ks : List Kept} (h : w4.heap[w.heap.size]? = some (boxOf k)) (hg : Gems w4 a len ks)
    (h1 : ∀ x, a = some x → x.block ≠ w.heap.size) (h2 : ∀ k ∈ ks, 0 < k.gem.req.length → ∀ x, k.at? = some x → x.block ≠ w.heap.size) (hok : g.ok w4) (h3 : 0 < g.gem.req.length → ∀ x, g.at? = some x → x.block ≠ w.heap.size)
    (hb : Below w.heap.size w w4) : Boxed w w.heap.size a len ks g (put0 w4 w.heap.size g) := by
  have hblk : (put0 w4 w.heap.size g).heap[w.heap.size]? = some (boxOf g) := by
    unfold put0; exact blk_set (blk_set (blk_set (blk_set (blk_set (cs := [_, _, _, _, _]) h))))
  obtain ⟨x0, x1, x2, x3, x4, _⟩ := five hblk
  refine ⟨x0, x1, x2, x3, x4, ?_, ?_, ?_⟩
  · exact gems_set (gems_set (gems_set (gems_set (gems_set hg _ _ h1 h2) _ _ h1 h2) _ _ h1 h2) _ _ h1 h2) _ _ h1 h2
  · exact strs_set (strs_set (strs_set (strs_set (strs_set hok _ _ h3) _ _ h3) _ _ h3) _ _ h3) _ _ h3
  · exact ((((hb.setCell (Nat.le_refl _) _).setCell (Nat.le_refl _) _).setCell (Nat.le_refl _) _).setCell (Nat.le_refl _) _).setCell (Nat.le_refl _) _


/-! ### The same gems lead to the same names -/
theorem gk_over {ks : List Kept} {j : Nat} (h : ¬ j < ks.length) : gk ks j = dk := by
  unfold gk; rw [List.getD_eq_getElem?_getD, List.getElem?_eq_none (by omega)]; rfl
theorem sameGems_gem {n : Nat} {ks ks' : List Kept} (h : SameGems n ks ks') (j : Nat) : (gk ks' j).gem = (gk ks j).gem := by
  by_cases hj : j < n
  · exact (h.2.2 j hj).1
  · rw [gk_over (by rw [h.2.1]; exact hj), gk_over (by rw [h.1]; exact hj)]
theorem list_gk (ks : List Kept) : ks = (List.range ks.length).map (gk ks) := by
  apply List.ext_getElem
  · simp
  · intro i h1 h2
    simp only [List.getElem_map, List.getElem_range]
    exact (gk_get h1).symm
theorem sameGems_names {n : Nat} {ks ks' : List Kept} (h : SameGems n ks ks') : names ks' = names ks := by
  rw [list_gk ks, list_gk ks', h.1, h.2.1]
  unfold names
  rw [List.map_map, List.map_map]
  exact List.map_congr_left fun j _ => congrArg Gem.name (sameGems_gem h j)
theorem sameGems_lead {n : Nat} {ks ks' : List Kept} (h : SameGems n ks ks') : lead ks' = lead ks := by
  unfold lead
  rw [sameGems_names h]
  congr 1
  exact funext fun j => congrArg Gem.req (sameGems_gem h j)
/-- The gems of L are those of ks at the places J. -/
structure Pick (n : Nat) (ks L : List Kept) (J : List Nat) : Prop where
  len : L.length = J.length
  le : J.length ≤ n
  lt : ∀ k, k < J.length → J.getD k 0 < n
  get : ∀ k, k < J.length → SameGem (gk ks (J.getD k 0)) (gk L k)
theorem pick_of {len : Nat} {ks3 ks2 L : List Kept} {J : List Nat} {T : Nat → Bool} {R : ByteArray → Bool} {roots : List ByteArray} (h : SameGems len ks3 ks2) (hL : L = ks2.filter (fun k => R k.gem.name))
    (hR : ∀ s, R s = true ↔ Reach (lead ks2) roots s) (hJ : J = (List.range len).filter T) (hT : ∀ j, j < len → (T j = true ↔ Reach (lead ks3) roots (nm (names ks3) j))) : Pick len ks3 L J := by
  have e : L = J.map (gk ks2) := by
    rw [hL, hJ]
    conv => lhs; rw [list_gk ks2]
    rw [List.filter_map, h.2.1]
    congr 1
    apply List.filter_congr
    intro j hj
    have hj' : j < len := by simpa using hj
    show R (gk ks2 j).gem.name = T j
    rw [Bool.eq_iff_iff, hR, hT j hj', sameGems_lead h, sameGems_gem h j, names_nm (by rw [h.1]; exact hj')]
  have hlt : ∀ k, k < J.length → J.getD k 0 < len := by
    intro k hk
    have : J.getD k 0 ∈ J := by rw [List.getD_eq_getElem?_getD, List.getElem?_eq_getElem hk]; exact List.getElem_mem hk
    rw [hJ] at this
    have := (List.mem_filter.1 this).1
    rw [hJ]
    simpa using this
  refine ⟨by rw [e]; simp, by rw [hJ]; exact Nat.le_trans (List.length_filter_le _ _) (by simp), hlt, fun k hk => ?_⟩
  have : gk L k = gk ks2 (J.getD k 0) := by
    rw [gk_get (by rw [e]; simpa using hk)]
    simp only [e, List.getElem_map]
    congr 1
    rw [List.getD_eq_getElem?_getD, List.getElem?_eq_getElem hk]; rfl
  rw [this]
  exact h.2.2 _ (hlt k hk)
theorem pick_nil {n : Nat} {ks L : List Kept} {J : List Nat} (h : Pick n ks L J) (h0 : J.length = 0) : L = [] := List.length_eq_zero_iff.1 (h.len.trans h0)
theorem q30 : ∀ (w : World) (a : Option Addr) (n c n' c' : Nat), (binOp .eql 30 (.slice a n c) (.slice none n' c')).run Try.prog w = .ok (.bool a.isNone) w :=
  fun w a n c n' c' => Lib.run_eql_slice_nil w _ _ a n c n' c' Try.underlying30
end Go.Proofs.Qxb6602477a
