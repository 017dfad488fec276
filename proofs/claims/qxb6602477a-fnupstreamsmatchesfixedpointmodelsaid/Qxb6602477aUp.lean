import Derived.Test.Qxb6602477aMaps
import Derived.Deep.LoopGhost
import Derived.Laws.AppendOwnNone
namespace Go.Proofs.Qxb6602477a
open Go.ChangeShapes Go.WideShapes Go.ChangeAt Go.RowKit Go.MapKept

/-! ### What the two maps hold -/
def lead (ks : List Kept) : ByteArray → List ByteArray := leads (names ks) (fun j => (gk ks j).gem.req)
def byTo (ks : List Kept) (k : Nat) (s : ByteArray) : Option Value := (lastTo (names ks) k s).map fun j => (gk ks j).val
def found (ks : List Kept) (s : ByteArray) : Kept := match lastTo (names ks) (names ks).length s with | some j => gk ks j | none => dk
theorem found_val (ks : List Kept) (s : ByteArray) : (byTo ks ks.length s).getD dk.val = (found ks s).val := by
  unfold byTo found
  rw [names_length]
  cases lastTo (names ks) ks.length s <;> rfl
theorem found_req (ks : List Kept) (s : ByteArray) : (found ks s).gem.req = lead ks s := by
  unfold found lead leads
  cases lastTo (names ks) (names ks).length s <;> rfl
theorem dk_ok (w : World) : dk.ok w := ⟨rfl, fun h => absurd h (Nat.not_lt_zero 0)⟩
theorem found_ok {w : World} {ks : List Kept} (h : ∀ k ∈ ks, k.ok w) (s : ByteArray) : (found ks s).ok w := by
  unfold found
  cases hl : lastTo (names ks) (names ks).length s with
  | none => exact dk_ok w
  | some j =>
    have := (lastTo_some hl).1
    rw [names_length] at this
    exact h _ (gk_mem this)
theorem byTo_succ {ks : List Kept} {k : Nat} (h : k < ks.length) (s : ByteArray) : put (byTo ks k) (gk ks k).gem.name (gk ks k).val s = byTo ks (k + 1) s := by
  have e : nm (names ks) k = (gk ks k).gem.name := names_nm h
  unfold put byTo
  show _ = (if same (nm (names ks) k) s then some k else lastTo (names ks) k s).map _
  rw [e]
  split <;> rfl

theorem zero33 (w : World) : (zeroValue 33).run Try.prog w = .ok dk.val w := by kernel_rfl
theorem zero4 (w : World) : (zeroValue 4).run Try.prog w = .ok (.bool false) w := by kernel_rfl
theorem run_mm45 (n : Nat) (w : World) : (Instr.makeMap 45 (some (.int .i64 (n : Int)))).run Try.prog w = .ok (.map (some w.heap.size)) (w.alloc (.map #[] 0)) := by
  simp [Instr.makeMap, run_underlying Try.underlying45, asInt, asIntOf, Result.andThen]


/-! ### append(pending, src...) -/
def sv (ns : List ByteArray) : List Value := ns.map Value.string
theorem sv_length (ns : List ByteArray) : (sv ns).length = ns.length := by simp [sv]
theorem sv_append (a b : List ByteArray) : sv (a ++ b) = sv a ++ sv b := by simp [sv]
theorem sv_get {ns : List ByteArray} {i : Nat} (h : i < ns.length) : (sv ns)[i]? = some (.string (nm ns i)) := by simp [sv, nm, h]
theorem sv_one (ns : List ByteArray) : ∀ u ∈ sv ns, u.oneCell' = true := by
  intro u hu
  obtain ⟨x, _, rfl⟩ := List.mem_map.1 hu
  rfl

theorem run_append_none_any {P : Program} {w : World} (base : Nat) (t ty e : TypeId) (i : TypeInfo) (size c : Nat) (ht : P.underlying t = some (.slice e)) (hi : P.info? e = some i)
    (v : Value) (n : Nat) (xs : List Value) (hown : w.ownsRow base e size v n xs) : (Builtin.append_ #[t, t] ty #[v, .slice none 0 c]).run P w = .ok v w := by
  rcases hown.2 with ⟨rfl, rfl⟩ | ⟨g, cap, cur, rfl, _, _, hnc, _⟩
  · simp [Builtin.append_, run_underlying ht, sizeOf, typeInfo, hi, Builtin.lenOf, Builtin.firstCells]
  · simp [Builtin.append_, run_underlying ht, sizeOf, typeInfo, hi, Builtin.lenOf, Builtin.firstCells, hnc, storeCells]

/-- An append whose run is known, at the operation. -/
theorem wpList_append_run {P : Program} {w w' : World} {ops : Array Oper} {rest : List Oper} {o : Oper} {a : Act} {Q : Exit → Act → World → Prop} (hgd : o.guard = none) (s x : Operand) (t : TypeId)
    (ho : o.op = .call { callee := .builtin .append, args := #[s, x], argTypes := #[t, t] }) (v1 v2 v' : Value) (hs : a.eval s = v1) (hx : a.eval x = v2)
    (hrun : (Builtin.append_ #[t, t] o.type #[v1, v2]).run P w = .ok v' w') (h : wpList P ops Q rest (a.put o.dst v') w') : wpList P ops Q (o :: rest) a w := by
  refine wpList_plain hgd fun K hK => ?_
  unfold Oper.wp
  simp [execOp, ho, resolve, invoke, builtin, hs, hx, hrun, Result.andThen]
  exact hK _ _ h

/-- What is pending. -/
def Pend (w : World) (base : Nat) (pa : Option Addr) (pc : Nat) (P : List ByteArray) : Prop := w.ownsRow base 9 1 (.slice pa P.length pc) P.length (sv P)
theorem grown_refl (w : World) (row : Option Nat) : w.grownBy w row := ⟨rfl, rfl, rfl, Nat.le_refl _, fun _ _ _ => rfl⟩

theorem run_pend {w : World} {base : Nat} {pa : Option Addr} {pc : Nat} {P : List ByteArray} (hp : Pend w base pa pc P) {a : Option Addr} {len : Nat} (c : Nat) {ns : List ByteArray} (hs : Strs w a len ns)
    (hb : P.length + len ≤ 2097152) (hbase : base ≤ w.heap.size) :
    ∃ pa' pc' w', (Builtin.append_ #[23, 23] 23 #[.slice pa P.length pc, .slice a len c]).run Try.prog w = .ok (.slice pa' (P.length + len) pc') w' ∧ Pend w' base pa' pc' (P ++ ns) ∧ w.grownBy w' (Value.slice pa P.length pc).ownBlock := by
  obtain ⟨i0, hi, hz0, hz1, hz2⟩ := info_parts Try.info9
  unfold Pend at hp
  cases a with
  | none =>
    have hl0 : len = 0 := by
      rcases Nat.eq_zero_or_pos len with h0 | h0
      · exact h0
      · obtain ⟨b, o, e, _⟩ := hs.2 h0; cases e
    subst hl0
    obtain rfl : ns = [] := List.eq_nil_of_length_eq_zero hs.1
    refine ⟨pa, pc, w, run_append_none_any base 23 23 9 i0 1 c Try.underlying23 hi _ _ _ hp, ?_, grown_refl _ _⟩
    rw [List.append_nil]; exact hp
  | some x =>
    have hnews : ∀ j u, (sv ns)[j]? = some u → w.cell? (x.add j) = some u := by
      intro j u hj
      have hjl : j < ns.length := by rw [← sv_length]; exact (List.getElem?_eq_some_iff.1 hj).1
      obtain ⟨b, o, e, hc⟩ := hs.2 (by rw [← hs.1]; omega)
      cases e
      rw [addr_add, hc j (by rw [← hs.1]; exact hjl), ← sv_get hjl]; exact hj
    obtain ⟨v', w', hrun, hown, hgr, _⟩ := run_append_own (P := Try.prog) w base 23 23 9 i0 _ 1 16 Try.underlying23 hi hz0 hz1 hz2 rfl (by decide) _ _ _ hp x len c (sv ns) (by rw [sv_length, hs.1]; omega) hnews (sv_one ns) (by unfold maxLen; omega) (by omega) hbase
    have hlen : (P ++ ns).length = P.length + len := by rw [List.length_append, hs.1]
    obtain ⟨pa', pc', rfl⟩ : ∃ pa' pc', v' = .slice pa' (P.length + len) pc' := by
      rcases hown.2 with ⟨rfl, h0⟩ | ⟨g, cap, cur, rfl, _⟩
      · exact ⟨none, 0, by rw [h0]⟩
      · exact ⟨_, _, rfl⟩
    refine ⟨pa', pc', w', hrun, ?_, hgr⟩
    unfold Pend
    rw [hlen, sv_append]; exact hown

/-! ### One name taken from what is pending -/
def rset (R : ByteArray → Bool) (s : ByteArray) : Option Value := if R s then some (.bool true) else none
theorem rset_get (R : ByteArray → Bool) (s : ByteArray) : (rset R s).getD (.bool false) = .bool (R s) := by
  unfold rset; cases R s <;> rfl
theorem rset_mark (R : ByteArray → Bool) (s t : ByteArray) : put (rset R) s (.bool true) t = rset (mark R s) t := by
  unfold put rset mark
  split <;> simp

structure Up (ks : List Kept) (roots : List ByteArray) (w wr : World) (r1 r2 : Nat) (pa : Option Addr) (pc : Nat) (P : List ByteArray) (R : ByteArray → Bool) : Prop where
  pend : Pend wr w.heap.size pa pc P
  m1 : StrMap wr r1 (byTo ks ks.length)
  m2 : StrMap wr r2 (rset R)
  srch : Search (lead ks) roots P R
  bel : Below w.heap.size w wr
  lo1 : w.heap.size ≤ r1
  lo2 : w.heap.size ≤ r2
  ne : r1 ≠ r2

theorem pend_ne {w : World} {base : Nat} {pa : Option Addr} {pc : Nat} {P : List ByteArray} {r : Nat} {f : ByteArray → Option Value} (hp : Pend w base pa pc P) (hm : StrMap w r f) : (Value.slice pa P.length pc).ownBlock ≠ some r := by
  intro c
  rcases hp.2 with ⟨h, _⟩ | ⟨g, cap, cur, hv, _, hg, _⟩
  · rw [h] at c; cases c
  · rw [hv] at c
    obtain rfl : g = r := by simpa [Value.ownBlock] using c
    obtain ⟨es, clock, hb, _⟩ := hm
    rw [hg] at hb; cases hb
theorem pend_lo {w : World} {base : Nat} {pa : Option Addr} {pc : Nat} {P : List ByteArray} (hp : Pend w base pa pc P) : ∀ k, (Value.slice pa P.length pc).ownBlock = some k → base ≤ k :=
  fun k hk => (hp.lt k hk).1
theorem pend_at {w : World} {base : Nat} {pa : Option Addr} {pc : Nat} {P : List ByteArray} {s : ByteArray} (hp : Pend w base pa pc (P ++ [s])) :
    ∃ g, pa = some ⟨g, 0, none⟩ ∧ w.cell? ⟨g, P.length, none⟩ = some (.string s) ∧ P.length + 1 ≤ pc ∧ Pend w base pa pc P := by
  have hl : (P ++ [s]).length = P.length + 1 := by simp
  unfold Pend at hp
  rw [hl, sv_append] at hp
  rcases hp.2 with ⟨h, _⟩ | ⟨g, cap, cur, hv, h1, h2, h3, h4⟩
  · exact absurd h (by simp)
  · simp only [Value.slice.injEq] at hv
    obtain ⟨rfl, -, rfl⟩ := hv
    refine ⟨g, rfl, ?_, h3, ownsRow_pop (by rw [sv_length]; omega) hp⟩
    rw [hp.cellAt P.length (by omega), List.getElem?_append_right (by rw [sv_length]; exact Nat.le_refl _), sv_length]
    simp [sv]

theorem up_skip {ks : List Kept} {roots : List ByteArray} {w wr : World} {r1 r2 : Nat} {pa : Option Addr} {pc : Nat} {P : List ByteArray} {s : ByteArray} {R : ByteArray → Bool} (h : Up ks roots w wr r1 r2 pa pc (P ++ [s]) R) (hR : R s = true) :
    Up ks roots w wr r1 r2 pa pc P R := by
  obtain ⟨g, _, _, _, hp⟩ := pend_at h.pend
  exact ⟨hp, h.m1, h.m2, search_skip h.srch hR, h.bel, h.lo1, h.lo2, h.ne⟩

theorem up_look {ks : List Kept} {roots : List ByteArray} {w wr : World} {r1 r2 : Nat} {pa : Option Addr} {pc : Nat} {P : List ByteArray} {R : ByteArray → Bool} (h : Up ks roots w wr r1 r2 pa pc P R) (s : ByteArray) :
    (Instr.lookup 46 (.map (some r2)) (.string s) false).run Try.prog wr = .ok (.bool (R s)) wr := by
  rw [run_lookup_str Try.underlying46 Try.underlying9 (zero4 wr) h.m2 s, rset_get]

theorem up_take {ks : List Kept} {roots : List ByteArray} {w wr : World} {r1 r2 : Nat} {pa : Option Addr} {pc : Nat} {P : List ByteArray} {s : ByteArray} {R : ByteArray → Bool} (h : Up ks roots w wr r1 r2 pa pc (P ++ [s]) R) (hks : ∀ k ∈ ks, k.ok w)
    (hb : P.length + (lead ks s).length ≤ 2097152) :
    ∃ w1 pa' pc' w2, (Instr.mapUpdate 46 (.map (some r2)) (.string s) (.bool true)).run Try.prog wr = .ok () w1 ∧ (Instr.lookup 45 (.map (some r1)) (.string s) false).run Try.prog w1 = .ok (found ks s).val w1 ∧
      (Builtin.append_ #[23, 23] 23 #[.slice pa P.length pc, .slice (found ks s).at? (found ks s).gem.req.length (found ks s).cap]).run Try.prog w1 = .ok (.slice pa' (P.length + (lead ks s).length) pc') w2 ∧
      Up ks roots w w2 r1 r2 pa' pc' (P ++ lead ks s) (mark R s) := by
  obtain ⟨g, _, _, _, hp⟩ := pend_at h.pend
  obtain ⟨w1, e1, hm2, ho⟩ := run_update_str (P := Try.prog) Try.underlying46 Try.underlying9 h.m2 s (.bool true)
  have hgr1 : wr.grownBy w1 (some r2) := ⟨ho.os, ho.tape, ho.output, by rw [ho.size]; exact Nat.le_refl _, fun k _ hk => ho.block k (fun c => hk (by rw [c]))⟩
  have hm1 : StrMap w1 r1 (byTo ks ks.length) := strMap_block h.m1 (ho.block r1 h.ne)
  have hp1 : Pend w1 w.heap.size pa pc P := hp.kept hgr1 (.inr (pend_ne hp h.m2))
  have hbel1 := only_below ho h.bel h.lo2
  have hok := ok_stays hbel1 (found_ok hks s)
  have e2 := run_lookup_str Try.underlying45 Try.underlying9 (zero33 w1) hm1 s
  rw [found_val] at e2
  unfold Kept.ok at hok
  have hreq := found_req ks s
  obtain ⟨pa', pc', w2, e3, hp2, hgr2⟩ := run_pend hp1 (found ks s).cap hok (by rw [hreq]; exact hb) hbel1.size
  rw [hreq] at e3 hp2
  rw [← hreq] at e3
  refine ⟨w1, pa', pc', w2, e1, e2, by rw [hreq] at e3 ⊢; exact e3, ?_⟩
  refine ⟨hp2, strMap_block hm1 (hgr2.block r1 (strMap_lt hm1) (fun c => pend_ne hp1 hm1 c.symm)), ?_, search_take h.srch, ?_, h.lo1, h.lo2, h.ne⟩
  · exact strMap_congr (strMap_block hm2 (hgr2.block r2 (strMap_lt hm2) (fun c => pend_ne hp1 hm2 c.symm))) (rset_mark R s)
  · exact hbel1.grown hgr2 hbel1.size (fun k hk => pend_lo hp1 k hk)

/-! ### The gems that are kept -/
def gcells (L : List Kept) : List Value := L.flatMap Kept.cells
theorem cells_length (k : Kept) : k.cells.length = 5 := rfl
theorem gcells_length (L : List Kept) : (gcells L).length = L.length * 5 := by
  induction L with
  | nil => rfl
  | cons k L ih => simp [gcells, cells_length] at ih ⊢; omega
theorem gcells_get (L : List Kept) (i j : Nat) (hj : j < 5) : (gcells L)[i * 5 + j]? = (L[i]?).bind fun k => k.cells[j]? := by
  induction L generalizing i with
  | nil => simp [gcells]
  | cons k L ih =>
    have e : gcells (k :: L) = k.cells ++ gcells L := rfl
    rw [e]
    cases i with
    | zero => rw [List.getElem?_append_left (by rw [cells_length]; omega)]; simp
    | succ i =>
      rw [List.getElem?_append_right (by rw [cells_length]; omega), cells_length, show (i + 1) * 5 + j - 5 = i * 5 + j from by omega, ih]
      simp
theorem gcells_snoc (L : List Kept) (k : Kept) : gcells (L ++ [k]) = gcells L ++ k.cells := by simp [gcells]

def GRow (w : World) (base : Nat) (ua : Option Addr) (uc : Nat) (L : List Kept) : Prop := w.ownsRow base 33 5 (.slice ua L.length uc) L.length (gcells L)
theorem grow_nil (w : World) (base : Nat) : GRow w base none 0 [] := World.ownsRow_nil w base 33 5
theorem grow_gems {w : World} {base : Nat} {ua : Option Addr} {uc : Nat} {L : List Kept} (h : GRow w base ua uc L) (hok : ∀ k ∈ L, k.ok w) : Gems w ua L.length L := by
  refine ⟨rfl, fun hp => ?_, hok⟩
  rcases h.2 with ⟨h0, h1⟩ | ⟨g, cap, cur, hv, _⟩
  · omega
  · simp only [Value.slice.injEq] at hv
    obtain ⟨rfl, -, rfl⟩ := hv
    refine ⟨g, 0, rfl, fun i hi => ?_⟩
    have c : ∀ j, j < 5 → w.cell? ⟨g, i * 5 + j, none⟩ = (gk L i).cells[j]? := by
      intro j hj
      rw [h.cellAt (i * 5 + j) (by omega), gcells_get _ _ _ hj, List.getElem?_eq_getElem hi, gk_get hi]; rfl
    rw [Nat.zero_add]
    exact ⟨c 0 (by omega), c 1 (by omega), c 2 (by omega), c 3 (by omega), c 4 (by omega)⟩
theorem grow_ne {w : World} {base : Nat} {ua : Option Addr} {uc : Nat} {L : List Kept} {r : Nat} {f : ByteArray → Option Value} (hp : GRow w base ua uc L) (hm : StrMap w r f) : (Value.slice ua L.length uc).ownBlock ≠ some r := by
  intro c
  rcases hp.2 with ⟨h, _⟩ | ⟨g, cap, cur, hv, _, hg, _⟩
  · rw [h] at c; cases c
  · rw [hv] at c
    obtain rfl : g = r := by simpa [Value.ownBlock] using c
    obtain ⟨es, clock, hb, _⟩ := hm
    rw [hg] at hb; cases hb

theorem run_gapp {w : World} {base : Nat} {ua : Option Addr} {uc : Nat} {L : List Kept} (hp : GRow w base ua uc L) (k : Kept) (hb : L.length ≤ 1048576) (hbase : base ≤ w.heap.size) :
    ∃ ua' uc' w', (Builtin.append_ #[30, 30] 30 #[.slice ua L.length uc, .slice (some ⟨w.heap.size, 0, none⟩) 1 1]).run Try.prog (w.alloc (.cells #[.string k.gem.name, .string k.gem.version, .string k.gem.gemspec, .slice k.at? k.gem.req.length k.cap, .int .i64 k.gem.level] 33 (0, 0))) = .ok (.slice ua' (L.length + 1) uc') w' ∧ GRow w' base ua' uc' (L ++ [k])
      ∧ (w.alloc (.cells #[.string k.gem.name, .string k.gem.version, .string k.gem.gemspec, .slice k.at? k.gem.req.length k.cap, .int .i64 k.gem.level] 33 (0, 0))).grownBy w' (Value.slice ua L.length uc).ownBlock := by
  obtain ⟨i0, hi, hz0, hz1, hz2⟩ := info_parts Try.info33
  have hw : (w.alloc (.cells #[.string k.gem.name, .string k.gem.version, .string k.gem.gemspec, .slice k.at? k.gem.req.length k.cap, .int .i64 k.gem.level] 33 (0, 0))).heap[w.heap.size]? = some (.cells k.cells.toArray 33 (0, 0)) := heap_alloc_new _ _
  have hnews : ∀ j u, k.cells[j]? = some u → (w.alloc (.cells #[.string k.gem.name, .string k.gem.version, .string k.gem.gemspec, .slice k.at? k.gem.req.length k.cap, .int .i64 k.gem.level] 33 (0, 0))).cell? ((⟨w.heap.size, 0, none⟩ : Addr).add j) = some u := by
    intro j u hj
    rw [addr_add, Nat.zero_add]; exact blk_cell hw hj
  have hone : ∀ u ∈ k.cells, u.oneCell' = true := by
    intro u hu
    simp only [Kept.cells, List.mem_cons, List.not_mem_nil, or_false] at hu
    rcases hu with rfl | rfl | rfl | rfl | rfl <;> rfl
  obtain ⟨v', w', hrun, hown, hgr, _⟩ := run_append_own (P := Try.prog) _ base 30 30 33 i0 _ 5 80 Try.underlying30 hi hz0 hz1 hz2 rfl (by decide) _ _ _ (hp.alloc (.cells #[.string k.gem.name, .string k.gem.version, .string k.gem.gemspec, .slice k.at? k.gem.req.length k.cap, .int .i64 k.gem.level] 33 (0, 0))) ⟨w.heap.size, 0, none⟩ 1 1 k.cells rfl hnews hone (by unfold maxLen; omega) (by omega) (by rw [World.size_alloc]; omega)
  obtain ⟨ua', uc', rfl⟩ : ∃ ua' uc', v' = .slice ua' (L.length + 1) uc' := by
    rcases hown.2 with ⟨rfl, h0⟩ | ⟨g, cap, cur, rfl, _⟩
    · omega
    · exact ⟨_, _, rfl⟩
  refine ⟨ua', uc', w', hrun, ?_, hgr⟩
  unfold GRow
  rw [gcells_snoc, List.length_append, List.length_singleton]; exact hown

def UpEnd (ks : List Kept) (roots : List ByteArray) (w : World) (e : Ending) (w' : World) : Prop :=
  ∃ (ua : Option Addr) (uc : Nat) (L : List Kept) (R : ByteArray → Bool), e = .returned (.slice ua L.length uc) ∧ L = ks.filter (fun k => R k.gem.name) ∧ (∀ s, R s = true ↔ Reach (lead ks) roots s) ∧ Gems w' ua L.length L ∧ (L = [] → ua = none) ∧ Below w.heap.size w w'

/-- What the last loop keeps. -/
structure Out (ks : List Kept) (R : ByteArray → Bool) (w wr : World) (r2 k : Nat) (ua : Option Addr) (uc : Nat) (L : List Kept) : Prop where
  row : GRow wr w.heap.size ua uc L
  is : L = (ks.take k).filter (fun k => R k.gem.name)
  m2 : StrMap wr r2 (rset R)
  bel : Below w.heap.size w wr
  lo2 : w.heap.size ≤ r2
  nil : L = [] → ua = none

theorem filter_take_succ {ks : List Kept} {k : Nat} (h : k < ks.length) (q : Kept → Bool) : (ks.take (k + 1)).filter q = (ks.take k).filter q ++ if q (gk ks k) then [gk ks k] else [] := by
  rw [List.take_succ_eq_append_getElem h, List.filter_append, gk_get h]
  cases hq : q ks[k] <;> simp [hq]

theorem out_skip {ks : List Kept} {R : ByteArray → Bool} {w wr : World} {r2 k : Nat} {ua : Option Addr} {uc : Nat} {L : List Kept} (h : Out ks R w wr r2 k ua uc L) (hk : k < ks.length) (hR : R (gk ks k).gem.name = false) (o : Obj) :
    Out ks R w (wr.alloc o) r2 (k + 1) ua uc L :=
  ⟨h.row.alloc o, by rw [filter_take_succ hk, if_neg (by rw [hR]; simp), List.append_nil]; exact h.is, strMap_block h.m2 (Below.heap_alloc _ _ _ (strMap_lt h.m2)), h.bel.alloc h.bel.size o, h.lo2, h.nil⟩

theorem out_look {ks : List Kept} {R : ByteArray → Bool} {w wr : World} {r2 k : Nat} {ua : Option Addr} {uc : Nat} {L : List Kept} (h : Out ks R w wr r2 k ua uc L) (o : Obj) (s : ByteArray) :
    (Instr.lookup 46 (.map (some r2)) (.string s) false).run Try.prog (wr.alloc o) = .ok (.bool (R s)) (wr.alloc o) := by
  rw [run_lookup_str Try.underlying46 Try.underlying9 (zero4 _) (strMap_block h.m2 (Below.heap_alloc _ _ _ (strMap_lt h.m2))) s, rset_get]

theorem out_take {ks : List Kept} {R : ByteArray → Bool} {w wr : World} {r2 k : Nat} {ua : Option Addr} {uc : Nat} {L : List Kept} (h : Out ks R w wr r2 k ua uc L) (hk : k < ks.length) (hR : R (gk ks k).gem.name = true) (hl : ks.length ≤ 1048576) (o : Obj) (x : Kept) (hx : x = gk ks k) :
    ∃ ua' uc' w', (Builtin.append_ #[30, 30] 30 #[.slice ua L.length uc, .slice (some ⟨wr.heap.size + 1, 0, none⟩) 1 1]).run Try.prog ((wr.alloc o).alloc (.cells #[.string x.gem.name, .string x.gem.version, .string x.gem.gemspec, .slice x.at? x.gem.req.length x.cap, .int .i64 x.gem.level] 33 (0, 0))) = .ok (.slice ua' (L.length + 1) uc') w' ∧ Out ks R w w' r2 (k + 1) ua' uc' (L ++ [gk ks k]) := by
  subst hx
  have hlen : L.length ≤ 1048576 := by
    rw [h.is]
    have h1 := List.length_filter_le (fun k : Kept => R k.gem.name) (ks.take k)
    have h2 : (ks.take k).length ≤ k := List.length_take_le _ _
    omega
  have hbel := h.bel.alloc h.bel.size o
  obtain ⟨ua', uc', w', hrun, hrow, hgr⟩ := run_gapp (h.row.alloc o) (gk ks k) hlen hbel.size
  rw [World.size_alloc] at hrun
  have hm := strMap_block (w' := (wr.alloc o).alloc (.cells #[.string (gk ks k).gem.name, .string (gk ks k).gem.version, .string (gk ks k).gem.gemspec, .slice (gk ks k).at? (gk ks k).gem.req.length (gk ks k).cap, .int .i64 (gk ks k).gem.level] 33 (0, 0))) h.m2 (by
    rw [Below.heap_alloc _ _ _ (by rw [World.size_alloc]; have := strMap_lt h.m2; omega), Below.heap_alloc _ _ _ (strMap_lt h.m2)])
  refine ⟨ua', uc', w', hrun, hrow, ?_, strMap_block hm (hgr.block r2 (strMap_lt hm) (fun c => grow_ne (h.row.alloc o) (strMap_block h.m2 (Below.heap_alloc _ _ _ (strMap_lt h.m2))) c.symm)), ?_, h.lo2, fun c => by simp at c⟩
  · rw [filter_take_succ hk, if_pos hR, h.is]
  · exact (hbel.alloc hbel.size _).grown hgr (hbel.alloc hbel.size _).size (fun q hq => (h.row.lt q hq).1)

theorem sumF_sumTo (ks : List Kept) : ∀ n, n ≤ ks.length → sumF (fun j => (gk ks j).gem.req.length) n = sumTo ks n
  | 0, _ => (sumTo_zero ks).symm
  | n + 1, h => by
    show sumF _ n + _ = _
    rw [sumTo_succ (by omega), sumF_sumTo ks n (by omega)]
/-- What may still come. -/
def rest (ks : List Kept) (R : ByteArray → Bool) : Nat := still (names ks) (fun j => (gk ks j).gem.req) R
theorem rest_start (ks : List Kept) (R : ByteArray → Bool) : rest ks R ≤ sumTo ks ks.length := by
  have := still_le (names ks) (fun j => (gk ks j).gem.req) R
  rw [names_length, sumF_sumTo ks ks.length (Nat.le_refl _)] at this
  exact this
theorem rest_mark (ks : List Kept) (R : ByteArray → Bool) (s : ByteArray) (hR : R s = false) : rest ks (mark R s) + (lead ks s).length = rest ks R :=
  still_mark (names ks) (fun j => (gk ks j).gem.req) R s hR

end Go.Proofs.Qxb6602477a
