import Derived.Test.Qxb6602477aRows
import Derived.Test.Qxb6602477aPlain
import Derived.WalkKit
import Derived.WalkLawsBesides
import Derived.ProofKit
import Derived.Below
import Derived.BigQuiet
import Derived.Deep.QuietTactic
import Derived.OwnWalk
import Derived.MapKept
import Derived.Maps.Own
namespace Go.Proofs.Qxb6602477a
open Go.ChangeShapes Go.WideShapes Go.ChangeAt Go.RowKit

def Hid (p : Prop) : Prop := p
theorem hide {p : Prop} (h : p) : Hid p := h
theorem unhide {p : Prop} (h : Hid p) : p := h

/-! ### Blocks of the call's own -/
section
variable {w : World} {b i : Nat} {cs : List Value} {e : TypeId} {v : Value}
theorem blk_cell (h : w.heap[b]? = some (.cells cs.toArray e (0, 0))) (hi : cs[i]? = some v) : w.cell? ⟨b, i, none⟩ = some v := by
  simp [World.cell?, h, hi]
theorem blk_free (h : w.heap[b]? = some (.cells cs.toArray e (0, 0))) : w.frozen? ⟨b, i, none⟩ = false := by
  simp [World.frozen?, h]
theorem blk_lt {o : Obj} (h : w.heap[b]? = some o) : b < w.heap.size := (Array.getElem?_eq_some_iff.1 h).1
theorem blk_set (h : w.heap[b]? = some (.cells cs.toArray e (0, 0))) : (w.setCell ⟨b, i, none⟩ v).heap[b]? = some (.cells (cs.set i v).toArray e (0, 0)) := by
  have hlt := blk_lt h
  have h' : w.heap[b] = .cells cs.toArray e (0, 0) := (Array.getElem?_eq_some_iff.1 h).2
  show (w.heap.modify b _)[b]? = _
  rw [Array.getElem?_eq_getElem (by simpa using hlt), Array.getElem_modify_self, h']
  simp
end
theorem addr_add (b o i : Nat) : (⟨b, o, none⟩ : Addr).add i = ⟨b, o + i, none⟩ := by unfold Addr.add; split <;> simp_all
theorem cell_lt {w : World} {b o : Nat} {v : Value} (h : w.cell? ⟨b, o, none⟩ = some v) : b < w.heap.size := by
  unfold World.cell? at h
  split at h
  · rename_i heq; exact blk_lt heq
  · cases h
/-- A cell that reads reads on when nothing old has turned. -/
theorem cell_stays {w w' : World} (hb : Below w.heap.size w w') {b o : Nat} {v : Value} (h : w.cell? ⟨b, o, none⟩ = some v) : w'.cell? ⟨b, o, none⟩ = some v := by
  rw [hb.cell (p := ⟨b, o, none⟩) (cell_lt h)]; exact h

/-! ### Strings in memory -/
/-- The slice value a, len, cap holds the strings ns. -/
def Strs (w : World) (a : Option Addr) (len : Nat) (ns : List ByteArray) : Prop :=
  ns.length = len ∧ (0 < len → ∃ b o, a = some ⟨b, o, none⟩ ∧ ∀ i, i < len → w.cell? ⟨b, o + i, none⟩ = some (.string (nm ns i)))
theorem strs_stays {w w' : World} (hb : Below w.heap.size w w') {a : Option Addr} {len : Nat} {ns : List ByteArray} (h : Strs w a len ns) : Strs w' a len ns := by
  refine ⟨h.1, fun hp => ?_⟩
  obtain ⟨b, o, e, hc⟩ := h.2 hp
  exact ⟨b, o, e, fun i hi => cell_stays hb (hc i hi)⟩

/-! ### Gems in memory -/
structure Gem where
  name : ByteArray
  version : ByteArray
  gemspec : ByteArray
  req : List ByteArray
  level : Int

/-- A gem and the slice value that its Requires is. -/
structure Kept where
  gem : Gem
  at? : Option Addr
  cap : Nat

def Kept.rv (k : Kept) : Value := .slice k.at? k.gem.req.length k.cap
def Kept.cells (k : Kept) : List Value := [.string k.gem.name, .string k.gem.version, .string k.gem.gemspec, .slice k.at? k.gem.req.length k.cap, .int .i64 k.gem.level]
def Kept.val (k : Kept) : Value := .agg #[.string k.gem.name, .string k.gem.version, .string k.gem.gemspec, .slice k.at? k.gem.req.length k.cap, .int .i64 k.gem.level]
/-- Its Requires can be read; nil where it is nil. -/
def Kept.ok (w : World) (k : Kept) : Prop := Strs w k.at? k.gem.req.length k.gem.req

theorem ok_stays {w w' : World} (hb : Below w.heap.size w w') {k : Kept} (h : k.ok w) : k.ok w' := strs_stays hb h

structure GemAt (w : World) (b o : Nat) (k : Kept) : Prop where
  c0 : w.cell? ⟨b, o, none⟩ = some (.string k.gem.name)
  c1 : w.cell? ⟨b, o + 1, none⟩ = some (.string k.gem.version)
  c2 : w.cell? ⟨b, o + 1 + 1, none⟩ = some (.string k.gem.gemspec)
  c3 : w.cell? ⟨b, o + 1 + 1 + 1, none⟩ = some (.slice k.at? k.gem.req.length k.cap)
  c4 : w.cell? ⟨b, o + 1 + 1 + 1 + 1, none⟩ = some (.int .i64 k.gem.level)

theorem gemAt_stays {w w' : World} (hb : Below w.heap.size w w') {b o : Nat} {k : Kept} (h : GemAt w b o k) : GemAt w' b o k :=
  ⟨cell_stays hb h.c0, cell_stays hb h.c1, cell_stays hb h.c2, cell_stays hb h.c3, cell_stays hb h.c4⟩

def dk : Kept := ⟨⟨⟨#[]⟩, ⟨#[]⟩, ⟨#[]⟩, [], 0⟩, none, 0⟩
def gk (ks : List Kept) (i : Nat) : Kept := ks.getD i dk

/-- The slice value a, len, cap holds the gems ks. -/
def Gems (w : World) (a : Option Addr) (len : Nat) (ks : List Kept) : Prop :=
  ks.length = len ∧ (0 < len → ∃ b o, a = some ⟨b, o, none⟩ ∧ ∀ i, i < len → GemAt w b (o + i * 5) (gk ks i)) ∧ ∀ k ∈ ks, k.ok w
theorem gems_stays {w w' : World} (hb : Below w.heap.size w w') {a : Option Addr} {len : Nat} {ks : List Kept} (h : Gems w a len ks) : Gems w' a len ks := by
  refine ⟨h.1, fun hp => ?_, fun k hk => ok_stays hb (h.2.2 k hk)⟩
  obtain ⟨b, o, e, hc⟩ := h.2.1 hp
  exact ⟨b, o, e, fun i hi => gemAt_stays hb (hc i hi)⟩
theorem gk_mem {ks : List Kept} {i : Nat} (h : i < ks.length) : gk ks i ∈ ks := by
  unfold gk; rw [List.getD_eq_getElem?_getD, List.getElem?_eq_getElem h]; exact List.getElem_mem h
theorem gk_get {ks : List Kept} {i : Nat} (h : i < ks.length) : gk ks i = ks[i] := by
  unfold gk; rw [List.getD_eq_getElem?_getD, List.getElem?_eq_getElem h]; rfl

/-- How many requirements the first k gems have. -/
def sumTo (ks : List Kept) (k : Nat) : Nat := ((ks.take k).map (fun x => x.gem.req.length)).sum
theorem sumTo_zero (ks : List Kept) : sumTo ks 0 = 0 := by simp [sumTo]
theorem sumTo_succ {ks : List Kept} {k : Nat} (h : k < ks.length) : sumTo ks (k + 1) = sumTo ks k + (gk ks k).gem.req.length := by
  unfold sumTo
  rw [List.take_succ_eq_append_getElem h, List.map_append, List.sum_append, gk_get h]; simp
end Go.Proofs.Qxb6602477a
