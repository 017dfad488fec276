import Derived.Test.Qxb6602477aClone
import Derived.Test.Qxb6602477aModelPlain
namespace Go.Proofs.Qxb6602477a
open Go.ChangeShapes Go.WideShapes Go.ChangeAt Go.RowKit

theorem str_eq (s t : ByteArray) : (s.toList == t.toList) = same s t := by
  rw [ByteArray.toList_eq, ByteArray.toList_eq]; rfl
theorem str_ne {s t : ByteArray} (h : s ≠ t) : (s.toList == t.toList) = false := by rw [str_eq]; exact same_no.2 h
theorem str_refl (s : ByteArray) : (s.toList == s.toList) = true := by rw [str_eq]; exact same_refl s

def BoolEnd (p : Prop) (w : World) (e : Ending) (w' : World) : Prop := ∃ r, e = .returned (.bool r) ∧ (p → r = true) ∧ ∃ m, w' = w.drewN m
def BoolEndB (p : Prop) (w : World) (e : Ending) (w' : World) : Prop := ∃ r, e = .returned (.bool r) ∧ (p → r = true) ∧ Below w.heap.size w w'

set_option maxHeartbeats 800000 in
theorem sameStrings_any (a1 a2 : Option Addr) (l1 c1 l2 c2 : Nat) (ns1 ns2 : List ByteArray) (w : World) (h1 : Strs w a1 l1 ns1) (h2 : Strs w a2 l2 ns2) (hl1 : l1 ≤ 1048576) (hl2 : l2 ≤ 1048576) :
    Calls Try.prog 23 #[.slice a1 l1 c1, .slice a2 l2 c2] w fun e w' => BoolEnd (ns1 = ns2) w e w' := by
  have H1 := hide h1
  have H2 := hide h2
  by_cases hl : l1 = l2
  · subst hl
    clear h1 h2
    go_enter Try.func23, Try.ntmps23
    go_wp2
    go_loopw [5] (fun t wr => ∃ k : Nat, k ≤ l1 ∧ t = .int .i64 k ∧ ∃ m, wr = w.drewN m) (fun t _ => l1 - (intOf t).toNat)
    case atStart => exact ⟨0, Nat.zero_le _, rfl, 0, rfl⟩
    case round =>
      obtain ⟨k, hk, rfl, m, rfl⟩ := hrel
      by_cases hlt : k < l1
      · obtain ⟨b1, o1, rfl, hc1⟩ := (unhide H1).2 (by omega)
        obtain ⟨b2, o2, rfl, hc2⟩ := (unhide H2).2 (by omega)
        have k1 := hc1 k hlt
        have k2 := hc2 k hlt
        have HN := hide (fun (h : ns1 = ns2) => show nm ns1 k = nm ns2 k by rw [h])
        have hlt' : (k : Int) < (l1 : Int) := by omega
        clear hc1 hc2
        generalize nm ns1 k = s at *
        generalize nm ns2 k = t at *
        by_cases hst : s = t
        · have hq := str_refl s
          subst hst
          go_wp2
          go_quiet (fail)
          go_wp2
          go_roundw
          case rel => exact ⟨k + 1, by omega, by go_num, _, rfl⟩
          case measure => simp [intOf]; omega
        · have hq := str_ne hst
          have HST := hide hst
          clear hst
          go_wp2
          go_quiet (fail)
          go_wp2
          go_ret
          exact ⟨false, rfl, (fun h => absurd (unhide HN h) (unhide HST)), _, World.drewN_drewN _ _ _⟩
      · go_wp2
        go_ret
        exact ⟨true, rfl, (fun _ => rfl), m, rfl⟩
  · have hne : ns1 ≠ ns2 := by
      rintro rfl
      exact hl (h1.1.symm.trans h2.1)
    have HN := hide hne
    have hl' : ((l1 : Int) != (l2 : Int)) = true := by rw [bne_iff_ne]; omega
    clear hne hl h1 h2
    go_enter Try.func23, Try.ntmps23
    go_wp2
    go_ret
    exact ⟨false, rfl, (fun h => absurd h (unhide HN)), 0, rfl⟩

set_option maxHeartbeats 1600000 in
theorem sameGem_any (k1 k2 : Kept) (w : World) (h1 : k1.ok w) (h2 : k2.ok w) (hl1 : k1.gem.req.length ≤ 1048576) (hl2 : k2.gem.req.length ≤ 1048576) :
    Calls Try.prog 13 #[k1.val, k2.val] w fun e w' => BoolEndB (SameGem k2 k1) w e w' := by
  have HS := hide (fun w' (hb : Below w.heap.size w w') => sameStrings_any k1.at? k2.at? k1.gem.req.length k1.cap k2.gem.req.length k2.cap k1.gem.req k2.gem.req w' (strs_stays hb h1) (strs_stays hb h2) hl1 hl2)
  have H0 := hide (fun (h : SameGem k2 k1) => show k1.gem.name = k2.gem.name ∧ k1.gem.version = k2.gem.version ∧ k1.gem.gemspec = k2.gem.gemspec ∧ k1.gem.level = k2.gem.level ∧ k1.at?.isNone = k2.at?.isNone ∧ k1.gem.req = k2.gem.req from
    ⟨by rw [h.1], by rw [h.1], by rw [h.1], by rw [h.1], h.2, by rw [h.1]⟩)
  have hq23 := q23
  clear h1 h2 hl1 hl2
  generalize SameGem k2 k1 = p at *
  unfold Kept.val
  obtain ⟨⟨n1, v1, s1, r1, l1⟩, a1, c1⟩ := k1
  obtain ⟨⟨n2, v2, s2, r2, l2⟩, a2, c2⟩ := k2
  dsimp only at HS H0 ⊢
  generalize r1.length = rl1 at *
  generalize r2.length = rl2 at *
  have hbel := (((Below.refl w.heap.size w).alloc (Nat.le_refl _) (Obj.cells #[Value.string n1, Value.string v1, Value.string s1, Value.slice a1 rl1 c1, Value.int IntKind.i64 l1] 33)).alloc (by simp) (Obj.cells #[Value.string n2, Value.string v2, Value.string s2, Value.slice a2 rl2 c2, Value.int IntKind.i64 l2] 25))
  have HB := hide hbel
  clear hbel
  by_cases hn : n1 = n2
  · by_cases hv : v1 = v2
    · by_cases hs : s1 = s2
      · by_cases hl : l1 = l2
        · have q1 := str_refl n1
          have q2 := str_refl v1
          have q3 := str_refl s1
          subst hn hv hs hl
          by_cases ha : a1.isNone = a2.isNone
          · have hab : (a1.isNone == a2.isNone) = true := by rw [beq_iff_eq]; exact ha
            have H1 := hide (fun h => (unhide H0 h).2.2.2.2.2)
            clear H0 ha
            go_enter Try.func13, Try.ntmps13
            go_wp2_with fail
            refine (unhide HS _ (unhide HB)).mono ?_
            rintro e w1 ⟨r, rfl, hr, m, rfl⟩
            have HR := hide hr
            clear hr
            go_wp2
            go_ret
            exact ⟨r, rfl, (fun h => unhide HR (unhide H1 h)), below_drewN (unhide HB) m⟩
          · have hab : (a1.isNone == a2.isNone) = false := by rw [beq_eq_false_iff_ne]; exact ha
            have H1 : Hid (¬ p) := (fun h => absurd (unhide H0 h).2.2.2.2.1 ha)
            clear H0 ha
            go_enter Try.func13, Try.ntmps13
            go_wp2
            go_ret
            exact ⟨false, rfl, (fun h => absurd h (unhide H1)), unhide HB⟩
        · have q1 := str_refl n1
          have q2 := str_refl v1
          have q3 := str_refl s1
          subst hn hv hs
          have hab : (l1 != l2) = true := by rw [bne_iff_ne]; exact hl
          have H1 : Hid (¬ p) := (fun h => absurd (unhide H0 h).2.2.2.1 hl)
          clear H0 hl
          go_enter Try.func13, Try.ntmps13
          go_wp2
          go_ret
          exact ⟨false, rfl, (fun h => absurd h (unhide H1)), unhide HB⟩
      · have q1 := str_refl n1
        have q2 := str_refl v1
        have q3 := str_ne hs
        subst hn hv
        have H1 : Hid (¬ p) := (fun h => absurd (unhide H0 h).2.2.1 hs)
        clear H0 hs
        go_enter Try.func13, Try.ntmps13
        go_wp2
        go_ret
        exact ⟨false, rfl, (fun h => absurd h (unhide H1)), unhide HB⟩
    · have q1 := str_refl n1
      have q2 := str_ne hv
      subst hn
      have H1 : Hid (¬ p) := (fun h => absurd (unhide H0 h).2.1 hv)
      clear H0 hv
      go_enter Try.func13, Try.ntmps13
      go_wp2
      go_ret
      exact ⟨false, rfl, (fun h => absurd h (unhide H1)), unhide HB⟩
  · have q1 := str_ne hn
    have H1 : Hid (¬ p) := (fun h => absurd (unhide H0 h).1 hn)
    clear H0 hn
    go_enter Try.func13, Try.ntmps13
    go_wp2
    go_ret
    exact ⟨false, rfl, (fun h => absurd h (unhide H1)), unhide HB⟩

/-! ### classOf -/
/-- A row of numbers that can be read. -/
def Ints (w : World) (a : Option Addr) (len : Nat) (z : Nat → Int) : Prop :=
  0 < len → ∃ b o, a = some ⟨b, o, none⟩ ∧ ∀ i, i < len → w.cell? ⟨b, o + i, none⟩ = some (.int .i64 (z i))
theorem ints_stays {w w' : World} (hb : Below w.heap.size w w') {a : Option Addr} {len : Nat} {z : Nat → Int} (h : Ints w a len z) : Ints w' a len z := by
  intro hp
  obtain ⟨b, o, e, hc⟩ := h hp
  exact ⟨b, o, e, fun i hi => cell_stays hb (hc i hi)⟩

def names (ks : List Kept) : List ByteArray := ks.map fun k => k.gem.name
theorem names_length (ks : List Kept) : (names ks).length = ks.length := by simp [names]
theorem names_nm {ks : List Kept} {i : Nat} (h : i < ks.length) : nm (names ks) i = (gk ks i).gem.name := by
  rw [nm_get (by rw [names_length]; exact h), gk_get h]; simp [names]

set_option maxHeartbeats 800000 in
theorem classOf_any (a : Option Addr) (len cap : Nat) (ks : List Kept) (ca : Option Addr) (ccap : Nat) (s : ByteArray) (w : World) (hg : Gems w a len ks) (hc : Ints w ca len (fun j => (fi (names ks) (nm (names ks) j) : Int))) (hl : len ≤ 1048576) :
    Calls Try.prog 22 #[.slice a len cap, .slice ca len ccap, .string s] w fun e w' => e = .returned (.int .i64 (cls (names ks) s)) ∧ w' = w := by
  have HG := hide hg
  have HC := hide hc
  have HL := hide hg.1
  clear hg hc
  go_enter Try.func22, Try.ntmps22
  go_wp2
  go_loop [7] (fun t => ∃ k : Nat, k ≤ len ∧ t = .int .i64 k ∧ Hid (∀ e, e < k → nm (names ks) e ≠ s)) (fun t => len - (intOf t).toNat)
  case atStart => exact ⟨0, Nat.zero_le _, rfl, fun e he => absurd he (Nat.not_lt_zero e)⟩
  case round =>
    obtain ⟨k, hk, rfl, hno⟩ := hrel
    have hlen := unhide HL
    have hnl := names_length ks
    by_cases hlt : k < len
    · obtain ⟨b, o, rfl, hgc⟩ := (unhide HG).2.1 (by omega)
      obtain ⟨cb, co, rfl, hcc⟩ := unhide HC (by omega)
      have c0 := (hgc k hlt).c0
      have cc : w.cell? ⟨cb, co + k, none⟩ = some (.int .i64 (fi (names ks) (nm (names ks) k) : Int)) := hcc k hlt
      rw [← names_nm (by omega)] at c0
      clear hgc hcc
      by_cases hst : nm (names ks) k = s
      · have hq := str_refl s
        have hfi : fi (names ks) s = k := fi_eq (by omega) hst (unhide hno)
        have HR := hide (show cls (names ks) s = (k : Int) by unfold cls; rw [if_pos (by omega), hfi])
        rw [hst, hfi] at cc
        rw [hst] at c0
        clear hst hfi hlen hnl
        go_wp2
        go_ret
        exact ⟨by rw [unhide HR]; rfl, rfl⟩
      · have hq := str_ne hst
        have hno2 := hide (show ∀ e, e < k + 1 → nm (names ks) e ≠ s from fun e he => by
          by_cases h : e = k
          · subst h; exact hst
          · exact unhide hno e (by omega))
        clear hst hlen hnl cc
        generalize nm (names ks) k = t at *
        go_wp2
        go_round
        case rel => exact ⟨k + 1, by omega, by go_num, unhide hno2⟩
        case measure => simp [intOf]; omega
    · have hfi : fi (names ks) s = (names ks).length := fi_none (fun e he => unhide hno e (by omega))
      have HR := hide (show cls (names ks) s = -1 by unfold cls; rw [if_neg (by omega)])
      clear hfi hlen hnl
      go_wp2
      go_ret
      exact ⟨by rw [unhide HR]; rfl, rfl⟩
end Go.Proofs.Qxb6602477a
