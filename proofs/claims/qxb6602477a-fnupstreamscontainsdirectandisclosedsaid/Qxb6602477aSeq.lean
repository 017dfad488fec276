import Derived.Test.Qxb6602477aBox
namespace Go.Proofs.Qxb6602477a
open Go.ChangeShapes Go.WideShapes Go.ChangeAt Go.RowKit

/-! ### distinctNames -/
def Distinct (n : Nat) (ks : List Kept) : Prop := ∀ i j, i < n → j < i → (gk ks i).gem.name ≠ (gk ks j).gem.name
def DistEnd (n : Nat) (ks : List Kept) (w : World) (e : Ending) (w' : World) : Prop := ∃ r, e = .returned (.bool r) ∧ (r = true → Distinct n ks) ∧ Below w.heap.size w w'

set_option maxHeartbeats 1600000 in
theorem distinct_any (a : Option Addr) (len cap : Nat) (ks : List Kept) (w : World) (hg : Gems w a len ks) (hl : len ≤ 1048576) :
    Calls Try.prog 15 #[.slice a len cap] w fun e w' => DistEnd len ks w e w' := by
  have HG := hide hg
  have HB0 := hide (Below.refl w.heap.size w)
  clear hg
  go_enter Try.func15, Try.ntmps15
  go_wp2
  go_loopg [3] len (fun q t wr => ∃ i : Nat, i + q = len ∧ t = .int .i64 i ∧ Hid (Distinct i ks) ∧ ∃ m, wr = w.drewN m)
  case atStart => exact ⟨0, by omega, rfl, fun i j hi hj => by omega, 0, rfl⟩
  case round =>
    obtain ⟨i, hi, rfl, HD, m, rfl⟩ := hrel
    have HI := hide hi
    clear hi
    by_cases hin : i < len
    · obtain ⟨b, o, rfl, hc⟩ := (unhide HG).2.1 (by omega)
      have HC := hide (fun k (hk : k < len) => (hc k hk).c0)
      clear hc
      go_wp2
      go_loopg [4] i (fun q t wx => ∃ j : Nat, j + q = i ∧ t = .int .i64 j ∧ Hid (∀ e, e < j → (Go.Proofs.Qxb6602477a.gk ks i).gem.name ≠ (Go.Proofs.Qxb6602477a.gk ks e).gem.name) ∧ ∃ m, wx = w.drewN m)
      case atStart => exact ⟨0, by omega, rfl, fun e he => absurd he (Nat.not_lt_zero e), _, rfl⟩
      case round =>
        obtain ⟨j, hj, rfl, HN, m2, rfl⟩ := hrel
        have HJ := hide hj
        clear hj
        by_cases hji : j < i
        · have ci := unhide HC i hin
          have cj := unhide HC j (by omega)
          have hjn : (j : Int) < (len : Int) := by omega
          have hin' : (i : Int) < (len : Int) := by omega
          have hji' : (j : Int) < (i : Int) := by omega
          by_cases hst : (Go.Proofs.Qxb6602477a.gk ks i).gem.name = (Go.Proofs.Qxb6602477a.gk ks j).gem.name
          · rw [← hst] at cj
            have hq := str_refl (Go.Proofs.Qxb6602477a.gk ks i).gem.name
            clear hst HN
            generalize (Go.Proofs.Qxb6602477a.gk ks i).gem.name = s at *
            go_wp2
            go_quiet (fail)
            go_wp2
            go_ret
            exact ⟨false, rfl, (fun h => by cases h), below_drewN (below_drewN (unhide HB0) _) _⟩
          · have HN2 := hide (show ∀ e, e < j + 1 → (Go.Proofs.Qxb6602477a.gk ks i).gem.name ≠ (Go.Proofs.Qxb6602477a.gk ks e).gem.name from fun e he => by
              by_cases h : e = j
              · subst h; exact hst
              · exact unhide HN e (by omega))
            have hq := str_ne hst
            clear hst HN
            generalize (Go.Proofs.Qxb6602477a.gk ks i).gem.name = s at *
            generalize hsj : (Go.Proofs.Qxb6602477a.gk ks j).gem.name = t at cj hq
            clear hsj
            go_wp2
            go_quiet (fail)
            go_wp2
            go_roundg (i - (j + 1))
            case measure => have := unhide HJ; omega
            case rel => exact ⟨j + 1, by omega, by go_num, unhide HN2, _, rfl⟩
        · have hje : j = i := by have := unhide HJ; omega
          have HD2 : Hid (Distinct (i + 1) ks) := fun x y hx hy => by
            by_cases h : x = i
            · subst h; exact unhide HN y (by omega)
            · exact unhide HD x y (by omega) hy
          clear hje HN
          go_wp2
          go_roundg (len - (i + 1))
          case measure => have := unhide HI; omega
          case rel => exact ⟨i + 1, by omega, by go_num, unhide HD2, _, rfl⟩
    · have hie : i = len := by have := unhide HI; omega
      have HD2 : Hid (Distinct len ks) := by rw [← hie]; exact unhide HD
      clear hie
      go_wp2
      go_ret
      exact ⟨true, rfl, (fun _ => unhide HD2), below_drewN (unhide HB0) _⟩

/-! ### lgemsHaveName, gemsHaveName -/
set_option maxHeartbeats 800000 in
theorem lhas_any (a : Option Addr) (len cap : Nat) (ks : List Kept) (s : ByteArray) (w : World) (hg : Gems w a len ks) (hl : len ≤ 1048576) :
    Calls Try.prog 17 #[.slice a len cap, .string s] w fun e w' => e = .returned (.bool (isIn (names ks) s)) ∧ w' = w := by
  have HG := hide hg
  have HL := hide hg.1
  clear hg
  go_enter Try.func17, Try.ntmps17
  go_wp2
  go_loop [5] (fun t => ∃ k : Nat, k ≤ len ∧ t = .int .i64 k ∧ Hid (∀ e, e < k → nm (names ks) e ≠ s)) (fun t => len - (intOf t).toNat)
  case atStart => exact ⟨0, Nat.zero_le _, rfl, fun e he => absurd he (Nat.not_lt_zero e)⟩
  case round =>
    obtain ⟨k, hk, rfl, hno⟩ := hrel
    have hlen := unhide HL
    have hnl := names_length ks
    by_cases hlt : k < len
    · obtain ⟨b, o, rfl, hgc⟩ := (unhide HG).2.1 (by omega)
      have c0 := (hgc k hlt).c0
      rw [← names_nm (by omega)] at c0
      clear hgc
      by_cases hst : nm (names ks) k = s
      · have hq := str_refl s
        have HR := hide (show isIn (names ks) s = true from isIn_iff.2 (by rw [← hst]; exact nm_mem (by omega)))
        rw [hst] at c0
        clear hst hlen hnl
        go_wp2
        go_ret
        exact ⟨by rw [unhide HR]; rfl, rfl⟩
      · have hq := str_ne hst
        have hno2 := hide (show ∀ e, e < k + 1 → nm (names ks) e ≠ s from fun e he => by
          by_cases h : e = k
          · subst h; exact hst
          · exact unhide hno e (by omega))
        clear hst hlen hnl
        generalize nm (names ks) k = t at *
        go_wp2
        go_round
        case rel => exact ⟨k + 1, by omega, by go_num, unhide hno2⟩
        case measure => simp [intOf]; omega
    · have HR := hide (show isIn (names ks) s = false from by
        cases hc : isIn (names ks) s with
        | false => rfl
        | true =>
          obtain ⟨i, hi, he⟩ := mem_nm (isIn_iff.1 hc)
          exact absurd he (unhide hno i (by omega)))
      clear hlen hnl
      go_wp2
      go_ret
      exact ⟨by rw [unhide HR]; rfl, rfl⟩

set_option maxHeartbeats 800000 in
theorem ghas_any (a : Option Addr) (len cap : Nat) (ks : List Kept) (s : ByteArray) (w : World) (hg : Gems w a len ks) (hl : len ≤ 1048576) :
    Calls Try.prog 18 #[.slice a len cap, .string s] w fun e w' => e = .returned (.bool (isIn (names ks) s)) ∧ w' = w := by
  have HG := hide hg
  have HL := hide hg.1
  clear hg
  go_enter Try.func18, Try.ntmps18
  go_wp2
  go_loop [5] (fun t => ∃ k : Nat, k ≤ len ∧ t = .int .i64 k ∧ Hid (∀ e, e < k → nm (names ks) e ≠ s)) (fun t => len - (intOf t).toNat)
  case atStart => exact ⟨0, Nat.zero_le _, rfl, fun e he => absurd he (Nat.not_lt_zero e)⟩
  case round =>
    obtain ⟨k, hk, rfl, hno⟩ := hrel
    have hlen := unhide HL
    have hnl := names_length ks
    by_cases hlt : k < len
    · obtain ⟨b, o, rfl, hgc⟩ := (unhide HG).2.1 (by omega)
      have c0 := (hgc k hlt).c0
      rw [← names_nm (by omega)] at c0
      clear hgc
      by_cases hst : nm (names ks) k = s
      · have hq := str_refl s
        have HR := hide (show isIn (names ks) s = true from isIn_iff.2 (by rw [← hst]; exact nm_mem (by omega)))
        rw [hst] at c0
        clear hst hlen hnl
        go_wp2
        go_ret
        exact ⟨by rw [unhide HR]; rfl, rfl⟩
      · have hq := str_ne hst
        have hno2 := hide (show ∀ e, e < k + 1 → nm (names ks) e ≠ s from fun e he => by
          by_cases h : e = k
          · subst h; exact hst
          · exact unhide hno e (by omega))
        clear hst hlen hnl
        generalize nm (names ks) k = t at *
        go_wp2
        go_round
        case rel => exact ⟨k + 1, by omega, by go_num, unhide hno2⟩
        case measure => simp [intOf]; omega
    · have HR := hide (show isIn (names ks) s = false from by
        cases hc : isIn (names ks) s with
        | false => rfl
        | true =>
          obtain ⟨i, hi, he⟩ := mem_nm (isIn_iff.1 hc)
          exact absurd he (unhide hno i (by omega)))
      clear hlen hnl
      go_wp2
      go_ret
      exact ⟨by rw [unhide HR]; rfl, rfl⟩
end Go.Proofs.Qxb6602477a
