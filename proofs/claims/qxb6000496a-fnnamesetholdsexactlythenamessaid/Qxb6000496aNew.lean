import Derived.Test.Qxb6000496aMem
namespace Go.Proofs.Qxb6000496a
open Go.ChangeShapes Go.WideShapes Go.ChangeAt Go.RowKit

/-- The size that newNameSet finds. -/
structure Sized (size : Int) (n : Nat) : Prop where
  pow : ∃ k : Nat, k ≤ 20 ∧ n = 16 * 2 ^ k
  fits : 2 * size ≤ (n : Int)
  least : n = 16 ∨ (n : Int) < 4 * size

theorem pow_step {k : Nat} (h : 16 * 2 ^ k < 1048576) : k < 16 := by
  by_cases hk : k < 16
  · exact hk
  · have : 2 ^ 16 ≤ 2 ^ k := Nat.pow_le_pow_right (by omega) (by omega)
    omega

def NewEnd (b c : Nat) (size : Int) (w : World) (e : Ending) (w' : World) : Prop :=
  ∃ n g c', Sized size n ∧ e = .returned (.slice (some ⟨g, 0, none⟩) n c') ∧ ((g = w.heap.size ∧ w' = w.alloc (.cells (zrow n) 36 (0, 0))) ∨ (g = b ∧ n ≤ c ∧ w' = w))
set_option maxHeartbeats 400000 in
/-- newNameSet: a table of its own, or the room cut to it. -/
theorem new_any (b c : Nat) (size : Int) (w : World) (h1 : -1000000 ≤ size) (h2 : size ≤ 262144) (_hc : c ≤ 1048576) :
    Calls Try.prog 14 #[.slice (some ⟨b, 0, none⟩) c c, .int .i64 size] w fun e w' => NewEnd b c size w e w' := by
  go_enter Try.func14, Try.ntmps14
  go_wp2
  go_loop [5] (fun t => ∃ n : Nat, t = .int .i64 n ∧ (∃ k : Nat, k ≤ 20 ∧ n = 16 * 2 ^ k) ∧ (n = 16 ∨ (n : Int) < 4 * size)) (fun t => (2 * size - intOf t).toNat)
  case atStart => exact ⟨16, rfl, ⟨0, by omega, rfl⟩, .inl rfl⟩
  case round =>
    obtain ⟨n, rfl, hp, hl⟩ := hrel
    have hn : 16 ≤ n := by
      obtain ⟨k, _, rfl⟩ := hp
      have := Nat.two_pow_pos k; omega
    have hn2 : n ≤ 1048576 := by omega
    by_cases hlt : (n : Int) < 2 * size
    · have HP := hide hp
      clear hp hl
      go_wp2
      go_round
      case rel =>
        refine ⟨n * 2, by go_num, ?_, .inr (by omega)⟩
        obtain ⟨k, hk, e⟩ := unhide HP
        have := pow_step (k := k) (by omega)
        exact ⟨k + 1, by omega, by rw [e, Nat.pow_succ]; omega⟩
      case measure => simp [intOf]; omega
    · have hmk := fun w => run_mk 23 Try.underlying23 n w hn2
      have HS := hide (show Sized size n from ⟨hp, by omega, hl⟩)
      clear hp hl
      by_cases hnc : c < n
      · go_wp2
        go_ret
        exact ⟨n, _, _, unhide HS, rfl, .inl ⟨rfl, rfl⟩⟩
      · go_wp2
        go_ret
        exact ⟨n, _, _, unhide HS, rfl, .inr ⟨rfl, by omega, rfl⟩⟩

/-- ZZNewNameSet: a table in which nothing is in use. -/
theorem zznew_any (cap : Nat) (size : Int) (w : World) (h1 : -1000000 ≤ size) (h2 : size ≤ 262144) (hc : cap ≤ 1048576) :
    Calls Try.prog 6 #[.int .i64 cap, .int .i64 size] w fun e w' => ∃ n g c', Sized size n ∧ e = .returned (.slice (some ⟨g, 0, none⟩) n c') ∧ Table w' g (List.replicate n .none) ∧ w.heap.size ≤ g ∧ Below w.heap.size w w' := by
  have hmk := fun w => run_mk 22 Try.underlying22 cap w hc
  go_enter Try.func6, Try.ntmps6
  go_wp2_with fail
  refine (new_any w.heap.size cap size _ h1 h2 hc).mono ?_
  rintro e w' ⟨n, g, c', hs, rfl, hw⟩
  have HS := hide hs
  have HW := hide hw
  clear hs hw
  go_wp2
  go_ret
  refine ⟨n, g, c', unhide HS, rfl, ?_⟩
  rcases unhide HW with ⟨rfl, rfl⟩ | ⟨rfl, hn, rfl⟩
  · refine ⟨table_new (m := n) (heap_alloc_new _ _) (Nat.le_refl _), by simp, ((Below.refl _ _).alloc (Nat.le_refl _) _).alloc (by simp) _⟩
  · exact ⟨table_new (heap_alloc_new _ _) hn, Nat.le_refl _, (Below.refl _ _).alloc (Nat.le_refl _) _⟩

theorem zzlen_any (a : Option Addr) (n c : Nat) (w : World) : Calls Try.prog 7 #[.slice a n c] w fun e w' => e = .returned (.int .i64 n) ∧ w' = w := by
  go_enter Try.func7, Try.ntmps7
  go_wp2
  go_ret
  exact ⟨rfl, rfl⟩

set_option maxHeartbeats 400000 in
theorem zzslot_any (g n c i : Nat) (tb : List (Option ByteArray)) (o : Option ByteArray) (w : World) (ht : Table w g tb) (hn : tb.length = n) (_hn2 : n ≤ 1048576) (hi : tb[i]? = some o) :
    Calls Try.prog 8 #[.slice (some ⟨g, 0, none⟩) n c, .int .i64 i] w fun e w' => e = .returned (.tuple #[.string (o.getD ⟨#[]⟩), .bool o.isSome]) ∧ ∃ m, w' = w.drewN m := by
  have hlt : (i : Int) < (n : Int) := by have := (List.getElem?_eq_some_iff.1 hi).1; omega
  have c1 := table_name ht hi
  have c2 := table_used ht hi
  clear ht hn hi
  generalize o.getD ⟨#[]⟩ = s at *
  generalize o.isSome = u at *
  go_enter Try.func8, Try.ntmps8
  go_wp2
  go_quiet (fail)
  go_wp2
  go_ret2
  exact ⟨rfl, _, rfl⟩
end Go.Proofs.Qxb6000496a
