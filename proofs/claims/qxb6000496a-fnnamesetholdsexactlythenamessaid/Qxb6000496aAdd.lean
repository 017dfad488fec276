import Derived.Test.Qxb6000496aNew
import Derived.Test.Qxb6000496aTab
namespace Go.Proofs.Qxb6000496a
open Go.ChangeShapes Go.WideShapes Go.ChangeAt Go.RowKit

theorem take_snoc (s : ByteArray) (k : Nat) (h : k < s.size) : s.data.toList.take (k + 1) = s.data.toList.take k ++ [s[k]] := by
  rw [List.take_succ_eq_append_getElem (by simpa using h)]; rfl

def hstep (h : Int) (c : UInt8) : Int := bits BinOp.xor IntKind.u32 h ((c.toNat : Int) % 4294967296) * 16777619 % 4294967296
def hfold (l : List UInt8) : Int := l.foldl hstep 2166136261
theorem hfold_bd (l : List UInt8) : 0 ≤ hfold l ∧ hfold l < 4294967296 := by
  unfold hfold
  have key : ∀ (l : List UInt8) (h : Int), 0 ≤ h ∧ h < 4294967296 → 0 ≤ l.foldl hstep h ∧ l.foldl hstep h < 4294967296 := by
    intro l
    induction l with
    | nil => intro h hb; exact hb
    | cons c l ih =>
      intro h _
      rw [List.foldl_cons]
      refine ih _ ?_
      unfold hstep
      omega
  exact key l _ (by omega)
theorem hfold_snoc (l : List UInt8) (c : UInt8) : hfold (l ++ [c]) = hstep (hfold l) c := by
  unfold hfold; rw [List.foldl_append]; rfl
theorem hfold_nil : hfold [] = 2166136261 := rfl

set_option maxHeartbeats 400000 in
theorem hash_any (s : ByteArray) (w : World) (hs : s.size ≤ 1048576) :
    Calls Try.prog 16 #[.string s] w fun e w' => e = .returned (.int .u32 (hfold s.data.toList)) ∧ w' = w := by
  go_enter Try.func16, Try.ntmps16
  go_wp2
  go_loop [3, 4] (fun t i => ∃ k : Nat, k ≤ s.size ∧ i = .int .i64 k ∧ ∃ h : Int, 0 ≤ h ∧ h < 4294967296 ∧ Hid (h = hfold (s.data.toList.take k)) ∧ t = .int .u32 h) (fun _ i => s.size - (intOf i).toNat)
  case atStart => exact ⟨0, Nat.zero_le _, rfl, 2166136261, by omega, by omega, hfold_nil.symm, rfl⟩
  case round =>
    obtain ⟨k, hk, rfl, h, h0, h1, hh, rfl⟩ := hrel
    by_cases hlt : k < s.size
    · have hts := hide (take_snoc s k hlt)
      go_wp2
      go_round
      case rel =>
        have e := unhide hts
        have e2 := unhide hh
        have bd := hfold_bd (s.data.toList.take (k + 1))
        have e3 : hfold (s.data.toList.take (k + 1)) = hstep h s[k] := by rw [e, hfold_snoc, ← e2]
        rw [e3] at bd
        exact ⟨k + 1, by omega, by go_num, hstep h s[k], bd.1, bd.2, e3.symm, rfl⟩
      case measure => simp [intOf]; omega
    · go_wp2
      go_ret
      have e2 := unhide hh
      have : k = s.data.toList.length := by simp; omega
      rw [this, List.take_length] at e2
      exact ⟨by rw [← e2]; rfl, rfl⟩

theorem and_mask (x n : Nat) (hx : x < 4294967296) (hn : ∃ k : Nat, k ≤ 20 ∧ n = 16 * 2 ^ k) : bits .and .u32 (x : Int) ((n : Int) - 1) = ((x % n : Nat) : Int) := by
  obtain ⟨k, hk, rfl⟩ := hn
  have hp := Nat.two_pow_pos k
  have hle : 2 ^ k ≤ 2 ^ 20 := Nat.pow_le_pow_right (by omega) hk
  have e : ((16 * 2 ^ k : Nat) : Int) - 1 = ((16 * 2 ^ k - 1 : Nat) : Int) := by omega
  rw [e, u32_and_nat _ _ hx (by omega)]
  have e2 : 16 * 2 ^ k = 2 ^ (k + 4) := by rw [Nat.pow_add]; omega
  rw [e2, Nat.and_two_pow_sub_one_eq_mod]

/-- Where a name's search begins. -/
def H0 (s : ByteArray) : Nat := (hfold s.data.toList).toNat

/-- How far a place lies behind another, going round. -/
def dist (n h0 h : Nat) : Nat := (h + n - h0 % n) % n
theorem dist_eq {n h0 d : Nat} (hd : d < n) : dist n h0 ((h0 + d) % n) = d := by
  unfold dist
  have h1 : h0 % n < n := Nat.mod_lt _ (by omega)
  have e : (h0 + d) % n = (h0 % n + d) % n := by rw [Nat.mod_add_mod]
  rw [e]
  rcases Nat.lt_or_ge (h0 % n + d) n with h | h
  · rw [Nat.mod_eq_of_lt h, show h0 % n + d + n - h0 % n = d + n from by omega, Nat.add_mod_right, Nat.mod_eq_of_lt hd]
  · rw [Nat.mod_eq_sub_mod h, Nat.mod_eq_of_lt (a := h0 % n + d - n) (by omega), show h0 % n + d - n + n - h0 % n = d from by omega, Nat.mod_eq_of_lt hd]
theorem step_eq (n h0 d : Nat) : ((h0 + d) % n + 1) % n = (h0 + (d + 1)) % n := by
  rw [Nat.mod_add_mod, Nat.add_assoc]

theorem str_eq (s t : ByteArray) : (s.toList == t.toList) = Tab.same s t := by
  rw [ByteArray.toList_eq, ByteArray.toList_eq]; rfl
theorem str_ne {s t : ByteArray} (h : s ≠ t) : (s.toList == t.toList) = false := by rw [str_eq]; exact Tab.same_no.2 h
theorem str_refl (s : ByteArray) : (s.toList == s.toList) = true := by rw [str_eq]; exact Tab.same_iff.2 rfl

def AddEnd (g : Nat) (tb : Tab.Tb) (name : ByteArray) (w : World) (e : Ending) (w' : World) : Prop :=
  ∃ r tb', e = .returned (.bool r) ∧ Tab.Added tb (H0 name) name r tb' ∧ Table w' g tb' ∧ Below g w w' ∧ w'.heap.size = w.heap.size ∧ ∀ k, k ≠ g → w'.heap[k]? = w.heap[k]?

set_option maxHeartbeats 800000 in
theorem add_any (g n c : Nat) (tb : Tab.Tb) (name : ByteArray) (w : World) (ht : Table w g tb) (hl : tb.length = n) (hn : ∃ k : Nat, k ≤ 20 ∧ n = 16 * 2 ^ k) (hu : Tab.used tb < tb.length) (hs : name.size ≤ 1048576) :
    Calls Try.prog 15 #[.slice (some ⟨g, 0, none⟩) n c, .string name] w fun e w' => AddEnd g tb name w e w' := by
  have hn1 : 16 ≤ n := by
    obtain ⟨k, _, rfl⟩ := hn
    have := Nat.two_pow_pos k; omega
  have hn2 : n ≤ 16777216 := by
    obtain ⟨k, hk, rfl⟩ := hn
    have hle : 2 ^ k ≤ 2 ^ 20 := Nat.pow_le_pow_right (by omega) hk
    omega
  have hbd := hfold_bd name.data.toList
  have e0 : hfold name.data.toList = (H0 name : Int) := by unfold H0; omega
  have a0 : bits .and .u32 (hfold name.data.toList) ((n : Int) - 1) = (((H0 name) % n : Nat) : Int) := by
    rw [e0]; exact and_mask _ _ (by omega) hn
  have AM := hide (fun x hx => and_mask x n hx hn)
  have HT := hide ht
  have HL := hide hl
  have HU := hide hu
  have HH := hide (hash_any name w hs)
  have hh0 : H0 name % n < n := Nat.mod_lt _ (by omega)
  clear ht hl hu hn e0
  generalize hfold name.data.toList = hf at *
  go_enter Try.func15, Try.ntmps15
  go_wp2_with fail
  refine (unhide HH).mono ?_
  rintro e w1 ⟨rfl, rfl⟩
  go_wp2
  go_loop [6] (fun t => ∃ d h : Nat, d < n ∧ h < n ∧ t = .int .u32 h ∧ Hid (h = (H0 name + d) % n) ∧ Hid (Tab.Probe tb (H0 name) d name)) (fun t => n - dist n (H0 name) (intOf t).toNat)
  case atStart => exact ⟨0, H0 name % n, by omega, hh0, by go_num, rfl, fun e he => absurd he (Nat.not_lt_zero e)⟩
  case round =>
    obtain ⟨d, h, hd, hh, rfl, HE, HP⟩ := hrel
    have hlen := unhide HL
    obtain ⟨o, ho⟩ : ∃ o, tb[h]? = some o := ⟨_, List.getElem?_eq_getElem (by omega)⟩
    have hat : Tab.at? tb (H0 name) d = some o := by unfold Tab.at?; rw [hlen, ← unhide HE]; exact ho
    have c1 := table_name (unhide HT) ho
    have c2 := table_used (unhide HT) ho
    have f1 : w1.frozen? ⟨g, h * 2, none⟩ = false := table_free (unhide HT)
    have f2 : w1.frozen? ⟨g, h * 2 + 1, none⟩ = false := table_free (unhide HT)
    have HAT := hide hat
    have HLT := hide (show h < tb.length by omega)
    clear hat ho hlen
    cases o with
    | none =>
      simp only [Option.getD_none, Option.isSome_none] at c1 c2
      have c3 : ∀ v, (w1.setCell ⟨g, h * 2, none⟩ v).cell? ⟨g, h * 2 + 1, none⟩ = some (.bool false) := fun v => by
        rw [World.cell?_setCell_other _ _ _ _ (by simp)]; exact c2
      go_wp2
      go_ret
      have hlen := unhide HL
      refine ⟨true, tb.set h (some name), rfl, ⟨d, by omega, unhide HP, .inr ⟨rfl, unhide HAT, by rw [hlen, ← unhide HE]⟩⟩, table_set (unhide HT) (unhide HLT) name, ((Below.refl g w1).setCell (p := ⟨g, h * 2, none⟩) (Nat.le_refl _) _).setCell (p := ⟨g, h * 2 + 1, none⟩) (Nat.le_refl _) _, by simp, fun k hk => ?_⟩
      rw [Below.heap_setCell _ _ _ _ hk, Below.heap_setCell _ _ _ _ hk]
    | some s =>
      simp only [Option.getD_some, Option.isSome_some] at c1 c2
      by_cases hsame : s = name
      · subst hsame
        have hq := str_refl s
        go_wp2
        go_ret
        have hlen := unhide HL
        exact ⟨false, tb, rfl, ⟨d, by omega, unhide HP, .inl ⟨rfl, unhide HAT, rfl⟩⟩, unhide HT, Below.refl _ _, rfl, fun _ _ => rfl⟩
      · have hq := str_ne hsame
        have AS := unhide AM (h + 1) (by omega)
        rw [show ((h + 1 : Nat) : Int) = (h : Int) + 1 from by omega] at AS
        have hlen := unhide HL
        have hd1 := Tab.probe_lt tb (H0 name) d name (unhide HU) (by omega) (unhide HP) s (unhide HAT)
        have hlt2 : (h + 1) % n < n := Nat.mod_lt _ (by omega)
        have HS := hide (show (h + 1) % n = (H0 name + (d + 1)) % n by rw [unhide HE]; exact step_eq n (H0 name) d)
        generalize (h + 1) % n = h2 at *
        rw [hlen] at hd1
        clear hlen
        have HN := hide hsame
        clear hsame
        go_wp2
        go_round
        case rel =>
          refine ⟨d + 1, h2, hd1, hlt2, rfl, unhide HS, fun e he => ?_⟩
          by_cases hed : e = d
          · subst hed; exact ⟨s, unhide HAT, unhide HN⟩
          · exact unhide HP e (by omega)
        case measure =>
          have e1 : dist n (H0 name) h2 = d + 1 := by rw [unhide HS]; exact dist_eq hd1
          have e2 : dist n (H0 name) h = d := by rw [unhide HE]; exact dist_eq hd
          simp [intOf, e1, e2]; omega

theorem zzadd_any (g n c : Nat) (tb : Tab.Tb) (name : ByteArray) (w : World) (ht : Table w g tb) (hl : tb.length = n) (hn : ∃ k : Nat, k ≤ 20 ∧ n = 16 * 2 ^ k) (hu : Tab.used tb < tb.length) (hs : name.size ≤ 1048576) :
    Calls Try.prog 11 #[.slice (some ⟨g, 0, none⟩) n c, .string name] w fun e w' => AddEnd g tb name w e w' := by
  have HA := hide (add_any g n c tb name w ht hl hn hu hs)
  clear ht hl hn hu hs
  go_enter Try.func11, Try.ntmps11
  go_wp2_with fail
  refine (unhide HA).mono ?_
  rintro e w' ⟨r, tb', rfl, h⟩
  have HH := hide h
  clear h
  go_wp2
  go_ret
  exact ⟨r, tb', rfl, unhide HH⟩
end Go.Proofs.Qxb6000496a
