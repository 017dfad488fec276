import Derived.Test.Qxb6602477aUp
namespace Go.Proofs.Qxb6602477a
open Go.ChangeShapes Go.WideShapes Go.ChangeAt Go.RowKit Go.MapKept

theorem nil_or_snoc {α : Type} (l : List α) : l = [] ∨ ∃ p s, l = p ++ [s] := by
  rcases l with _ | ⟨x, l⟩
  · exact .inl rfl
  · exact .inr ⟨(x :: l).dropLast, (x :: l).getLast (by simp), (List.dropLast_concat_getLast (by simp)).symm⟩

theorem run_field3 (v0 v1 v2 v4 : Value) (a : Option Addr) (n c : Nat) (w : World) : (Instr.field 33 (.agg #[v0, v1, v2, .slice a n c, v4]) 3).run Try.prog w = .ok (.slice a n c) w := by kernel_rfl

/-- The first loop: the gems by their names. -/
structure By (ks : List Kept) (w w0 wr : World) (r1 k : Nat) : Prop where
  m1 : StrMap wr r1 (byTo ks k)
  bel : Below w0.heap.size w0 wr

theorem by_step {ks : List Kept} {w w0 wr : World} {r1 k : Nat} (h : By ks w w0 wr r1 k) (hk : k < ks.length) (hr : w0.heap.size ≤ r1) (o : Obj) (x : Kept) (hx : x = gk ks k) :
    ∃ w1, (Instr.mapUpdate 45 (.map (some r1)) (.string x.gem.name) x.val).run Try.prog (wr.alloc o) = .ok () w1 ∧ By ks w w0 w1 r1 (k + 1) := by
  subst hx
  have hm := strMap_block (w' := wr.alloc o) h.m1 (Below.heap_alloc _ _ _ (strMap_lt h.m1))
  obtain ⟨w1, e1, hm1, ho⟩ := run_update_str (P := Try.prog) Try.underlying45 Try.underlying9 hm (gk ks k).gem.name (gk ks k).val
  exact ⟨w1, e1, strMap_congr hm1 (byTo_succ hk), only_below ho (h.bel.alloc h.bel.size o) hr⟩

theorem up_start {ks : List Kept} {w w0 wr : World} {r1 : Nat} {roots : List ByteArray} {ga : Option Addr} {glen : Nat} (gcap : Nat) (h : By ks w w0 wr r1 ks.length) (hw : Below w.heap.size w w0) (hr : w.heap.size ≤ r1) (hs : Strs w ga glen roots) (hl : glen ≤ 2097152) :
    ∃ pa pc w2, (Builtin.append_ #[23, 23] 23 #[.slice none 0 0, .slice ga glen gcap]).run Try.prog (wr.alloc (.map #[] 0)) = .ok (.slice pa glen pc) w2 ∧ Up ks roots w w2 r1 wr.heap.size pa pc roots (fun _ => false) := by
  have hbel := hw.trans (h.bel.mono hw.size)
  have hbel2 := hbel.alloc hbel.size (.map #[] 0)
  have hp0 : Pend (wr.alloc (.map #[] 0)) w.heap.size none 0 [] := World.ownsRow_nil _ _ _ _
  have hlt1 := strMap_lt h.m1
  have hm1 : StrMap (wr.alloc (.map #[] 0)) r1 (byTo ks ks.length) := strMap_block h.m1 (Below.heap_alloc _ _ _ hlt1)
  have hm2 := strMap_new wr
  obtain ⟨pa, pc, w2, e1, hp, hgr⟩ := run_pend hp0 gcap (strs_stays hbel2 hs) (by simp; exact hl) hbel2.size
  simp only [List.length_nil, Nat.zero_add, List.nil_append] at e1 hp
  refine ⟨pa, pc, w2, e1, hp, ?_, ?_, search_start (lead ks) roots, ?_, hr, hbel.size, by omega⟩
  · exact strMap_block hm1 (hgr.block r1 (strMap_lt hm1) (by simp [Value.ownBlock]))
  · exact strMap_congr (strMap_block hm2 (hgr.block _ (strMap_lt hm2) (by simp [Value.ownBlock]))) (fun s => rfl)
  · exact hbel2.grown hgr hbel2.size (by simp [Value.ownBlock])

set_option maxRecDepth 100000 in
set_option maxHeartbeats 4000000 in
theorem up_any2 (a : Option Addr) (len cap : Nat) (ks : List Kept) (g : Kept) (w : World) (hg : Gems w a len ks) (hk : g.ok w) (hl : len ≤ 1048576) (hsum : sumTo ks len + g.gem.req.length ≤ 2097152) :
    Calls Try.prog 9 #[.slice a len cap, g.val] w fun e w' => UpEnd ks g.gem.req w e w' := by
  have HG := hide hg
  have HL := hide hg.1
  have hmm := run_mm45 len
  have hm2 := @run_makeMap Try.prog 46
  have hf3 := run_field3
  obtain ⟨⟨gn, gv, gs, greq, gl⟩, ga, gcap⟩ := g
  unfold Kept.val
  unfold Kept.ok at hk
  dsimp only at hk hsum ⊢
  have HK := hide hk
  generalize hgl : greq.length = glen at hk hsum HK ⊢
  have HGL := hide hgl
  clear hgl hk hg
  generalize hE : UpEnd ks greq w = E
  have HE := hide hE
  clear hE
  go_enter Try.func9, Try.ntmps9
  go_wp2
  go_loopw [19] (fun t wr => ∃ k : Nat, k ≤ len ∧ t = .int .i64 k ∧ By ks w (w.alloc (Obj.cells #[.string gn, .string gv, .string gs, .slice ga glen gcap, .int .i64 gl] 33)) wr (w.heap.size + 1) k) (fun t _ => len - (intOf t).toNat)
  case atStart =>
    refine ⟨0, Nat.zero_le _, rfl, ?_, (Below.refl _ _).alloc (Nat.le_refl _) _⟩
    have := strMap_new (w.alloc (Obj.cells #[.string gn, .string gv, .string gs, .slice ga glen gcap, .int .i64 gl] 33))
    rw [World.size_alloc] at this
    exact this
  case round =>
    obtain ⟨k, hk, rfl, hby⟩ := hrel
    by_cases hlt : k < len
    · obtain ⟨b, o, rfl, hc⟩ := (unhide HG).2.1 (by omega)
      have hb1 := ((Below.refl w.heap.size w).alloc (Nat.le_refl _) (Obj.cells #[.string gn, .string gv, .string gs, .slice ga glen gcap, .int .i64 gl] 33)).trans (hby.bel.mono (by simp))
      obtain ⟨c0, c1, c2, c3, c4⟩ := gemAt_stays hb1 (hc k hlt)
      have hst := fun o => by_step hby (by rw [unhide HL]; exact hlt) (by simp) o (gk ks k) rfl
      unfold Kept.val at hst
      clear hc hb1 hby
      generalize gk ks k = x at *
      obtain ⟨⟨xn, xv, xs, xreq, xl⟩, xa, xcap⟩ := x
      dsimp only at c0 c1 c2 c3 c4 hst
      generalize xreq.length = xlen at *
      obtain ⟨w1, e1, hby⟩ := hst (Obj.cells #[.string xn, .string xv, .string xs, .slice xa xlen xcap, .int .i64 xl] 33)
      clear hst
      have HBy := hide hby
      clear hby
      go_wp2
      go_roundw
      case rel => exact ⟨k + 1, by omega, by go_num, unhide HBy⟩
      case measure => simp [intOf]; omega
    · have hke : k = len := by omega
      subst hke
      have hb0 := (Below.refl w.heap.size w).alloc (Nat.le_refl _) (Obj.cells #[.string gn, .string gv, .string gs, .slice ga glen gcap, .int .i64 gl] 33)
      obtain ⟨pa, pc, w2, e1, hup⟩ := up_start (roots := greq) (ga := ga) (glen := glen) gcap (by rw [unhide HL]; exact hby) hb0 (Nat.le_succ _) (unhide HK) (by omega)
      have cb : (wr.alloc (Obj.map #[] 0)).cell? ⟨w.heap.size, 3, none⟩ = some (.slice ga glen gcap) := by
        have h1 : (w.alloc (Obj.cells #[.string gn, .string gv, .string gs, .slice ga glen gcap, .int .i64 gl] 33)).cell? ⟨w.heap.size, 3, none⟩ = some (.slice ga glen gcap) :=
          blk_cell (cs := [.string gn, .string gv, .string gs, .slice ga glen gcap, .int .i64 gl]) (heap_alloc_new _ _) rfl
        exact cell_stays ((Below.refl wr.heap.size wr).alloc (Nat.le_refl _) _) (cell_stays hby.bel h1)
      have HUp := hide hup
      have hrl := unhide HGL
      have hM : greq.length + rest ks (fun _ => false) ≤ 2097152 := by have h1 := rest_start ks (fun _ => false); rw [unhide HL] at h1; omega
      have HM := hide hM
      clear hup hby hb0 hM
      have E1 := hide e1
      clear hrl e1
      go_wp2_with (at_builtin; refine wpList_append_run rfl (.const (.slice none 0 0)) (.tmp 30) 23 rfl _ _ _ rfl rfl (unhide E1) ?_)
      generalize wr.heap.size = r2 at *
      go_loopg [9] (greq.length + rest ks (fun _ => false)) (fun n v wx => n ≤ 2097152 ∧ ∃ pa pc P R, v = .slice pa P.length pc ∧ Up ks greq w wx (w.heap.size + 1) r2 pa pc P R ∧ P.length + rest ks R = n)
      case atStart => exact ⟨unhide HM, pa, pc, greq, fun _ => false, by rw [unhide HGL], unhide HUp, rfl⟩
      case round =>
        obtain ⟨hgk, pa, pc, P, R, rfl, hup, hn⟩ := hrel
        clear HUp E1 cb HM
        rcases nil_or_snoc P with rfl | ⟨P', s, rfl⟩
        · have HO : Hid (Out ks R w wr r2 0 none 0 []) := ⟨grow_nil _ _, by simp, hup.m2, hup.bel, hup.lo2, fun _ => rfl⟩
          have HR := hide (fun s => search_end hup.srch s)
          have HB := hide hup.bel
          clear hup hn
          go_wp2
          go_loopg [11, 59] k (fun n v t wx => ∃ (j : Nat) (ua : Option Addr) (uc : Nat) (L : List Kept), j + n = k ∧ t = .int .i64 j ∧ v = .slice ua L.length uc ∧ Out ks R w wx r2 j ua uc L)
          case atStart => exact ⟨0, none, 0, [], by omega, rfl, rfl, unhide HO⟩
          case round =>
            obtain ⟨j, ua, uc, L, hj, rfl, rfl, hout⟩ := hrel
            have HJ := hide hj
            clear hj
            by_cases hjk : j < k
            · obtain ⟨b, o, rfl, hc⟩ := (unhide HG).2.1 (by omega)
              obtain ⟨c0, c1, c2, c3, c4⟩ := gemAt_stays hout.bel (hc j hjk)
              have hjl : j < ks.length := by rw [unhide HL]; exact hjk
              have el := fun o => out_look hout o (Go.Proofs.Qxb6602477a.gk ks j).gem.name
              by_cases hR : R (Go.Proofs.Qxb6602477a.gk ks j).gem.name = true
              · have hst := fun o => out_take hout hjl hR (by rw [unhide HL]; exact hl) o (Go.Proofs.Qxb6602477a.gk ks j) rfl
                have HLn := hide (show (L ++ [Go.Proofs.Qxb6602477a.gk ks j]).length = L.length + 1 by simp)
                simp only [hR] at el
                clear hc hout hR
                generalize Go.Proofs.Qxb6602477a.gk ks j = x at *
                obtain ⟨⟨xn, xv, xs, xreq, xl⟩, xa, xcap⟩ := x
                dsimp only at c0 c1 c2 c3 c4 el hst
                generalize hxl : xreq.length = xlen at *
                obtain ⟨ua', uc', w5, e5, hout⟩ := hst (Obj.cells #[.string xn, .string xv, .string xs, .slice xa xlen xcap, .int .i64 xl] 33)
                have E5 := hide e5
                have HO2 := hide hout
                clear hst e5 hout hxl
                go_wp2_with (at_builtin; refine wpList_append_run rfl (.tmp 67) (.tmp 69) 30 rfl _ _ _ rfl rfl (unhide E5) ?_)
                go_roundg (k - (j + 1))
                case measure => have := unhide HJ; omega
                case rel => exact ⟨j + 1, ua', uc', _, by omega, by go_num, by rw [unhide HLn], unhide HO2⟩
              · have hR' : R (Go.Proofs.Qxb6602477a.gk ks j).gem.name = false := by simpa using hR
                have hst := fun o => out_skip hout hjl hR' o
                simp only [hR'] at el
                clear hc hout hR hR'
                generalize Go.Proofs.Qxb6602477a.gk ks j = x at *
                obtain ⟨⟨xn, xv, xs, xreq, xl⟩, xa, xcap⟩ := x
                dsimp only at c0 c1 c2 c3 c4 el
                generalize hxl : xreq.length = xlen at *
                have HO2 := hide (hst (Obj.cells #[.string xn, .string xv, .string xs, .slice xa xlen xcap, .int .i64 xl] 33))
                clear hst hxl
                go_wp2
                go_roundg (k - (j + 1))
                case measure => have := unhide HJ; omega
                case rel => exact ⟨j + 1, ua, uc, L, by omega, by go_num, rfl, unhide HO2⟩
            · have hje : j = k := by have := unhide HJ; omega
              subst hje
              have hks := (unhide HG).2.2
              have hLall : L = ks.filter (fun q => R q.gem.name) := by rw [hout.is, ← unhide HL, List.take_length]
              have hgm := grow_gems hout.row (fun x hx => ok_stays hout.bel (hks x (by rw [hLall] at hx; exact (List.mem_filter.1 hx).1)))
              have HEnd := hide (show UpEnd ks greq w (.returned (.slice ua L.length uc)) wr from ⟨ua, uc, L, R, rfl, hLall, unhide HR, hgm, hout.nil, hout.bel⟩)
              clear hout hLall hgm hks
              go_wp2
              rw [← unhide HE]
              exact unhide HEnd
        · have hpl : (P' ++ [s]).length = P'.length + 1 := by simp
          obtain ⟨g, rfl, cg, hcap, _⟩ := pend_at hup.pend
          rw [hpl] at hn ⊢
          have hpb : P'.length + 1 ≤ 2097152 := by omega
          have el := up_look hup s
          by_cases hR : R s = true
          · have HU := hide (up_skip hup hR)
            have HN := hide hn
            rw [hR] at el
            clear hup hn hR hpl
            go_wp2
            go_roundg (gk - 1)
            case measure => have := unhide HN; omega
            case rel => exact ⟨by omega, some ⟨g, 0, none⟩, pc, P', R, rfl, unhide HU, by have := unhide HN; omega⟩
          · have hR' : R s = false := by simpa using hR
            have hrm := rest_mark ks R s hR'
            obtain ⟨w3, pa', pc', w4, e1, e2, e3, hup'⟩ := up_take hup (unhide HG).2.2 (by omega)
            have HU := hide hup'
            have HN := hide (show (P' ++ lead ks s).length + rest ks (mark R s) = gk - 1 by rw [List.length_append]; omega)
            have hg1 := hide (show gk - 1 < gk by omega)
            have E3 := hide e3
            have HLn := hide (show P'.length + (lead ks s).length = (P' ++ lead ks s).length by simp)
            rw [hR'] at el
            clear hup hn hR hR' hpl hup' e3 hrm
            unfold Kept.val at e2
            generalize found ks s = x at *
            obtain ⟨⟨xn, xv, xs, xreq, xl⟩, xa, xcap⟩ := x
            dsimp only at e2 E3
            go_wp2_with (at_builtin; refine wpList_append_run rfl (.tmp 51) (.tmp 55) 23 rfl _ _ _ rfl rfl (unhide E3) ?_)
            go_roundg (gk - 1)
            case measure => exact unhide hg1
            case rel => exact ⟨by omega, pa', pc', P' ++ lead ks s, mark R s, by rw [unhide HLn], unhide HU, unhide HN⟩
theorem up_any (a : Option Addr) (len cap : Nat) (ks : List Kept) (g : Kept) (w : World) (hg : Gems w a len ks) (hk : g.ok w) (hl : len ≤ 1048576) (hsum : sumTo ks len + g.gem.req.length ≤ 1048576) :
    Calls Try.prog 9 #[.slice a len cap, g.val] w fun e w' => UpEnd ks g.gem.req w e w' := up_any2 a len cap ks g w hg hk hl (by omega)
end Go.Proofs.Qxb6602477a
