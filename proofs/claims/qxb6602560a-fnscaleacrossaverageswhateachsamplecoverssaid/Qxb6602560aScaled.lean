import Derived.Test.Qxb6602560aAcross
namespace Go.Proofs.Qxb6602560a
open Go.ChangeShapes Go.WideShapes Go.ChangeAt Go.RowKit
set_option linter.unusedVariables false
attribute [local go_sem] run_store_float

set_option maxHeartbeats 2000000 in
theorem across_scaled (g co : Nat) (br orow cr gx full m : Nat) (l : List Nat) (w : World) (hl : l.length ≤ 65536) (hm : m ≤ 65536) (hlm : l.length ≠ m) (hcr : l.length ≤ cr) (hcr2 : cr ≤ 4194304)
    (hby : ∀ i, i < l.length → l.getD i 0 ≤ 255)
    (hbr : br < w.heap.size) (hbg : br ≠ g) (hrow : ∀ i, i < l.length → w.cell? ⟨br, orow + i, none⟩ = some (.int .u8 ((l.getD i 0 : Nat) : Int))) (hgs : g < w.heap.size)
    (hgx : gx < w.heap.size) (hgxg : gx ≠ g) (hcov : ∀ i, i < m → CovAt w gx l.length m i) (hlh : ∀ i, i < m → cLo l.length m i ≤ cvHi l.length m i ∧ cvHi l.length m i ≤ l.length)
    (ov : Nat → Nat) (hst : ∀ i, i < m → Step l full (cLo l.length m i) (cvHi l.length m i) (cvWl l.length m i) (cvWh l.length m i) (ov i))
    (ao : Option Addr) (hao : 0 < m → ao = some ⟨g, 0, none⟩) (h0 : ARel w g m 0 ov w) :
    Calls Try.prog 20 #[.slice ao m co, .slice (some ⟨br, orow, none⟩) l.length cr, .slice (some ⟨gx, 0, none⟩) m m, .float .f32 full] w fun e w' => e = .returned (.tuple #[]) ∧ ARel w g m m ov w' := by
  have he : ((l.length : Int) == (m : Int)) = false := beq_eq_false_iff_ne.2 (by omega)
  go_enter Try.func20, Try.ntmps20
  go_wp2
  go_loopw [36] (fun i wr => ∃ k : Nat, k ≤ m ∧ i = .int .i64 k ∧ ARel w g m k ov wr) (fun i _ => m - (intOf i).toNat)
  case atStart => exact ⟨0, Nat.zero_le _, rfl, h0⟩
  case round =>
    clear h0
    obtain ⟨k, hk, rfl, hA⟩ := hrel
    by_cases hlt : k < m
    · obtain rfl := hao (by omega)
      obtain ⟨q0, q1, q2, q3⟩ := hcov k hlt
      obtain ⟨hlo, hhi⟩ := hlh k hlt
      have st := hst k hlt
      rw [← grown_cell hA.hgr hgx hgxg] at q0 q1 q2 q3
      generalize cLo l.length m k = lo at *
      generalize cvHi l.length m k = hi at *
      generalize cvWl l.length m k = wl at *
      generalize cvWh l.length m k = wh at *
      have HST : Hid (Step l full lo hi wl wh (ov k)) := st
      have HROW : Hid (∀ i, i < l.length → w.cell? ⟨br, orow + i, none⟩ = some (.int .u8 ((l.getD i 0 : Nat) : Int))) := hrow
      have hgsr := hA.hgr.size
      clear st hrow hcov hlh hst hao
      have hcells : ∀ i, i < l.length → wr.cell? ⟨br, orow + i, none⟩ = some (.int .u8 ((l.getD i 0 : Nat) : Int)) := fun i hi => (grown_cell hA.hgr hbr hbg).trans (HROW.out i hi)
      have HCELL : Hid (∀ i, i < l.length → wr.cell? ⟨br, orow + i, none⟩ = some (.int .u8 ((l.getD i 0 : Nat) : Int))) := hcells
      obtain ⟨u, c2⟩ := hA.hex k hlt
      have f2 := hA.hfz k
      have hgw : g < wr.heap.size := by omega
      have hbw : br < wr.heap.size := by omega
      have hgxw : gx < wr.heap.size := by omega
      clear hcells
      obtain ⟨v0, v1, hv0, hs1, hs2⟩ := HST.out
      have m0 := fun W => run_float_arith (P := Try.prog) W .mul 28 .f32 _ _ _ hv0
      have hsb := sumB_le l hby lo (hi - lo) (by omega)
      by_cases hcl : cr = lo
      · subst hcl
        have hhl : hi = cr := by omega
        subst hhl
        go_wp2
        go_loopw [12, 48] (fun s i wx => ∃ t n : Nat, t ≤ hi - hi ∧ i = .int .i64 t ∧ s = .int .i64 ((sumB l hi t : Nat) : Int) ∧ wx = (wr.alloc (.cells #[.int .i64 hi, .int .i64 hi, .float .f32 wl, .float .f32 wh] 53)).drewN n) (fun _ i _ => (hi - hi) - (intOf i).toNat)
        case atStart => exact ⟨0, 0, Nat.zero_le _, rfl, rfl, rfl⟩
        case round =>
          obtain ⟨t, nn, ht, rfl, rfl, rfl⟩ := hrel
          obtain rfl : t = 0 := by omega
          simp only [Nat.sub_self] at m0 hv0 hsb
          generalize sumB l hi 0 = S at *
          rcases hs1 with ⟨o1, rfl⟩ | ⟨o1, hl1, hl2, p1, hp1, ha1⟩
          · rcases hs2 with ⟨o2, e2⟩ | ⟨o2, hh2, p2, hp2, ha2⟩
            · go_wp2
              go_roundw
              case rel => exact ⟨k + 1, by omega, by go_num, ((hA.alloc hgw _).drewN nn).set hlt (by rw [e2])⟩
              case measure => simp [intOf]; omega
            · exfalso; omega
          · obtain ⟨lp, rfl⟩ : ∃ lp, hi = lp + 1 := ⟨hi - 1, by omega⟩
            have c3 := HCELL.out lp (by omega)
            rw [show lp + 1 - 1 = lp from rfl] at hp1
            generalize l.getD lp 0 = x at c3 hp1
            have m1 := fun W => run_float_arith (P := Try.prog) W .mul 28 .f32 _ _ _ hp1
            have s1 := fun W => run_float_arith (P := Try.prog) W .add 28 .f32 _ _ _ ha1
            have hl3 : (lp : Int) < (l.length : Int) := by omega
            clear hp1 ha1 hv0
            rcases hs2 with ⟨o2, e2⟩ | ⟨o2, hh2, p2, hp2, ha2⟩
            · go_wp2
              go_quiet (fail)
              go_wp2
              go_roundw
              case rel => exact ⟨k + 1, by omega, by go_num, ((hA.alloc hgw _).drewN _).set hlt (by rw [e2])⟩
              case measure => simp [intOf]; omega
            · exfalso; omega
      · go_wp2
        go_loopw [12, 48] (fun s i wx => ∃ t n : Nat, t ≤ hi - lo ∧ i = .int .i64 t ∧ s = .int .i64 ((sumB l lo t : Nat) : Int) ∧ wx = (wr.alloc (.cells #[.int .i64 lo, .int .i64 hi, .float .f32 wl, .float .f32 wh] 53)).drewN n) (fun _ i _ => (hi - lo) - (intOf i).toNat)
        case atStart => exact ⟨0, 0, Nat.zero_le _, rfl, rfl, rfl⟩
        case round =>
          obtain ⟨t, nn, ht, rfl, rfl, rfl⟩ := hrel
          by_cases hlt2 : t < hi - lo
          · have c1 := HCELL.out (lo + t) (by omega)
            rw [← Nat.add_assoc] at c1
            obtain ⟨z, hz⟩ : ∃ z, z = l.getD (lo + t) 0 := ⟨_, rfl⟩
            rw [← hz] at c1
            have hzb : z ≤ 255 := by rw [hz]; exact hby _ (by omega)
            have hsum : sumB l lo (t + 1) = sumB l lo t + z := by rw [hz]; rfl
            have hsb2 := sumB_le l hby lo t (by omega)
            have HSUM : Hid (sumB l lo (t + 1) = sumB l lo t + z) := hsum
            generalize sumB l lo t = S at *
            clear hz hsum m0 q0 q1 q2 q3
            go_wp2
            go_roundw
            case rel => exact ⟨t + 1, nn, by omega, by go_num, by rw [HSUM.out]; go_num, rfl⟩
            case measure => simp [intOf]; omega
          · have hte : t = hi - lo := by omega
            subst hte
            generalize sumB l lo (hi - lo) = S at *
            rcases hs1 with ⟨o1, rfl⟩ | ⟨o1, hl1, hl2, p1, hp1, ha1⟩
            · rcases hs2 with ⟨o2, e2⟩ | ⟨o2, hh2, p2, hp2, ha2⟩
              · go_wp2
                go_roundw
                case rel => exact ⟨k + 1, by omega, by go_num, ((hA.alloc hgw _).drewN nn).set hlt (by rw [e2])⟩
                case measure => simp [intOf]; omega
              · have c4 := HCELL.out hi hh2
                generalize l.getD hi 0 = y at c4 hp2
                have m2 := fun W => run_float_arith (P := Try.prog) W .mul 28 .f32 _ _ _ hp2
                have s2 := fun W => run_float_arith (P := Try.prog) W .add 28 .f32 _ _ _ ha2
                have hh2' : (hi : Int) < (l.length : Int) := by omega
                clear hp2 ha2 hv0
                go_wp2
                go_quiet (fail)
                go_wp2
                go_roundw
                case rel => exact ⟨k + 1, by omega, by go_num, ((hA.alloc hgw _).drewN _).set hlt rfl⟩
                case measure => simp [intOf]; omega
            · obtain ⟨lp, rfl⟩ : ∃ lp, lo = lp + 1 := ⟨lo - 1, by omega⟩
              have c3 := HCELL.out lp (by omega)
              rw [show lp + 1 - 1 = lp from rfl] at hp1
              generalize l.getD lp 0 = x at c3 hp1
              have m1 := fun W => run_float_arith (P := Try.prog) W .mul 28 .f32 _ _ _ hp1
              have s1 := fun W => run_float_arith (P := Try.prog) W .add 28 .f32 _ _ _ ha1
              have hl3 : (lp : Int) < (l.length : Int) := by omega
              clear hp1 ha1 hv0
              rcases hs2 with ⟨o2, e2⟩ | ⟨o2, hh2, p2, hp2, ha2⟩
              · go_wp2
                go_quiet (fail)
                go_wp2
                go_roundw
                case rel => exact ⟨k + 1, by omega, by go_num, ((hA.alloc hgw _).drewN _).set hlt (by rw [e2])⟩
                case measure => simp [intOf]; omega
              · have c4 := HCELL.out hi hh2
                generalize l.getD hi 0 = y at c4 hp2
                have m2 := fun W => run_float_arith (P := Try.prog) W .mul 28 .f32 _ _ _ hp2
                have s2 := fun W => run_float_arith (P := Try.prog) W .add 28 .f32 _ _ _ ha2
                have hh2' : (hi : Int) < (l.length : Int) := by omega
                clear hp2 ha2
                go_wp2
                go_quiet (fail)
                go_wp2
                go_quiet (fail)
                go_wp2
                go_roundw
                case rel => exact ⟨k + 1, by omega, by go_num, ((hA.alloc hgw _).drewN _).set hlt rfl⟩
                case measure => simp [intOf]; omega
    · have hkm : k = m := by omega
      subst hkm
      go_wp2
      go_end0
      exact ⟨rfl, hA⟩
end Go.Proofs.Qxb6602560a
