/-
  zzModelEqual (19).
-/
import Derived.Test.YoeeawModel
namespace Go.Proofs.Yoeeaw
open Go.RowKit

set_option maxHeartbeats 1000000 in
theorem modelEq19 (a a' c c' : Option Addr) (ss tt : List ByteArray) (zs us : List Int) (k1 k2 k3 k4 n1 n2 : Nat) (w : World) (hs : SegS w a ss) (hz : SegI w a' zs) (ht : SegS w c tt) (hu : SegI w c' us)
    (h1 : n1 ≤ ss.length) (h2 : n1 ≤ zs.length) (h3 : n2 ≤ tt.length) (h4 : n2 ≤ us.length) (hm1 : ss.length ≤ 4096) (hm2 : tt.length ≤ 4096) :
    Calls Eeag.prog 19 #[.slice a ss.length k1, .slice a' zs.length k2, .int .i64 n1, .slice c tt.length k3, .slice c' us.length k4, .int .i64 n2] w fun e w' =>
      e = .returned (.bool (eqM (buildM (keysOf ss) zs n1) (buildM (keysOf tt) us n2))) ∧ w.grownBy w' none := by
  go_enter Eeag.func19, Eeag.ntmps19
  go_wp2_with fail
  refine (distinct28 a ss k1 n1 _ hs h1 hm1).mono ?_
  rintro e w1 ⟨rfl, hg1⟩
  have ht1 := ht.grown hg1
  go_wp2_with fail
  refine (distinct28 c tt k3 n2 _ ht1 h3 hm2).mono ?_
  rintro e w2 ⟨rfl, hg2⟩
  have hg := grow2' hg1 hg2
  clear hg1 hg2 ht1
  have hl1 := length_build (keysOf ss) zs n1
  have hl2 := length_build (keysOf tt) us n2
  by_cases hd : distB (keysOf ss) n1 n1 = distB (keysOf tt) n2 n2
  · have HL : Hid ((buildM (keysOf ss) zs n1).length = (buildM (keysOf tt) us n2).length) := by rw [Hid]; omega
    have hb : (((distB (keysOf ss) n1 n1 : Nat) : Int) != ((distB (keysOf tt) n2 n2 : Nat) : Int)) = false := by simp [hd]
    clear hd hl1 hl2
    go_wp2_with fail
    go_loopw [13] (fun i wr => ∃ k : Nat, k ≤ n1 ∧ i = .int .i64 k ∧ w.grownBy wr none ∧ SameTo (keysOf ss) zs n1 (buildM (keysOf tt) us n2) k) (fun i _ => n1 - (intOf i).toNat)
    case atStart => exact ⟨0, Nat.zero_le _, rfl, hg, sameTo_zero _ _ _ _⟩
    case round =>
      clear hg
      obtain ⟨k, hk, rfl, hg, hS⟩ := hrel
      by_cases hkn : k < n1
      · have hs1 := hs.grown hg
        go_wp2_with fail
        refine (last29 a ss k1 n1 k _ hs1 h1 hkn hm1).mono ?_
        rintro e w3 ⟨rfl, hg3⟩
        have hg4 := grow2' hg hg3
        clear hs1 hg hg3
        cases hlb : lastB (keysOf ss) n1 k
        · have hS1 := sameTo_skip hS hlb
          clear hlb hS
          go_wp2_with fail
          go_roundw
          case rel => exact ⟨k + 1, by omega, by go_num, hg4, hS1⟩
          case measure => simp [intOf]; omega
        · obtain ⟨b, off, rfl, hc⟩ := hs k (by omega)
          obtain ⟨b', off', rfl, hc'⟩ := hz k (by omega)
          have hcx := hg4.cell hc (by simp)
          have hcx' := hg4.cell hc' (by simp)
          have ht4 := ht.grown hg4
          have hu4 := hu.grown hg4
          have hk1 : (k : Int) < (ss.length : Int) := by omega
          have hk2 : (k : Int) < (zs.length : Int) := by omega
          generalize hss : ss.getD k ByteArray.empty = s at hcx
          generalize hzz : zs.getD k 0 = v at hcx'
          have HB : Hid (lastB (keysOf ss) n1 k = true) := hlb
          have HS : Hid ((keysOf ss).getD k [] = s.data.toList) := by rw [Hid, keysOf_getD, hss]
          have HZ : Hid (zs.getD k 0 = v) := hzz
          clear hss hzz hc hc' hlb
          go_wp2_with fail
          refine (lookup30 c c' tt us k3 k4 n2 s _ ht4 hu4 h3 h4 (by omega)).mono ?_
          rintro e w5 ⟨he, rfl⟩
          cases hr : getM (buildM (keysOf tt) us n2) s.data.toList with
          | none =>
            rw [hr] at he
            have he' : e = .returned (.tuple #[.int .i64 0, .bool false]) := he
            subst he'
            have HF : Hid (eqM (buildM (keysOf ss) zs n1) (buildM (keysOf tt) us n2) = false) := model_false hkn HB.out (by rw [HS.out, hr]; simp)
            clear hr he hS ht4 hu4
            go_wp2_with fail
            go_ret
            exact ⟨retBool HF.out.symm, hg4⟩
          | some x =>
            rw [hr] at he
            have he' : e = .returned (.tuple #[.int .i64 x, .bool true]) := he
            subst he'
            by_cases hxv : x = v
            · have hb2 : (x != v) = false := by simp [hxv]
              have hS1 := sameTo_hit hS (by rw [HS.out, HZ.out, hr, hxv])
              clear hr he hS ht4 hu4 hxv
              go_wp2_with fail
              go_roundw
              case rel => exact ⟨k + 1, by omega, by go_num, hg4, hS1⟩
              case measure => simp [intOf]; omega
            · have hb2 : (x != v) = true := by simp [hxv]
              have HF : Hid (eqM (buildM (keysOf ss) zs n1) (buildM (keysOf tt) us n2) = false) := model_false hkn HB.out (by rw [HS.out, HZ.out, hr]; simpa using hxv)
              clear hr he hS ht4 hu4 hxv
              go_wp2_with fail
              go_ret
              exact ⟨retBool HF.out.symm, hg4⟩
      · have hkn' : k = n1 := by omega
        subst hkn'
        have HF : Hid (eqM (buildM (keysOf ss) zs k) (buildM (keysOf tt) us n2) = true) := model_true HL.out hS
        clear hS
        go_wp2_with fail
        go_ret
        exact ⟨retBool HF.out.symm, hg⟩
  · have HF : Hid (eqM (buildM (keysOf ss) zs n1) (buildM (keysOf tt) us n2) = false) := eqM_len (by omega)
    have hb : (((distB (keysOf ss) n1 n1 : Nat) : Int) != ((distB (keysOf tt) n2 n2 : Nat) : Int)) = true := by simp; omega
    clear hl1 hl2 hd
    go_wp2_with fail
    go_ret
    exact ⟨retBool HF.out.symm, hg⟩

end Go.Proofs.Yoeeaw
