/-
  zzLast (29), zzDistinct (28), zzLookup (30).
-/
import Derived.Test.YoeeawEntries
import Derived.Test.YoeeawPlain2
import Derived.Deep.QuietTactic
import Derived.BigQuiet
namespace Go.Proofs.Yoeeaw
open Go.RowKit

theorem grownBy_same (w : World) : w.grownBy w none := ⟨rfl, rfl, rfl, Nat.le_refl _, fun _ _ _ => rfl⟩
theorem grownBy_draws (w : World) (n : Nat) : w.grownBy (w.drewN n) none := ⟨rfl, rfl, rfl, Nat.le_refl _, fun _ _ _ => rfl⟩

theorem grow2' {a b c : World} (h : a.grownBy b none) (k : b.grownBy c none) : a.grownBy c none := h.andThen k (by simp)

theorem str_eq {a b : ByteArray} (h : (a.toList == b.toList) = true) : a.data.toList = b.data.toList := by
  rw [ByteArray.toList_eq, ByteArray.toList_eq] at h
  simpa using h
theorem str_ne {a b : ByteArray} (h : (a.toList == b.toList) = false) : a.data.toList ≠ b.data.toList := by
  rw [ByteArray.toList_eq, ByteArray.toList_eq] at h
  simpa using h

/-- No entry between i and k has entry i's key. -/
def NoneTo (ks : List (List UInt8)) (i k : Nat) : Prop := ∀ t, i < t → t < k → ks.getD t [] ≠ ks.getD i []

theorem noneTo_start (ks : List (List UInt8)) (i : Nat) : NoneTo ks i (i + 1) := fun t h1 h2 => by omega
theorem noneTo_step {ss : List ByteArray} {i k : Nat} {si sk : ByteArray} (h : NoneTo (keysOf ss) i k) (hi : ss.getD i ByteArray.empty = si) (hk : ss.getD k ByteArray.empty = sk) (hne : (sk.toList == si.toList) = false) : NoneTo (keysOf ss) i (k + 1) := fun t h1 h2 => by
  by_cases e : t = k
  · rw [e, keysOf_getD, keysOf_getD, hi, hk]
    exact str_ne hne
  · exact h t h1 (by omega)
theorem last_no {ss : List ByteArray} {n i k : Nat} {si sk : ByteArray} (h1 : i < k) (h2 : k < n) (hi : ss.getD i ByteArray.empty = si) (hk : ss.getD k ByteArray.empty = sk) (he : (sk.toList == si.toList) = true) : lastB (keysOf ss) n i = false := by
  cases hb : lastB (keysOf ss) n i
  · rfl
  · have := (lastB_iff _ _ _).1 hb k h1 h2
    rw [keysOf_getD, keysOf_getD, hi, hk] at this
    exact absurd (str_eq he) this

theorem retBool {a b : Bool} (h : a = b) : Ending.returned (.bool a) = .returned (.bool b) := by rw [h]

set_option maxHeartbeats 400000 in
theorem last29 (a : Option Addr) (ss : List ByteArray) (cap n i : Nat) (w : World) (hs : SegS w a ss) (hn : n ≤ ss.length) (hi : i < n) (hm : ss.length ≤ 4096) :
    Calls Eeag.prog 29 #[.slice a ss.length cap, .int .i64 n, .int .i64 i] w fun e w' => e = .returned (.bool (lastB (keysOf ss) n i)) ∧ w.grownBy w' none := by
  generalize hl : ss.length = l at hn hm
  have HL : Hid (ss.length = l) := hl
  clear hl
  obtain ⟨b, off, rfl, hci⟩ := hs i (by rw [HL.out]; omega)
  generalize hsi : ss.getD i ByteArray.empty = si at hci
  have HI : Hid (ss.getD i ByteArray.empty = si) := hsi
  clear hsi
  have hil : (i : Int) < (l : Int) := by omega
  go_enter Eeag.func29, Eeag.ntmps29
  go_wp2
  go_loopw [7] (fun j wr => ∃ k : Nat, i < k ∧ k ≤ n ∧ j = .int .i64 k ∧ w.grownBy wr none ∧ NoneTo (keysOf ss) i k) (fun j _ => n - (intOf j).toNat)
  case atStart => exact ⟨i + 1, by omega, by omega, by go_num, grownBy_same _, noneTo_start _ _⟩
  case round =>
    obtain ⟨k, hk0, hk, rfl, hg, hno⟩ := hrel
    by_cases hkn : k < n
    · obtain ⟨b', off', e1, hck⟩ := hs k (by rw [HL.out]; omega)
      cases e1
      have hci1 := hg.cell hci (by simp)
      have hck1 := hg.cell hck (by simp)
      generalize hsk : ss.getD k ByteArray.empty = sk at hck1
      have HK : Hid (ss.getD k ByteArray.empty = sk) := hsk
      clear hsk hci hck
      have hkl : (k : Int) < (l : Int) := by omega
      have hki : (k : Int) < (n : Int) := by omega
      go_wp2
      go_quiet (fail)
      go_wp2
      · have he : (sk.toList == si.toList) = true := by assumption
        go_ret
        exact ⟨retBool (last_no hk0 hkn HI.out HK.out he).symm, grow2' hg (grownBy_draws _ _)⟩
      · have he : (sk.toList == si.toList) = false := by assumption
        go_roundw
        case rel => exact ⟨k + 1, by omega, by omega, by go_num, grow2' hg (grownBy_draws _ _), noneTo_step hno HI.out HK.out he⟩
        case measure => simp [intOf]; omega
    · have hkn' : k = n := by omega
      subst hkn'
      clear hci
      go_wp2
      go_ret
      exact ⟨retBool ((lastB_iff _ _ _).2 hno).symm, hg⟩

theorem dist_yes {ks : List (List UInt8)} {n k : Nat} (h : lastB ks n k = true) : distB ks n (k + 1) = distB ks n k + 1 := by rw [distB_succ, h]; rfl
theorem dist_no {ks : List (List UInt8)} {n k : Nat} (h : lastB ks n k = false) : distB ks n (k + 1) = distB ks n k := by rw [distB_succ, h]; rfl

set_option maxHeartbeats 400000 in
theorem distinct28 (a : Option Addr) (ss : List ByteArray) (cap n : Nat) (w : World) (hs : SegS w a ss) (hn : n ≤ ss.length) (hm : ss.length ≤ 4096) :
    Calls Eeag.prog 28 #[.slice a ss.length cap, .int .i64 n] w fun e w' => e = .returned (.int .i64 (distB (keysOf ss) n n : Nat)) ∧ w.grownBy w' none := by
  go_enter Eeag.func28, Eeag.ntmps28
  go_wp2
  go_loopw [5, 6] (fun c i wr => ∃ k : Nat, k ≤ n ∧ i = .int .i64 k ∧ c = .int .i64 (distB (keysOf ss) n k : Nat) ∧ w.grownBy wr none) (fun _ i _ => n - (intOf i).toNat)
  case atStart => exact ⟨0, Nat.zero_le _, rfl, rfl, grownBy_same _⟩
  case round =>
    obtain ⟨k, hk, rfl, rfl, hg⟩ := hrel
    have hd := distB_le (keysOf ss) n k
    by_cases hkn : k < n
    · have hs1 := hs.grown hg
      go_wp2_with fail
      refine (last29 a ss cap n k _ hs1 hn hkn hm).mono ?_
      rintro e w1 ⟨rfl, hg1⟩
      have hg2 := grow2' hg hg1
      clear hs1 hg hg1
      cases hb : lastB (keysOf ss) n k
      · have HD := dist_no hb
        have HD' : Hid (distB (keysOf ss) n (k + 1) = distB (keysOf ss) n k) := HD
        clear HD hb
        go_wp2_with fail
        go_roundw
        case rel => exact ⟨k + 1, by omega, by go_num, by rw [HD'.out], hg2⟩
        case measure => simp [intOf]; omega
      · have HD := dist_yes hb
        have HD' : Hid (distB (keysOf ss) n (k + 1) = distB (keysOf ss) n k + 1) := HD
        clear HD hb
        go_wp2_with fail
        go_roundw
        case rel => exact ⟨k + 1, by omega, by go_num, by rw [HD'.out]; go_num, hg2⟩
        case measure => simp [intOf]; omega
    · have hkn' : k = n := by omega
      subst hkn'
      go_wp2_with fail
      go_ret
      exact ⟨rfl, hg⟩

theorem get_step_hit {ss : List ByteArray} {zs : List Int} {k : Nat} {s q : ByteArray} (hs : ss.getD k ByteArray.empty = s) (he : (s.toList == q.toList) = true) : getM (buildM (keysOf ss) zs (k + 1)) q.data.toList = some (zs.getD k 0) := by
  show getM (putM (buildM (keysOf ss) zs k) ((keysOf ss).getD k []) (zs.getD k 0)) q.data.toList = _
  rw [keysOf_getD, hs, str_eq he, getM_put_same]
theorem get_step_miss {ss : List ByteArray} {zs : List Int} {k : Nat} {s q : ByteArray} (hs : ss.getD k ByteArray.empty = s) (he : (s.toList == q.toList) = false) : getM (buildM (keysOf ss) zs (k + 1)) q.data.toList = getM (buildM (keysOf ss) zs k) q.data.toList := by
  show getM (putM (buildM (keysOf ss) zs k) ((keysOf ss).getD k []) (zs.getD k 0)) q.data.toList = _
  rw [keysOf_getD, hs, getM_put_other _ _ _ _ (Ne.symm (str_ne he))]

/-- What zzLookup hands back. -/
def LookRet (r : Option Int) (e : Ending) : Prop :=
  match r with
  | none => e = .returned (.tuple #[.int .i64 0, .bool false])
  | some v => e = .returned (.tuple #[.int .i64 v, .bool true])

theorem lookRet_none {r : Option Int} (h : r = none) : LookRet r (.returned (.tuple #[.int .i64 0, .bool false])) := by subst h; rfl
theorem lookRet_some {r : Option Int} {v : Int} (h : r = some v) : LookRet r (.returned (.tuple #[.int .i64 v, .bool true])) := by subst h; rfl

set_option maxHeartbeats 400000 in
theorem lookup30 (a a' : Option Addr) (ss : List ByteArray) (zs : List Int) (cap cap' n : Nat) (q : ByteArray) (w : World) (hs : SegS w a ss) (hz : SegI w a' zs) (hn : n ≤ ss.length) (hn' : n ≤ zs.length) (hm : n ≤ 4096) :
    Calls Eeag.prog 30 #[.slice a ss.length cap, .slice a' zs.length cap', .int .i64 n, .string q] w fun e w' => LookRet (getM (buildM (keysOf ss) zs n) q.data.toList) e ∧ w' = w := by
  generalize h1 : ss.length = l1 at hn
  generalize h2 : zs.length = l2 at hn'
  have H1 : Hid (ss.length = l1) := h1
  have H2 : Hid (zs.length = l2) := h2
  clear h1 h2
  go_enter Eeag.func30, Eeag.ntmps30
  go_wp2
  go_loop [10] (fun i => ∃ k : Nat, k ≤ n ∧ i = .int .i64 ((k : Int) - 1) ∧ getM (buildM (keysOf ss) zs n) q.data.toList = getM (buildM (keysOf ss) zs k) q.data.toList) (fun i => (intOf i + 1).toNat)
  case atStart => exact ⟨n, Nat.le_refl _, by go_num, rfl⟩
  case round =>
    obtain ⟨k, hk, rfl, hrec⟩ := hrel
    have HR : Hid (getM (buildM (keysOf ss) zs n) q.data.toList = getM (buildM (keysOf ss) zs k) q.data.toList) := hrec
    clear hrec
    cases k with
    | zero =>
      go_wp2
      go_ret2
      exact ⟨lookRet_none (HR.out.trans rfl), rfl⟩
    | succ j =>
      obtain ⟨b, off, rfl, hc⟩ := hs j (by rw [H1.out]; omega)
      obtain ⟨b', off', rfl, hc'⟩ := hz j (by rw [H2.out]; omega)
      generalize hss : ss.getD j ByteArray.empty = s at hc
      generalize hzz : zs.getD j 0 = v at hc'
      have HS : Hid (ss.getD j ByteArray.empty = s) := hss
      have HZ : Hid (zs.getD j 0 = v) := hzz
      clear hss hzz
      go_wp2
      · have he : (s.toList == q.toList) = true := by assumption
        go_ret2
        exact ⟨lookRet_some (HR.out.trans ((get_step_hit HS.out he).trans (by rw [HZ.out]))), rfl⟩
      · have he : (s.toList == q.toList) = false := by assumption
        go_round
        case rel => exact ⟨j, by omega, rfl, HR.out.trans (get_step_miss HS.out he)⟩
        case measure => simp [intOf]

end Go.Proofs.Yoeeaw
