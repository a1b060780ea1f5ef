/-
  THE WALKS of matchGlob (25), ZZmatchGlob (12).
-/
import Derived.Test.Qxb6603803aWalkByte
import Derived.Test.Qxb6603803aGlob
namespace Go.Proofs.Qxb6603803a
open Go.ChangeShapes Go.WideShapes Go.ChangeAt Go.RowKit
set_option linter.unusedVariables false

theorem ret_bool {a b : Bool} (h : a = b) : Ending.returned (.bool a) = .returned (.bool b) := by rw [h]

/-- A slice of m bytes 'z 0 .. z (m - 1)', as a walk reads it: empty (whatever its address), or at an address. -/
def Bytes (w : World) (ao : Option Addr) (m : Nat) (z : Nat → Nat) : Prop := m = 0 ∨ ∃ b off, ao = some ⟨b, off, none⟩ ∧ ∀ i, i < m → w.cell? ⟨b, off + i, none⟩ = some (.int .u8 (z i))

set_option maxHeartbeats 2000000 in
set_option maxRecDepth 100000 in
theorem matchGlob_at (s : ByteArray) (b off m cap : Nat) (z : Nat → Nat) (w : World) (hs : s.size ≤ 1048576) (hm : m ≤ 1048576) (hz : ∀ i, z i < 256) (hc : ∀ i, i < m → w.cell? ⟨b, off + i, none⟩ = some (.int .u8 (z i))) :
    Calls Try.prog 25 #[.string s, .slice (some ⟨b, off, none⟩) m cap] w fun e w' => e = .returned (.bool (G (bt s) s.size z m 0 0)) ∧ ∃ k, w' = w.drewN k := by
  have hb : ∀ k (h : k < s.size), (s[k]'h).toNat = bt s k := bt_eq s
  have HC : Hid (∀ i, i < m → w.cell? ⟨b, off + i, none⟩ = some (.int .u8 (z i))) := hc
  have HZ : Hid (∀ i, z i < 256) := hz
  clear hc hz
  go_enter Try.func25, Try.ntmps25
  go_wp2
  go_loopw [5, 6, 7, 8] (fun sp si sr sf wr => ∃ (p i fr : Nat) (rt : Int) (k : Nat), sp = .int .i64 p ∧ si = .int .i64 i ∧ sr = .int .i64 rt ∧ sf = .int .i64 fr ∧ wr = w.drewN k ∧ p ≤ s.size ∧ i ≤ m ∧ fr ≤ i ∧ -1 ≤ rt ∧ rt ≤ p ∧ Hid (GInv (bt s) s.size z m p i rt fr))
    (fun _ si sr sf _ => gM s.size m (intOf si).toNat (intOf sr) (intOf sf).toNat)
  case atStart => exact ⟨0, 0, 0, -1, 0, rfl, rfl, rfl, rfl, rfl, by omega, by omega, by omega, by omega, by omega, inv_start⟩
  case round =>
    obtain ⟨p, i, fr, rt, k, rfl, rfl, rfl, rfl, rfl, hp, hi, hf, hlo, hup, H⟩ := hrel
    by_cases him : i < m
    · by_cases hps : p < s.size
      · by_cases h42 : bt s p = 42
        · by_cases hl : p + 1 = s.size
          · have E : Hid (G (bt s) s.size z m 0 0 = true) := inv_star_last H.out hl h42
            have hl' : (((p : Int) + 1) == (s.size : Int)) = true := by rw [beq_iff_eq]; omega
            clear hl
            go_wp2
            go_ret
            exact ⟨ret_bool (by rw [E.out]), _, rfl⟩
          · have E : Hid (GInv (bt s) s.size z m (p + 1) i ((p + 1 : Nat) : Int) i) := inv_star H.out hps h42
            have hms : Hid (gM s.size m i ((p + 1 : Nat) : Int) i < gM s.size m i rt fr) := gM_star hup hlo (by omega)
            go_wp2
            go_roundw
            case rel => exact ⟨p + 1, i, i, ((p + 1 : Nat) : Int), k, by go_num, rfl, by go_num, rfl, rfl, by omega, by omega, by omega, by omega, by omega, E⟩
            case measure => simpa [intOf] using hms.out
        · have c1 := HC.out i him
          have z1 := HZ.out i
          cases hmb : mbB (bt s) s.size p (z i)
          · have hg := no_elem (m := m) hps h42 hmb
            by_cases hr : rt < 0
            · have E : Hid (G (bt s) s.size z m 0 0 = false) := inv_no H.out hg hr
              clear hg H
              go_wp2_with (go_at_call 28; refine (matchByte_any _ _ _ _ (by omega) (by omega) (by omega)).mono ?_; rintro e w' ⟨rfl, k2, rfl⟩)
              go_ret
              exact ⟨ret_bool (by rw [E.out]), _, rfl⟩
            · obtain ⟨r, rfl⟩ : ∃ r : Nat, rt = r := ⟨rt.toNat, by omega⟩
              have E : Hid (GInv (bt s) s.size z m r (fr + 1) r (fr + 1)) := inv_retry H.out hg (by omega) him
              have hms : Hid (gM s.size m (fr + 1) r (fr + 1) < gM s.size m i r fr) := gM_retry hf him
              clear hg H
              go_wp2_with (go_at_call 28; refine (matchByte_any _ _ _ _ (by omega) (by omega) (by omega)).mono ?_; rintro e w' ⟨rfl, k2, rfl⟩)
              go_roundw
              case rel => exact ⟨r, fr + 1, fr + 1, r, _, rfl, by go_num, rfl, by go_num, rfl, by omega, by omega, by omega, by omega, by omega, E⟩
              case measure => simpa [intOf] using hms.out
          · have E : Hid (GInv (bt s) s.size z m (mbN (bt s) s.size p) (i + 1) rt fr) := inv_elem H.out hps h42 him hmb
            have hms : Hid (gM s.size m (i + 1) rt fr < gM s.size m i rt fr) := gM_elem him
            have g := mbN_bd (bt s) s.size p hps
            clear H
            go_wp2_with (go_at_call 28; refine (matchByte_any _ _ _ _ (by omega) (by omega) (by omega)).mono ?_; rintro e w' ⟨rfl, k2, rfl⟩)
            go_roundw
            case rel => exact ⟨mbN (bt s) s.size p, i + 1, fr, rt, _, rfl, by go_num, rfl, rfl, rfl, by omega, by omega, by omega, by omega, by omega, E⟩
            case measure => simpa [intOf] using hms.out
      · have hg := no_end (f := bt s) (z := z) hps him
        by_cases hr : rt < 0
        · have E : Hid (G (bt s) s.size z m 0 0 = false) := inv_no H.out hg hr
          clear hg H
          go_wp2
          go_ret
          exact ⟨ret_bool (by rw [E.out]), _, rfl⟩
        · obtain ⟨r, rfl⟩ : ∃ r : Nat, rt = r := ⟨rt.toNat, by omega⟩
          have E : Hid (GInv (bt s) s.size z m r (fr + 1) r (fr + 1)) := inv_retry H.out hg (by omega) him
          have hms : Hid (gM s.size m (fr + 1) r (fr + 1) < gM s.size m i r fr) := gM_retry hf him
          clear hg H
          go_wp2
          go_roundw
          case rel => exact ⟨r, fr + 1, fr + 1, r, _, rfl, by go_num, rfl, by go_num, rfl, by omega, by omega, by omega, by omega, by omega, E⟩
          case measure => simpa [intOf] using hms.out
    · have E : Hid (G (bt s) s.size z m p m = G (bt s) s.size z m 0 0) := inv_exit H.out him
      clear H
      go_wp2
      go_loop [5] (fun x => ∃ y : Nat, y ≤ s.size ∧ x = .int .i64 y ∧ Hid (G (bt s) s.size z m y m = G (bt s) s.size z m 0 0)) (fun x => s.size - (intOf x).toNat)
      case atStart => exact ⟨p, hp, rfl, E⟩
      case round =>
        clear E
        obtain ⟨y, hy, rfl, E⟩ := hrel
        by_cases hys : y < s.size
        · by_cases h42 : bt s y = 42
          · have E' : Hid (G (bt s) s.size z m (y + 1) m = G (bt s) s.size z m 0 0) := by rw [← E.out]; exact G_skip hys h42
            go_wp2
            go_round
            case rel => exact ⟨y + 1, by omega, by go_num, E'⟩
            case measure => simp [intOf]; omega
          · have E' : Hid (G (bt s) s.size z m 0 0 = false) := by rw [← E.out]; exact G_last_no hys h42
            have hne : ((y : Int) == (s.size : Int)) = false := by simp; omega
            go_wp2
            go_ret
            exact ⟨ret_bool (by rw [E'.out]), _, rfl⟩
        · have E' : Hid (G (bt s) s.size z m 0 0 = true) := by rw [← E.out]; exact G_last_end hys
          have hne : ((y : Int) == (s.size : Int)) = true := by rw [beq_iff_eq]; omega
          go_wp2
          go_ret
          exact ⟨ret_bool (by rw [E'.out]), _, rfl⟩

set_option maxHeartbeats 2000000 in
set_option maxRecDepth 100000 in
theorem matchGlob_empty (s : ByteArray) (ao : Option Addr) (cap : Nat) (z : Nat → Nat) (w : World) (hs : s.size ≤ 1048576) :
    Calls Try.prog 25 #[.string s, .slice ao 0 cap] w fun e w' => e = .returned (.bool (G (bt s) s.size z 0 0 0)) ∧ ∃ k, w' = w.drewN k := by
  have hb : ∀ k (h : k < s.size), (s[k]'h).toNat = bt s k := bt_eq s
  go_enter Try.func25, Try.ntmps25
  go_wp2
  go_loop [5, 6] (fun sp si => sp = .int .i64 0 ∧ si = .int .i64 0) (fun _ _ => 0)
  case atStart => exact ⟨rfl, rfl⟩
  case round =>
    obtain ⟨rfl, rfl⟩ := hrel
    go_wp2
    go_loop [5] (fun x => ∃ y : Nat, y ≤ s.size ∧ x = .int .i64 y ∧ Hid (G (bt s) s.size z 0 y 0 = G (bt s) s.size z 0 0 0)) (fun x => s.size - (intOf x).toNat)
    case atStart => exact ⟨0, by omega, rfl, rfl⟩
    case round =>
      obtain ⟨y, hy, rfl, E⟩ := hrel
      by_cases hys : y < s.size
      · by_cases h42 : bt s y = 42
        · have E' : Hid (G (bt s) s.size z 0 (y + 1) 0 = G (bt s) s.size z 0 0 0) := by rw [← E.out]; exact G_skip hys h42
          go_wp2
          go_round
          case rel => exact ⟨y + 1, by omega, by go_num, E'⟩
          case measure => simp [intOf]; omega
        · have E' : Hid (G (bt s) s.size z 0 0 0 = false) := by rw [← E.out]; exact G_last_no hys h42
          have hne : ((y : Int) == (s.size : Int)) = false := by simp; omega
          go_wp2
          go_ret
          exact ⟨ret_bool (by rw [E'.out]), 0, rfl⟩
      · have E' : Hid (G (bt s) s.size z 0 0 0 = true) := by rw [← E.out]; exact G_last_end hys
        have hne : ((y : Int) == (s.size : Int)) = true := by rw [beq_iff_eq]; omega
        go_wp2
        go_ret
        exact ⟨ret_bool (by rw [E'.out]), 0, rfl⟩

theorem matchGlob_any (s : ByteArray) (ao : Option Addr) (m cap : Nat) (z : Nat → Nat) (w : World) (hs : s.size ≤ 1048576) (hm : m ≤ 1048576) (hz : ∀ i, z i < 256) (hc : Bytes w ao m z) :
    Calls Try.prog 25 #[.string s, .slice ao m cap] w fun e w' => e = .returned (.bool (G (bt s) s.size z m 0 0)) ∧ ∃ k, w' = w.drewN k := by
  rcases hc with rfl | ⟨b, off, rfl, hc⟩
  · exact matchGlob_empty s ao cap z w hs
  · exact matchGlob_at s b off m cap z w hs hm hz hc

theorem zzMatchGlob_any (s : ByteArray) (ao : Option Addr) (m cap : Nat) (z : Nat → Nat) (w : World) (hs : s.size ≤ 1048576) (hm : m ≤ 1048576) (hz : ∀ i, z i < 256) (hc : Bytes w ao m z) :
    Calls Try.prog 12 #[.string s, .slice ao m cap] w fun e w' => e = .returned (.bool (G (bt s) s.size z m 0 0)) ∧ ∃ k, w' = w.drewN k := by
  have HZ : Hid (∀ i, z i < 256) := hz
  have HC : Hid (Bytes w ao m z) := hc
  clear hz hc
  go_enter Try.func12, Try.ntmps12
  go_wp2_with (go_at_call 25; refine (matchGlob_any _ _ _ _ z _ (by omega) (by omega) HZ.out HC.out).mono ?_; rintro e w' ⟨rfl, k, rfl⟩)
  go_ret
  exact ⟨rfl, _, rfl⟩
end Go.Proofs.Qxb6603803a
