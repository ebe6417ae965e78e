/-
  THE WALK of ScanNumber (6).
-/
import Derived.Test.Qxb6619344aRun
import Derived.Deep.CutBlock
namespace Go.Proofs.Qxb6619344a
open Go.RowKit
set_option linter.unusedSimpArgs false

theorem hide {p : Prop} (h : p) : Hid p := h

/-- The closure's contract at whatever number the captured variable holds. -/
theorem digits_any (s : ByteArray) (x : Int) (hs : s.size ≤ maxLen) (h0 : 0 ≤ x) (h1 : x ≤ s.size) (w : World) :
    Calls Try.prog 13 #[.pointer (some ⟨w.heap.size + 1, 0, none⟩), .pointer (some ⟨w.heap.size, 0, none⟩)] ((w.alloc (.cells #[.string s] 9)).alloc (.cells #[.int .i64 x] 3)) fun e w' =>
      e = .returned (.bool (decide (x.toNat < Num.digits (nums s) x.toNat))) ∧ w' = (w.alloc (.cells #[.string s] 9)).alloc (.cells #[.int .i64 (Num.digits (nums s) x.toNat)] 3) := by
  obtain ⟨n, rfl⟩ := Int.eq_ofNat_of_zero_le h0
  rw [Int.toNat_natCast]
  exact digits_calls s n hs (by omega) w

/-- Does a point stand at k? -/
def dotB (s : ByteArray) (k : Nat) : Bool := decide (k < s.size ∧ Num.ch (nums s) k = 46)
theorem dotB_spec (s : ByteArray) (k : Nat) : dotB s k = decide (k < (nums s).length ∧ Num.ch (nums s) k = 46) := by rw [nums_length]; rfl
/-- Does an exponent's mark stand at k? -/
def expB (s : ByteArray) (k : Nat) : Bool := decide (k < s.size ∧ Num.expMark (Num.ch (nums s) k) = true)
/-- Does a sign stand at k? -/
def signB (s : ByteArray) (k : Nat) : Bool := decide (k < s.size ∧ Num.sign (Num.ch (nums s) k) = true)

set_option maxHeartbeats 1000000 in
theorem scan_calls (s : ByteArray) (hs : s.size ≤ maxLen) (w : World) :
    Calls Try.prog 6 #[.string s] w fun e w' => e = .returned (.tuple #[.int .i64 (Num.scan (nums s)).1, .bool (Num.scan (nums s)).2]) ∧ ∃ k : Nat, w' = (w.alloc (.cells #[.string s] 9)).alloc (.cells #[.int .i64 k] 3) := by
  have hmf : ∀ (fn : Fn) (first cap : Array Value) (w : World), (Instr.makeFunc fn first cap).run Try.prog w = .ok (.func fn first cap) w := fun _ _ _ _ => rfl
  have hl := nums_length s
  have hs2 : s.size ≤ 9223372036854775807 := hs
  have HL : Hid ((nums s).length = s.size) := hl
  clear hl
  go_enter Try.func6, Try.ntmps6
  go_upto_block 0 with fail
  go_cut [] from 7 (fun wx => ∃ k : Nat, k ≤ s.size ∧ Hid (Num.scan (nums s) = Num.scanFrac (nums s) k) ∧ wx = (w.alloc (.cells #[.string s] 9)).alloc (.cells #[.int .i64 k] 3))
  case first =>
    go_wp2_with fail
    refine (hasPrefix_calls s _ hs _).mono ?_
    rintro e w' ⟨rfl, rfl⟩
    by_cases hz : 0 < s.size ∧ Num.ch (nums s) 0 = 48
    · go_wp2_with fail
      go_meet
      case rel => exact ⟨1, by omega, by show _ = _; unfold Num.scan; rw [HL.out, if_pos hz], rfl⟩
    · go_wp2_with fail
      refine (digits_any s _ hs (by omega) (by omega) _).mono ?_
      rintro e w' ⟨rfl, rfl⟩
      rw [show (0 : Int).toNat = 0 from rfl]
      have hf := Num.digits_facts (nums s) 0 (by omega)
      by_cases hd : 0 < Num.digits (nums s) 0
      · go_wp2_with fail
        go_meet
        case rel => exact ⟨Num.digits (nums s) 0, by have := HL.out; omega, by show _ = _; unfold Num.scan; rw [HL.out, if_neg hz, if_pos hd], rfl⟩
      · go_wp2_with fail
        go_ret2
        refine ⟨?_, Num.digits (nums s) 0, rfl⟩
        unfold Num.scan; rw [HL.out, if_neg hz, if_neg hd]; rfl
  case rest =>
    obtain ⟨k, hk, HK, rfl⟩ := hcut
    go_upto_region 7 with fail
    go_cut [25] from 7 (fun s25 wx => s25 = .bool (dotB s k) ∧ wx = (w.alloc (.cells #[.string s] 9)).alloc (.cells #[.int .i64 k] 3))
    case first =>
      by_cases hlt : k < s.size
      · have HC : Hid (Num.ch (nums s) k = s[k].toNat) := nums_ch s k hlt
        by_cases hp : s[k].toNat = 46
        · go_wp2_with fail
          go_meet
          case rel => exact ⟨by simp [dotB, hlt, HC.out, hp], rfl⟩
        · have hp' : ((s[k].toNat : Int) == 46) = false := by simp; omega
          go_wp2_with fail
          go_meet
          case rel => exact ⟨by simp [dotB, hlt, HC.out, hp], rfl⟩
      · go_wp2_with fail
        go_meet
        case rel => exact ⟨by simp [dotB, hlt], rfl⟩
    case rest =>
      obtain ⟨rfl, rfl⟩ := hcut
      go_upto_if 25 with fail
      go_cut [] from 7 (fun wx => ∃ k : Nat, k ≤ s.size ∧ Hid (Num.scan (nums s) = Num.scanExp (nums s) k) ∧ wx = (w.alloc (.cells #[.string s] 9)).alloc (.cells #[.int .i64 k] 3))
      case first =>
        by_cases hdot : k < s.size ∧ Num.ch (nums s) k = 46
        · have hb : dotB s k = true := by simp [dotB, hdot]
          have hlt := hdot.1
          have HD := hide hdot
          clear hdot
          rw [hb]
          go_wp2_with fail
          refine (digits_any s _ hs (by omega) (by omega) _).mono ?_
          rintro e w' ⟨rfl, rfl⟩
          rw [show ((k : Int) + 1).toNat = k + 1 from by omega]
          have hf := Num.digits_facts (nums s) (k + 1) (by rw [HL.out]; omega)
          by_cases hd : k + 1 < Num.digits (nums s) (k + 1)
          · go_wp2_with fail
            go_meet
            case rel => exact ⟨Num.digits (nums s) (k + 1), by have := HL.out; omega, by show _ = _; rw [HK.out]; unfold Num.scanFrac; rw [HL.out, if_pos HD.out, if_pos hd], rfl⟩
          · go_wp2_with fail
            go_ret2
            refine ⟨?_, Num.digits (nums s) (k + 1), rfl⟩
            rw [HK.out]; unfold Num.scanFrac; rw [HL.out, if_pos HD.out, if_neg hd]; rfl
        · have hb : dotB s k = false := by simp only [dotB, decide_eq_false_iff_not]; exact hdot
          have HD := hide hdot
          clear hdot
          rw [hb]
          go_wp2_with fail
          go_meet
          case rel => exact ⟨k, hk, by show _ = _; rw [HK.out]; unfold Num.scanFrac; rw [HL.out, if_neg HD.out], rfl⟩
      case rest =>
        clear HK hk k
        obtain ⟨k, hk, HK, rfl⟩ := hcut
        by_cases hexp : k < s.size ∧ Num.expMark (Num.ch (nums s) k) = true
        · have hlt := hexp.1
          have HE := hide hexp
          have he : s[k].toNat = 101 ∨ s[k].toNat = 69 := by have h2 := hexp.2; rw [nums_ch s k hlt] at h2; simpa [Num.expMark] using h2
          clear hexp
          go_upto_region 11 with fail
          go_cut [47] from 7 (fun s47 wx => s47 = .bool true ∧ wx = (w.alloc (.cells #[.string s] 9)).alloc (.cells #[.int .i64 k] 3))
          case first =>
            rcases he with he | he
            · go_wp2_with fail
              go_meet
              case rel => exact ⟨rfl, rfl⟩
            · have h1 : ((s[k].toNat : Int) == 101) = false := by simp; omega
              go_wp2_with fail
              go_meet
              case rel => exact ⟨by simp [he], rfl⟩
          case rest =>
            obtain ⟨rfl, rfl⟩ := hcut
            clear he
            go_upto_region 13 with fail
            by_cases hsg : k + 1 < s.size ∧ Num.sign (Num.ch (nums s) (k + 1)) = true
            · have hlt1 := hsg.1
              have HS := hide hsg
              have he : s[k + 1].toNat = 43 ∨ s[k + 1].toNat = 45 := by have h2 := hsg.2; rw [nums_ch s (k + 1) hlt1] at h2; simpa [Num.sign] using h2
              clear hsg
              go_cut [65] from 7 (fun s65 wx => s65 = .bool true ∧ wx = (w.alloc (.cells #[.string s] 9)).alloc (.cells #[.int .i64 ((k : Int) + 1)] 3))
              case first =>
                rcases he with he | he
                · go_wp2_with fail
                  go_meet
                  case rel => exact ⟨rfl, rfl⟩
                · have h1 : ((s[k + 1].toNat : Int) == 43) = false := by simp; omega
                  go_wp2_with fail
                  go_meet
                  case rel => exact ⟨by simp [he], rfl⟩
              case rest =>
                obtain ⟨rfl, rfl⟩ := hcut
                clear he
                go_wp2_with fail
                refine (digits_any s _ hs (by omega) (by omega) _).mono ?_
                rintro e w' ⟨rfl, rfl⟩
                rw [show ((k : Int) + 1 + 1).toNat = k + 2 from by omega]
                have hfin : Num.scan (nums s) = (Num.digits (nums s) (k + 2), decide (k + 2 < Num.digits (nums s) (k + 2))) := by
                  rw [HK.out]; unfold Num.scanExp; rw [HL.out, if_pos HE.out, if_pos HS.out]
                have HF := hide hfin
                clear hfin
                by_cases hd : k + 2 < Num.digits (nums s) (k + 2)
                · go_wp2_with fail
                  go_ret2
                  refine ⟨?_, Num.digits (nums s) (k + 2), rfl⟩
                  rw [HF.out]; simp [hd]
                · go_wp2_with fail
                  go_ret2
                  refine ⟨?_, Num.digits (nums s) (k + 2), rfl⟩
                  rw [HF.out]; simp [hd]
            · have HS := hide hsg
              go_cut [65] from 7 (fun s65 wx => s65 = .bool false ∧ wx = (w.alloc (.cells #[.string s] 9)).alloc (.cells #[.int .i64 ((k : Int) + 1)] 3))
              case first =>
                by_cases hlt1 : k + 1 < s.size
                · have hne : ¬ (s[k + 1].toNat = 43 ∨ s[k + 1].toNat = 45) := fun h => hsg ⟨hlt1, by rw [nums_ch s (k + 1) hlt1]; simpa [Num.sign] using h⟩
                  have h1 : ((s[k + 1].toNat : Int) == 43) = false := by simp; omega
                  have h2 : ((s[k + 1].toNat : Int) == 45) = false := by simp; omega
                  clear hsg hne
                  go_wp2_with fail
                  go_meet
                  case rel => exact ⟨by simp [h2], rfl⟩
                · clear hsg
                  go_wp2_with fail
                  go_meet
                  case rel => exact ⟨rfl, rfl⟩
              case rest =>
                obtain ⟨rfl, rfl⟩ := hcut
                clear hsg
                go_wp2_with fail
                refine (digits_any s _ hs (by omega) (by omega) _).mono ?_
                rintro e w' ⟨rfl, rfl⟩
                rw [show ((k : Int) + 1).toNat = k + 1 from by omega]
                have hfin : Num.scan (nums s) = (Num.digits (nums s) (k + 1), decide (k + 1 < Num.digits (nums s) (k + 1))) := by
                  rw [HK.out]; unfold Num.scanExp; rw [HL.out, if_pos HE.out, if_neg HS.out]
                have HF := hide hfin
                clear hfin
                by_cases hd : k + 1 < Num.digits (nums s) (k + 1)
                · go_wp2_with fail
                  go_ret2
                  refine ⟨?_, Num.digits (nums s) (k + 1), rfl⟩
                  rw [HF.out]; simp [hd]
                · go_wp2_with fail
                  go_ret2
                  refine ⟨?_, Num.digits (nums s) (k + 1), rfl⟩
                  rw [HF.out]; simp [hd]
        · have HE := hide hexp
          by_cases hlt : k < s.size
          · have hne : ¬ (s[k].toNat = 101 ∨ s[k].toNat = 69) := fun h => hexp ⟨hlt, by rw [nums_ch s k hlt]; simpa [Num.expMark] using h⟩
            have h1 : ((s[k].toNat : Int) == 101) = false := by simp; omega
            have h2 : ((s[k].toNat : Int) == 69) = false := by simp; omega
            clear hexp hne
            go_wp2_with fail
            go_ret2
            refine ⟨?_, k, rfl⟩
            rw [HK.out]; unfold Num.scanExp; rw [HL.out, if_neg HE.out]; rfl
          · clear hexp
            go_wp2_with fail
            go_ret2
            refine ⟨?_, k, rfl⟩
            rw [HK.out]; unfold Num.scanExp; rw [HL.out, if_neg HE.out]; rfl

end Go.Proofs.Qxb6619344a
