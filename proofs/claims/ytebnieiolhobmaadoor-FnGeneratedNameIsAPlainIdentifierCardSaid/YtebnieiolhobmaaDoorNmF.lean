/-
  js_ast.GenerateNonUniqueNameFromPath, and the law's walk; no statement of its own.
-/
import Derived.Test.YtebnieiolhobmaaDoorRows
import Derived.WalkKit
import Derived.ProofKit
import Derived.OpenShut
import Derived.Test.YtebnieiolhobmaaDoorNmA
import Derived.Test.YtebnieiolhobmaaDoorNmS
import Derived.Test.YtebnieiolhobmaaDoorNmB
import Derived.Test.YtebnieiolhobmaaDoorNmC
import Derived.Test.YtebnieiolhobmaaDoorNmD
import Derived.Test.YtebnieiolhobmaaDoorNmE
import Derived.WalkLawsBesides
import Derived.WalkSpells
import Derived.Below
import Derived.Lib.Hide
import Derived.Outline
import Derived.OwnWalk
import Derived.LoopTactic
import Derived.RegionTactic
import Derived.WalkMore
import Derived.Deep.Cut
import Derived.Deep.QuietTactic
import Derived.BigQuiet
namespace Go.Proofs.YtebnieiolhobmaaDoor
open Go.ChangeShapes Go.WideShapes Go.ChangeAt Go.RowKit
open Go.Shelf Go.Lib
set_option linter.unusedVariables false

theorem Good.on {t s n : ByteArray} (h : Good t n) (hp : Pc t s) : Good s n := by
  rcases h with h | ⟨h1, h2⟩
  · exact .inl h
  · exact .inr ⟨h1, h2.chars, h2.head, h2.last, h2.dbl, h2.sub.trans hp⟩
set_option maxRecDepth 100000 in
theorem gen_name (s : ByteArray) (w : World) (hs : s.size ≤ 1048576) (hT : Utf8Tabs 1 2 w) : Calls Tryd.prog 5 #[.string s] w (Named s w) := by
  have HT := Lib.hid hT
  have HS := Lib.hid hs
  clear hT hs
  go_enter Tryd.func5, Tryd.ntmps5
  go_wp2_with fail
  refine (path_parts s w HS.out HT.out).mono ?_
  rintro e w1 ⟨d, b, x, rfl, hd, hb, hb1⟩
  have D := Lib.hid hd
  have B := Lib.hid hb
  have B1 := Lib.hid hb1
  clear hd hb hb1
  go_wp2_with fail
  · refine (path_parts d w1 (by have := D.out.le; have := HS.out; omega) (tabs_below HT.out B1.out)).mono ?_
    rintro e w2 ⟨d2, b2, x2, rfl, hd2, hb2, hbl2⟩
    have C := Lib.hid (hb2.trans D.out)
    have B2 := Lib.hid (B1.out.trans (hbl2.mono B1.out.size))
    clear hd2 hb2 hbl2
    go_wp2_with fail
    · refine (ensure b2 w2 (by have := C.out.le; have := HS.out; omega)).mono ?_
      rintro e w3 ⟨n, rfl, hg, hb3⟩
      go_wp2_with fail
      go_ret
      exact ⟨n, rfl, hg.on C.out, B2.out.trans (hb3.mono B2.out.size)⟩
    · refine (ensure b w2 (by have := B.out.le; have := HS.out; omega)).mono ?_
      rintro e w3 ⟨n, rfl, hg, hb3⟩
      go_wp2_with fail
      go_ret
      exact ⟨n, rfl, hg.on B.out, B2.out.trans (hb3.mono B2.out.size)⟩
  · refine (ensure b w1 (by have := B.out.le; have := HS.out; omega)).mono ?_
    rintro e w3 ⟨n, rfl, hg, hb3⟩
    go_wp2_with fail
    go_ret
    exact ⟨n, rfl, hg.on B.out, B1.out.trans (hb3.mono B1.out.size)⟩
theorem letter_yes (x : Nat) (w : World) (h : isLet x) : Calls Tryd.prog 6 #[.int .u8 (x : Int)] w fun e w' => e = .returned (.bool true) ∧ w' = w := by
  rcases h with ⟨h1, h2⟩ | ⟨h1, h2⟩
  · have d1 : decide ((97 : Int) ≤ (x : Int)) = true := decide_eq_true (by omega)
    have d2 : decide ((x : Int) ≤ 122) = true := decide_eq_true (by omega)
    go_enter Tryd.func6, Tryd.ntmps6
    go_wp2_with fail
    go_ret
    exact ⟨rfl, rfl⟩
  · have d1 : decide ((97 : Int) ≤ (x : Int)) = false := decide_eq_false (by omega)
    have d2 : decide ((x : Int) ≤ 90) = true := decide_eq_true (by omega)
    have d3 : decide ((65 : Int) ≤ (x : Int)) = true := decide_eq_true (by omega)
    go_enter Tryd.func6, Tryd.ntmps6
    go_wp2_with fail
    go_ret
    exact ⟨rfl, rfl⟩
theorem letter_low (x : Nat) (w : World) (h : x < 65) : Calls Tryd.prog 6 #[.int .u8 (x : Int)] w fun e w' => e = .returned (.bool false) ∧ w' = w := by
  have d1 : decide ((97 : Int) ≤ (x : Int)) = false := decide_eq_false (by omega)
  have d3 : decide ((65 : Int) ≤ (x : Int)) = false := decide_eq_false (by omega)
  go_enter Tryd.func6, Tryd.ntmps6
  go_wp2_with fail
  go_ret
  exact ⟨rfl, rfl⟩
theorem letter_line (w : World) : Calls Tryd.prog 6 #[.int .u8 95] w fun e w' => e = .returned (.bool false) ∧ w' = w := by
  go_enter Tryd.func6, Tryd.ntmps6
  go_wp2_with fail
  go_ret
  exact ⟨rfl, rfl⟩
theorem alnum_yes (x : Nat) (w : World) (h : isLet x ∨ isDig x) : Calls Tryd.prog 7 #[.int .u8 (x : Int)] w fun e w' => e = .returned (.bool true) ∧ w' = w := by
  rcases h with h | ⟨h1, h2⟩
  · go_enter Tryd.func7, Tryd.ntmps7
    go_wp2_with fail
    refine (letter_yes x w h).mono ?_
    rintro e w' ⟨rfl, rfl⟩
    go_wp2_with fail
    go_ret
    exact ⟨rfl, rfl⟩
  · have d2 : decide ((x : Int) ≤ 57) = true := decide_eq_true (by omega)
    have d3 : decide ((48 : Int) ≤ (x : Int)) = true := decide_eq_true (by omega)
    go_enter Tryd.func7, Tryd.ntmps7
    go_wp2_with fail
    refine (letter_low x w (by omega)).mono ?_
    rintro e w' ⟨rfl, rfl⟩
    go_wp2_with fail
    go_ret
    exact ⟨rfl, rfl⟩
theorem alnum_line (w : World) : Calls Tryd.prog 7 #[.int .u8 95] w fun e w' => e = .returned (.bool false) ∧ w' = w := by
  go_enter Tryd.func7, Tryd.ntmps7
  go_wp2_with fail
  refine (letter_line w).mono ?_
  rintro e w' ⟨rfl, rfl⟩
  go_wp2_with fail
  go_ret
  exact ⟨rfl, rfl⟩
theorem alnum_eq (x : Nat) (w : World) (h : x = 95) : Calls Tryd.prog 7 #[.int .u8 (x : Int)] w fun e w' => e = .returned (.bool false) ∧ w' = w := by subst h; exact alnum_line w
theorem bytes_any (s : ByteArray) (w : World) (hs : s.size ≤ 9223372036854775807) : Calls Tryd.prog 4 #[.string s] w fun e w' => ∃ b, e = .returned (.bool b) ∧ w' = w := by
  go_enter Tryd.func4, Tryd.ntmps4
  go_wp2_with fail
  all_goals (go_ret; exact ⟨_, rfl, rfl⟩)
theorem dbl_len : ∀ bs : List Nat, (∀ i : Nat, bs[i]? = some 95 → bs[i + 1]? ≠ some 95) → bs.length ≤ 2 * (bs.filter fun c => c ≠ 95).length + 1
  | [], _ => by simp
  | [a], _ => by simp
  | a :: b :: t, h => by
    by_cases ha : a = 95
    · have hb : b ≠ 95 := fun e => h 0 (by rw [ha]; rfl) (by rw [e]; rfl)
      have := dbl_len t (fun i h1 => h (i + 2) h1)
      rw [List.filter_cons_of_neg (by simp [ha]), List.filter_cons_of_pos (by simp [hb])]
      simp only [List.length_cons]
      omega
    · have := dbl_len (b :: t) (fun i h1 => h (i + 1) h1)
      rw [List.filter_cons_of_pos (by simp [ha])]
      simp only [List.length_cons] at *
      omega
theorem name_len {s n : ByteArray} (h : Nm (bytesN s) (bytesN n)) : n.size ≤ 2 * s.size + 1 := by
  have h1 := dbl_len _ h.dbl
  have h2 := h.sub.length_le
  rw [bytesN_len] at h1 h2
  omega
theorem left_start {p n : List Nat} (h : Nm p n) : Left p n 0 0 := by
  unfold Left; simpa using h.sub
theorem get_byte (n : ByteArray) (k : Nat) (hk : k < n.size) : (bytesN n)[k]? = some (n[k]'hk).toNat := bytesN_get n k hk
set_option maxRecDepth 100000 in
set_option maxHeartbeats 4000000 in
theorem law (s : ByteArray) (w : World) (hmax : s.size ≤ 9223372036854775807) (hT : Utf8Tabs 1 2 w) : Calls Tryd.prog 3 #[.string s] w fun e w' => e = .returned (.bool true) ∧ Below w.heap.size w w' := by
  have HT := Lib.hid hT
  clear hT
  go_enter Tryd.func3, Tryd.ntmps3
  go_wp2_with fail
  refine (bytes_any s w hmax).mono ?_
  rintro e w1 ⟨b, rfl, rfl⟩
  obtain ⟨w, rfl⟩ : ∃ z : World, z = w1 := ⟨_, rfl⟩
  cases b
  · go_wp2_with fail
    go_ret
    exact ⟨rfl, Below.refl _ _⟩
  by_cases hbig : 1048576 < s.size
  · have d0 : decide ((1048576 : Int) < (s.size : Int)) = true := decide_eq_true (by omega)
    go_wp2_with fail
    go_ret
    exact ⟨rfl, Below.refl _ _⟩
  have d0 : decide ((1048576 : Int) < (s.size : Int)) = false := decide_eq_false (by omega)
  have hs : s.size ≤ 1048576 := by omega
  clear hmax hbig
  go_wp2_with fail
  refine (gen_name s w hs HT.out).mono ?_
  rintro e w3 ⟨n, rfl, hg, hb3⟩
  have B3 := Lib.hid hb3
  clear hb3 d0
  rcases hg with rfl | ⟨h0, hn⟩
  · go_wp2_with fail
    go_ret
    exact ⟨rfl, B3.out⟩
  have hle : n.size ≤ 2097153 := by have := name_len hn; omega
  have HN := Lib.hid hn
  have h0' : (0 : Int) < (n.size : Int) := by omega
  have d1 : ((n.size : Int) == 0) = false := beq_eq_false_iff_ne.2 (by omega)
  have hL : isLet (n[0]'h0).toNat := hn.head _ (get_byte n 0 h0)
  have w1 : wrap64 ((n.size : Int) - 1) = ((n.size - 1 : Nat) : Int) := by unfold wrap64; omega
  have w2 : IntKind.i64.wrap ((n.size : Int) - 1) = ((n.size - 1 : Nat) : Int) := by rw [IntWalk.i64_in _ (by omega)]; omega
  obtain ⟨q, hq⟩ : ∃ q, q = n.size - 1 := ⟨_, rfl⟩
  have hq1 : q < n.size := by omega
  have hq2 : (q : Int) < (n.size : Int) := by omega
  have hq3 : (0 : Int) ≤ (q : Int) := by omega
  rw [← hq] at w1 w2
  have hlast : (((n[q]'hq1).toNat : Int) == 95) = false := by
    have := hn.last _ (by rw [bytesN_len, ← hq]; exact get_byte n q hq1)
    exact beq_eq_false_iff_ne.2 (by omega)
  clear hn hq
  go_wp2_with fail
  · go_ret
    exact ⟨rfl, B3.out⟩
  refine (letter_yes _ w3 hL).mono ?_
  rintro e w4 ⟨rfl, rfl⟩
  go_wp2_with fail
  obtain ⟨w3, rfl⟩ : ∃ z : World, z = w4 := ⟨_, rfl⟩
  clear hlast w1 w2 d1
  go_loopw [4] (fun v wr => ∃ k : Nat, k ≤ n.size ∧ v = .int .i64 k ∧ wr = w3) (fun v _ => n.size - (RowKit.intOf v).toNat)
  case atStart => exact ⟨0, by omega, rfl, rfl⟩
  case round =>
    obtain ⟨k, hk, rfl, rfl⟩ := hrel
    obtain ⟨w3, rfl⟩ : ∃ z : World, z = wr := ⟨_, rfl⟩
    by_cases hlt : k < n.size
    · have l1 : (k : Int) < (n.size : Int) := by omega
      have l0 : (0 : Int) ≤ (k : Int) := by omega
      have hch := HN.out.chars _ (List.mem_of_getElem? (get_byte n k hlt))
      by_cases h95 : (n[k]'hlt).toNat = 95
      · have hk0 : k ≠ 0 := by
          rintro rfl
          unfold isLet at hL; omega
        obtain ⟨j, hj⟩ : ∃ j, k = j + 1 := ⟨k - 1, by omega⟩
        have hj1 : j < n.size := by omega
        have hj2 : (j : Int) < (n.size : Int) := by omega
        have hj3 : (0 : Int) ≤ (j : Int) := by omega
        have w1 : wrap64 ((k : Int) - 1) = (j : Int) := by unfold wrap64; omega
        have w2 : IntKind.i64.wrap ((k : Int) - 1) = (j : Int) := by rw [IntWalk.i64_in _ (by omega)]; omega
        have e1 : (((n[k]'hlt).toNat : Int) != 95) = false := by simp; omega
        have e2 : (((n[k]'hlt).toNat : Int) == 95) = true := beq_iff_eq.2 (by omega)
        have e3 : (((n[j]'hj1).toNat : Int) == 95) = false := by
          refine beq_eq_false_iff_ne.2 fun h => ?_
          have h1 : (bytesN n)[j]? = some 95 := by rw [get_byte n j hj1]; congr 1; omega
          refine HN.out.dbl j h1 ?_
          rw [← hj, get_byte n k hlt, h95]
        have H95 := Lib.hid h95
        clear hch h95 hj hk0
        go_wp2_with fail
        refine (alnum_eq _ w3 H95.out).mono ?_
        rintro e w5 ⟨rfl, rfl⟩
        go_wp2_with fail
        go_roundw
        case rel => exact ⟨k + 1, by omega, by go_num, by first | rfl | trivial⟩
        case measure => simp [RowKit.intOf]; omega
      · have hc2 : isLet (n[k]'hlt).toNat ∨ isDig (n[k]'hlt).toNat := by
          rcases hch with h | h | h
          · exact .inl h
          · exact .inr h
          · exact absurd h h95
        have e2 : (((n[k]'hlt).toNat : Int) == 95) = false := beq_eq_false_iff_ne.2 (by omega)
        have HC2 := Lib.hid hc2
        clear hch hc2 h95
        go_wp2_with fail
        refine (alnum_yes _ w3 HC2.out).mono ?_
        rintro e w5 ⟨rfl, rfl⟩
        go_wp2_with fail
        go_roundw
        case rel => exact ⟨k + 1, by omega, by go_num, by first | rfl | trivial⟩
        case measure => simp [RowKit.intOf]; omega
    · go_wp2_with fail
      clear hk hlt
      go_loopw [6, 7] (fun jv iv wr => ∃ a b : Nat, a ≤ s.size ∧ b ≤ n.size ∧ jv = .int .i64 a ∧ iv = .int .i64 b ∧ Hid (Left (bytesN s) (bytesN n) b a ∧ Below w.heap.size w wr)) (fun _ iv _ => n.size - (RowKit.intOf iv).toNat)
      case atStart => exact ⟨0, 0, by omega, by omega, rfl, rfl, left_start HN.out, B3.out⟩
      case round =>
        obtain ⟨a, b, ha, hb, rfl, rfl, H⟩ := hrel
        by_cases hlt : b < n.size
        · have l1 : (b : Int) < (n.size : Int) := by omega
          have l0 : (0 : Int) ≤ (b : Int) := by omega
          by_cases h95 : (n[b]'hlt).toNat = 95
          · have e2 : (((n[b]'hlt).toNat : Int) == 95) = true := beq_iff_eq.2 (by omega)
            have L1 := Lib.hid (H.out.1.skip (by rw [get_byte n b hlt, h95]))
            clear h95
            go_wp2_with fail
            go_roundw
            case rel => exact ⟨a, b + 1, by omega, by omega, rfl, by go_num, L1.out, H.out.2⟩
            case measure => simp [RowKit.intOf]; omega
          · have e2 : (((n[b]'hlt).toNat : Int) == 95) = false := beq_eq_false_iff_ne.2 (by omega)
            have H95 := Lib.hid h95
            clear h95
            go_wp2_with fail
            go_loopw [6] (fun jv wx => ∃ c : Nat, c ≤ s.size ∧ jv = .int .i64 c ∧ Hid (Left (bytesN s) (bytesN n) b c ∧ Below w.heap.size w wx)) (fun jv _ => s.size - (RowKit.intOf jv).toNat)
            case atStart => exact ⟨a, ha, rfl, H⟩
            case round =>
              obtain ⟨c, hc, rfl, HH⟩ := hrel
              have hcl : c < s.size := by
                have := HH.out.1.at_ (get_byte n b hlt) H95.out
                rw [bytesN_len] at this; exact this
              have m1 : (c : Int) < (s.size : Int) := by omega
              have m0 : (0 : Int) ≤ (c : Int) := by omega
              have m2 : decide ((s.size : Int) ≤ (c : Int)) = false := decide_eq_false (by omega)
              by_cases heq : (s[c]'hcl).toNat = (n[b]'hlt).toNat
              · have e3 : (((s[c]'hcl).toNat : Int) != ((n[b]'hlt).toNat : Int)) = false := by simp; omega
                have L1 := Lib.hid (HH.out.1.meet (get_byte n b hlt) H95.out (by rw [get_byte s c hcl, heq]))
                clear heq
                go_upto_region 23 with fail
                go_quiet (fail)
                go_wp2_with fail
                go_roundw
                case rel => exact ⟨c + 1, b + 1, by omega, by omega, by go_num, by go_num, L1.out, below_drewN HH.out.2 _⟩
                case measure => simp [RowKit.intOf]; omega
              · have e3 : (((s[c]'hcl).toNat : Int) != ((n[b]'hlt).toNat : Int)) = true := by simp; omega
                have L1 := Lib.hid (HH.out.1.pass (get_byte n b hlt) H95.out (get_byte s c hcl) heq)
                clear heq
                go_upto_region 23 with fail
                go_quiet (fail)
                go_wp2_with fail
                go_roundw
                case rel => exact ⟨c + 1, by omega, by go_num, L1.out, below_drewN HH.out.2 _⟩
                case measure => simp [RowKit.intOf]; omega
        · go_wp2_with fail
          go_ret
          exact ⟨rfl, H.out.2⟩

end Go.Proofs.YtebnieiolhobmaaDoor
