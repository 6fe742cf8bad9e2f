-- PRINTED BY print.sh 35421559b90ae4d0a3588c463048766b98c2df88dd9212a6774a882060cdf62d: not written by this session
import Derived.Test.YtlnbikcfjnloaaaGreatDoorPparseDayx0
namespace Go.Proofs.YtlnbikcfjnloaaaGreatDoor.PparseDay
open Go.RowKit Go.Proofs.YtlnbikcfjnloaaaGreatDoorW.PrintWords Go.Proofs.YtlnbikcfjnloaaaGreatDoorW.PrintLast Go.Proofs.YtlnbikcfjnloaaaGreatDoorW.PrintMore
attribute [local go_sem] max2_int min2_int max_two min_two max_three min_three max_four min_four   -- for this text's walks alone
set_option linter.unusedVariables false
set_option linter.unusedSimpArgs false

-- NOT PRINTED: function 36 (errors_New)

/-! ### goimap_isDigit: function 69 -/
def goimap_isDigit.f (a0 : ByteArray) (a1 : Int) : Option (Bool) := if a1 < (a0.size : Int) then (if 0 ≤ a1 then (if (bt a0 a1) ≥ 48 then (some (decide ((bt a0 a1) ≤ 57))) else (some false)) else (none)) else (some false)
set_option maxHeartbeats 8000000 in
set_option maxRecDepth 100000 in
theorem goimap_isDigit.calls (a0 : ByteArray) (a1 : Int) (r : Bool) (w : World) (h : goimap_isDigit.f a0 a1 = some r) :
    Calls Tryz.prog 69 #[.string a0, .int .i64 a1] w fun e w' => e = .returned (.bool r) ∧ Drawn0 w w' := by
  have H : (if a1 < (a0.size : Int) then (if 0 ≤ a1 then (if (bt a0 a1) ≥ 48 then (some (decide ((bt a0 a1) ≤ 57))) else (some false)) else (none)) else (some false)) = some r := h
  clear h
  by_cases c3 : a1 < (a0.size : Int)
  · rw [if_pos c3] at H
    have c3b0 : decide (a1 < (a0.size : Int)) = true := decide_eq_true c3
    clear c3
    by_cases c4 : 0 ≤ a1
    · rw [if_pos c4] at H
      have c4b0 : decide (0 ≤ a1) = true := decide_eq_true c4
      clear c4
      by_cases c6 : (bt a0 a1) ≥ 48
      · rw [if_pos c6] at H
        have c6b0 : decide (48 ≤ (bt a0 a1)) = true := decide_eq_true c6
        clear c6
        obtain rfl := Option.some.inj H
        have p5 : 0 ≤ (a1 : Int) := of_decide_eq_true (by first | (with_reducible assumption) | assumption)
        have q5 : a1 < (a0.size : Int) := of_decide_eq_true (by first | (with_reducible assumption) | assumption)
        have hx5 := bt_at a0 a1
        replace p5 := eq_true p5
        replace q5 := eq_true q5
        have p7 : 0 ≤ (a1 : Int) := of_decide_eq_true (by first | (with_reducible assumption) | assumption)
        have q7 : a1 < (a0.size : Int) := of_decide_eq_true (by first | (with_reducible assumption) | assumption)
        have hx7 := bt_at a0 a1
        replace p7 := eq_true p7
        replace q7 := eq_true q7
        go_enter Tryz.func69, Tryz.ntmps69
        go_wp2
        go_ret
        exact ⟨by first | rfl | (simp; done) | (simp [*]; done), by repeat (first | exact Drawn0.refl _ | apply Drawn0.step)⟩
      · rw [if_neg c6] at H
        have c6b0 : decide (48 ≤ (bt a0 a1)) = false := decide_eq_false c6
        clear c6
        obtain rfl := Option.some.inj H
        have p5 : 0 ≤ (a1 : Int) := of_decide_eq_true (by first | (with_reducible assumption) | assumption)
        have q5 : a1 < (a0.size : Int) := of_decide_eq_true (by first | (with_reducible assumption) | assumption)
        have hx5 := bt_at a0 a1
        replace p5 := eq_true p5
        replace q5 := eq_true q5
        go_enter Tryz.func69, Tryz.ntmps69
        go_wp2
        go_ret
        exact ⟨by first | rfl | (simp; done) | (simp [*]; done), by repeat (first | exact Drawn0.refl _ | apply Drawn0.step)⟩
    · rw [if_neg c4] at H
      exact absurd H (by simp)
  · rw [if_neg c3] at H
    have c3b0 : decide (a1 < (a0.size : Int)) = false := decide_eq_false c3
    clear c3
    obtain rfl := Option.some.inj H
    go_enter Tryz.func69, Tryz.ntmps69
    go_wp2
    go_ret
    exact ⟨by first | rfl | (simp; done) | (simp [*]; done), by repeat (first | exact Drawn0.refl _ | apply Drawn0.step)⟩

/-! ### goimap_monthNames: function 70 -/
def goimap_monthNames.f  : Option (ByteArray) := some (⟨#[74, 97, 110, 70, 101, 98, 77, 97, 114, 65, 112, 114, 77, 97, 121, 74, 117, 110, 74, 117, 108, 65, 117, 103, 83, 101, 112, 79, 99, 116, 78, 111, 118, 68, 101, 99]⟩ : ByteArray)
set_option maxHeartbeats 8000000 in
set_option maxRecDepth 100000 in
theorem goimap_monthNames.calls  (r : ByteArray) (w : World) (h : goimap_monthNames.f  = some r) :
    Calls Tryz.prog 70 #[] w fun e w' => e = .returned (.string r) ∧ Drawn0 w w' := by
  have H : (some (⟨#[74, 97, 110, 70, 101, 98, 77, 97, 114, 65, 112, 114, 77, 97, 121, 74, 117, 110, 74, 117, 108, 65, 117, 103, 83, 101, 112, 79, 99, 116, 78, 111, 118, 68, 101, 99]⟩ : ByteArray)) = some r := h
  clear h
  obtain rfl := Option.some.inj H
  go_enter Tryz.func70, Tryz.ntmps70
  go_wp2
  go_ret
  exact ⟨by first | rfl | (simp; done) | (simp [*]; done), by repeat (first | exact Drawn0.refl _ | apply Drawn0.step)⟩

/-! ### goimap_leap: function 97 -/
def goimap_leap.f (a0 : Int) : Option (Bool) := if (Int.tmod a0 4) = 0 then (if (Int.tmod a0 100) = 0 then (some ((Int.tmod a0 400) == 0)) else (some true)) else (some false)
set_option maxHeartbeats 8000000 in
set_option maxRecDepth 100000 in
theorem goimap_leap.calls (a0 : Int) (r : Bool) (w : World) (h : goimap_leap.f a0 = some r) :
    Calls Tryz.prog 97 #[.int .i64 a0] w fun e w' => e = .returned (.bool r) ∧ Drawn0 w w' := by
  have H : (if (Int.tmod a0 4) = 0 then (if (Int.tmod a0 100) = 0 then (some ((Int.tmod a0 400) == 0)) else (some true)) else (some false)) = some r := h
  clear h
  by_cases c2 : (Int.tmod a0 4) = 0
  · rw [if_pos c2] at H
    have c2b0 : ((Int.tmod a0 4) == 0) = true := beq_iff_eq.mpr c2
    have c2b1 : ((Int.tmod a0 4) != 0) = false := bne_eq_false_iff_eq.mpr c2
    clear c2
    by_cases c3 : (Int.tmod a0 100) = 0
    · rw [if_pos c3] at H
      have c3b0 : ((Int.tmod a0 100) == 0) = true := beq_iff_eq.mpr c3
      have c3b1 : ((Int.tmod a0 100) != 0) = false := bne_eq_false_iff_eq.mpr c3
      clear c3
      obtain rfl := Option.some.inj H
      go_enter Tryz.func97, Tryz.ntmps97
      go_wp2
      go_ret
      exact ⟨by first | rfl | (simp; done) | (simp [*]; done), by repeat (first | exact Drawn0.refl _ | apply Drawn0.step)⟩
    · rw [if_neg c3] at H
      have c3b0 : ((Int.tmod a0 100) == 0) = false := beq_eq_false_iff_ne.mpr c3
      have c3b1 : ((Int.tmod a0 100) != 0) = true := bne_iff_ne.mpr c3
      obtain rfl := Option.some.inj H
      go_enter Tryz.func97, Tryz.ntmps97
      go_wp2
      go_ret
      exact ⟨by first | rfl | (simp; done) | (simp [*]; done), by repeat (first | exact Drawn0.refl _ | apply Drawn0.step)⟩
  · rw [if_neg c2] at H
    have c2b0 : ((Int.tmod a0 4) == 0) = false := beq_eq_false_iff_ne.mpr c2
    have c2b1 : ((Int.tmod a0 4) != 0) = true := bne_iff_ne.mpr c2
    obtain rfl := Option.some.inj H
    go_enter Tryz.func97, Tryz.ntmps97
    go_wp2
    go_ret
    exact ⟨by first | rfl | (simp; done) | (simp [*]; done), by repeat (first | exact Drawn0.refl _ | apply Drawn0.step)⟩

/-! ### goimap_daysIn: function 71 -/
def goimap_daysIn.f (a0 : Int) (a1 : Int) : Option (Int) := if a0 = 2 then ((goimap_leap.f a1).bind fun t102 => (if t102 = true then (some 29) else (some 28))) else (if a0 = 4 then (some 30) else (if a0 = 6 then (some 30) else (if a0 = 9 then (some 30) else (if a0 = 11 then (some 30) else (some 31)))))
set_option maxHeartbeats 8000000 in
set_option maxRecDepth 100000 in
theorem goimap_daysIn.calls (a0 : Int) (a1 : Int) (r : Int) (w : World) (h : goimap_daysIn.f a0 a1 = some r) :
    Calls Tryz.prog 71 #[.int .i64 a0, .int .i64 a1] w fun e w' => e = .returned (.int .i64 r) ∧ Drawn0 w w' := by
  have H : (if a0 = 2 then ((goimap_leap.f a1).bind fun t102 => (if t102 = true then (some 29) else (some 28))) else (if a0 = 4 then (some 30) else (if a0 = 6 then (some 30) else (if a0 = 9 then (some 30) else (if a0 = 11 then (some 30) else (some 31)))))) = some r := h
  clear h
  by_cases c3 : a0 = 2
  · rw [if_pos c3] at H
    have c3b0 : (a0 == 2) = true := beq_iff_eq.mpr c3
    have c3b1 : (a0 != 2) = false := bne_eq_false_iff_eq.mpr c3
    clear c3
    replace H := Option.bind_eq_some_iff.mp H
    obtain ⟨t102, A40, H⟩ := H
    replace H : (if t102 = true then (some 29) else (some 28)) = some r := H
    have A4 := Aside0.mk A40
    clear A40
    by_cases c5 : t102 = true
    · subst c5
      have H1 : (some 29) = some r := by rw [if_pos rfl] at H; exact H
      clear H
      have H := H1
      clear H1
      obtain rfl := Option.some.inj H
      go_enter Tryz.func71, Tryz.ntmps71
      go_wp2_with (first | ((with_reducible refine gate_callee (f := 97) rfl ?_); refine goesL_ (some 9) rfl rfl Tryz.func97 (by kernel_rfl) rfl #[.int .i64 a1] rfl (by (try simp only [List.map_toArray, List.map_cons, List.map_nil]); first | done | rfl | (simp only [List.length_drop, List.length_take]; rfl)) ?_; (with_reducible refine (goimap_leap.calls a1 true _ A4.out).mono ?_); rintro e w' ⟨rfl, ⟨nd, rfl⟩⟩; refine ⟨_, rfl, ?_⟩))
      go_ret
      exact ⟨by first | rfl | (simp; done) | (simp [*]; done), by repeat (first | exact Drawn0.refl _ | apply Drawn0.step)⟩
    · replace c5 := Bool.eq_false_iff.mpr c5
      subst c5
      have H1 : (some 28) = some r := by rw [if_neg (show ¬ (false = true) by decide)] at H; exact H
      clear H
      have H := H1
      clear H1
      obtain rfl := Option.some.inj H
      go_enter Tryz.func71, Tryz.ntmps71
      go_wp2_with (first | ((with_reducible refine gate_callee (f := 97) rfl ?_); refine goesL_ (some 9) rfl rfl Tryz.func97 (by kernel_rfl) rfl #[.int .i64 a1] rfl (by (try simp only [List.map_toArray, List.map_cons, List.map_nil]); first | done | rfl | (simp only [List.length_drop, List.length_take]; rfl)) ?_; (with_reducible refine (goimap_leap.calls a1 false _ A4.out).mono ?_); rintro e w' ⟨rfl, ⟨nd, rfl⟩⟩; refine ⟨_, rfl, ?_⟩))
      go_ret
      exact ⟨by first | rfl | (simp; done) | (simp [*]; done), by repeat (first | exact Drawn0.refl _ | apply Drawn0.step)⟩
  · rw [if_neg c3] at H
    have c3b0 : (a0 == 2) = false := beq_eq_false_iff_ne.mpr c3
    have c3b1 : (a0 != 2) = true := bne_iff_ne.mpr c3
    by_cases c6 : a0 = 4
    · rw [if_pos c6] at H
      have c6b0 : (a0 == 4) = true := beq_iff_eq.mpr c6
      have c6b1 : (a0 != 4) = false := bne_eq_false_iff_eq.mpr c6
      clear c6
      obtain rfl := Option.some.inj H
      go_enter Tryz.func71, Tryz.ntmps71
      go_wp2
      go_ret
      exact ⟨by first | rfl | (simp; done) | (simp [*]; done), by repeat (first | exact Drawn0.refl _ | apply Drawn0.step)⟩
    · rw [if_neg c6] at H
      have c6b0 : (a0 == 4) = false := beq_eq_false_iff_ne.mpr c6
      have c6b1 : (a0 != 4) = true := bne_iff_ne.mpr c6
      by_cases c7 : a0 = 6
      · rw [if_pos c7] at H
        have c7b0 : (a0 == 6) = true := beq_iff_eq.mpr c7
        have c7b1 : (a0 != 6) = false := bne_eq_false_iff_eq.mpr c7
        clear c7
        obtain rfl := Option.some.inj H
        go_enter Tryz.func71, Tryz.ntmps71
        go_wp2
        go_ret
        exact ⟨by first | rfl | (simp; done) | (simp [*]; done), by repeat (first | exact Drawn0.refl _ | apply Drawn0.step)⟩
      · rw [if_neg c7] at H
        have c7b0 : (a0 == 6) = false := beq_eq_false_iff_ne.mpr c7
        have c7b1 : (a0 != 6) = true := bne_iff_ne.mpr c7
        by_cases c8 : a0 = 9
        · rw [if_pos c8] at H
          have c8b0 : (a0 == 9) = true := beq_iff_eq.mpr c8
          have c8b1 : (a0 != 9) = false := bne_eq_false_iff_eq.mpr c8
          clear c8
          obtain rfl := Option.some.inj H
          go_enter Tryz.func71, Tryz.ntmps71
          go_wp2
          go_ret
          exact ⟨by first | rfl | (simp; done) | (simp [*]; done), by repeat (first | exact Drawn0.refl _ | apply Drawn0.step)⟩
        · rw [if_neg c8] at H
          have c8b0 : (a0 == 9) = false := beq_eq_false_iff_ne.mpr c8
          have c8b1 : (a0 != 9) = true := bne_iff_ne.mpr c8
          by_cases c9 : a0 = 11
          · rw [if_pos c9] at H
            have c9b0 : (a0 == 11) = true := beq_iff_eq.mpr c9
            have c9b1 : (a0 != 11) = false := bne_eq_false_iff_eq.mpr c9
            clear c9
            obtain rfl := Option.some.inj H
            go_enter Tryz.func71, Tryz.ntmps71
            go_wp2
            go_ret
            exact ⟨by first | rfl | (simp; done) | (simp [*]; done), by repeat (first | exact Drawn0.refl _ | apply Drawn0.step)⟩
          · rw [if_neg c9] at H
            have c9b0 : (a0 == 11) = false := beq_eq_false_iff_ne.mpr c9
            have c9b1 : (a0 != 11) = true := bne_iff_ne.mpr c9
            obtain rfl := Option.some.inj H
            go_enter Tryz.func71, Tryz.ntmps71
            go_wp2
            go_ret
            exact ⟨by first | rfl | (simp; done) | (simp [*]; done), by repeat (first | exact Drawn0.refl _ | apply Drawn0.step)⟩

/-! ### goimap_dayOf: function 72 -/
def goimap_dayOf.l0 : Nat → Int → Int → Int → Int → Option (Int)
  | 0, _, _, _, _ => none
  | k + 1, x0, x1, x7, x8 => if x8 < x1 then ((goimap_daysIn.f x8 x0).bind fun t103 => (goimap_dayOf.l0 k x0 x1 (wrap64 (x7 + t103)) (wrap64 (x8 + 1)))) else (if (wrap64 (x0 - 1)) < 0 then (some (wrap64 (x7 - 366))) else (some (wrap64 ((wrap64 ((wrap64 ((wrap64 (x7 + (wrap64 (365 * (wrap64 (x0 - 1)))))) + (wrap64 (Int.tdiv (wrap64 (x0 - 1)) 4)))) - (wrap64 (Int.tdiv (wrap64 (x0 - 1)) 100)))) + (wrap64 (Int.tdiv (wrap64 (x0 - 1)) 400))))))
def goimap_dayOf.f (k : Nat) (a0 : Int) (a1 : Int) (a2 : Int) : Option (Int) := goimap_dayOf.l0 k a0 a1 (wrap64 (a2 - 1)) 1
theorem goimap_dayOf.mono_l : ∀ k, (∀ y0 y1 y2 y3, LeO (goimap_dayOf.l0 k y0 y1 y2 y3) (goimap_dayOf.l0 (k + 1) y0 y1 y2 y3))
  | 0 => fun _ _ _ _ r h => by simp [goimap_dayOf.l0] at h
  | k + 1 => by
    have ih0 := goimap_dayOf.mono_l k
    · intro y0 y1 y2 y3
      unfold goimap_dayOf.l0
      repeat' first
      | (with_reducible exact ih0 _ _ _ _)
      | (with_reducible exact LeO.refl _)
      | (with_reducible exact LeO.none _)
      | (with_reducible refine LeO.ite ?_ ?_)
      | (with_reducible refine LeO.bind ?_ (fun _ => ?_))
      | exact ih0 _ _ _ _
      | exact LeO.none _
      | refine LeO.ite ?_ ?_
      | refine LeO.bind ?_ (fun _ => ?_)
theorem goimap_dayOf.mono : ∀ a0 a1 a2 k, LeO (goimap_dayOf.f k a0 a1 a2) (goimap_dayOf.f (k + 1) a0 a1 a2) := by
  intro a0 a1 a2 k
  have ih0 := goimap_dayOf.mono_l k
  unfold goimap_dayOf.f
  repeat' first
      | (with_reducible exact ih0 _ _ _ _)
      | (with_reducible exact LeO.refl _)
      | (with_reducible exact LeO.none _)
      | (with_reducible refine LeO.ite ?_ ?_)
      | (with_reducible refine LeO.bind ?_ (fun _ => ?_))
      | exact ih0 _ _ _ _
      | exact LeO.none _
      | refine LeO.ite ?_ ?_
      | refine LeO.bind ?_ (fun _ => ?_)
set_option maxHeartbeats 8000000 in
set_option maxRecDepth 100000 in
theorem goimap_dayOf.calls (k : Nat) (a0 : Int) (a1 : Int) (a2 : Int) (r : Int) (w : World) (h : goimap_dayOf.f k a0 a1 a2 = some r) :
    Calls Tryz.prog 72 #[.int .i64 a0, .int .i64 a1, .int .i64 a2] w fun e w' => e = .returned (.int .i64 r) ∧ Drawn0 w w' := by
  have H : (goimap_dayOf.l0 k a0 a1 (wrap64 (a2 - 1)) 1) = some r := h
  clear h
  have H' := Aside0.mk H
  clear H
  go_enter Tryz.func72, Tryz.ntmps72
  go_wp2
  go_loopg [7, 8] k (fun kq v7 v8 w' => ∃ (x7_1 : Int) (x8_1 : Int), v7 = .int .i64 x7_1 ∧ v8 = .int .i64 x8_1 ∧ Aside0 (goimap_dayOf.l0 kq a0 a1 x7_1 x8_1 = some r) ∧ Aside0 (kq ≤ k) ∧ Drawn0 w w')
  case atStart => exact ⟨(wrap64 (a2 - 1)), (1), (by first | rfl | (simp; done) | (simp [*]; done)), (by first | rfl | (simp; done) | (simp [*]; done)), H', ⟨Nat.le_refl _⟩, by repeat (first | exact Drawn0.refl _ | apply Drawn0.step)⟩
  case round =>
    clear H'
    try clear p2
    obtain ⟨x7_1, x8_1, rfl, rfl, HA, HK1, ⟨m1, rfl⟩⟩ := hrel
    cases gk with
    | zero => exact absurd HA.out (by simp [goimap_dayOf.l0])
    | succ k1 =>
      have H := HA.out
      clear HA
      simp only [goimap_dayOf.l0] at H
      by_cases c4 : x8_1 < a1
      · rw [if_pos c4] at H
        have c4b0 : decide (x8_1 < a1) = true := decide_eq_true c4
        clear c4
        replace H := Option.bind_eq_some_iff.mp H
        obtain ⟨t103, A50, H⟩ := H
        replace H : (goimap_dayOf.l0 k1 a0 a1 (wrap64 (x7_1 + t103)) (wrap64 (x8_1 + 1))) = some r := H
        have A5 := Aside0.mk A50
        clear A50
        have H' := Aside0.mk H
        clear H
        go_wp2_with (first | ((with_reducible refine gate_callee (f := 71) rfl ?_); refine goesL_ (some 20) rfl rfl Tryz.func71 (by kernel_rfl) rfl #[.int .i64 x8_1, .int .i64 a0] rfl (by (try simp only [List.map_toArray, List.map_cons, List.map_nil]); first | done | rfl | (simp only [List.length_drop, List.length_take]; rfl)) ?_; (with_reducible refine (goimap_daysIn.calls x8_1 a0 t103 _ A5.out).mono ?_); rintro e w' ⟨rfl, ⟨nd, rfl⟩⟩; refine ⟨_, rfl, ?_⟩))
        go_roundg k1
        case measure => have := HK1.out; omega
        case rel => exact ⟨(wrap64 (x7_1 + t103)), (wrap64 (x8_1 + 1)), (by first | rfl | (simp; done) | (simp [*]; done)), (by first | rfl | (simp; done) | (simp [*]; done)), H', ⟨by have := HK1.out; omega⟩, by repeat (first | exact Drawn0.refl _ | apply Drawn0.step)⟩
      · rw [if_neg c4] at H
        have c4b0 : decide (x8_1 < a1) = false := decide_eq_false c4
        clear c4
        by_cases c6 : (wrap64 (a0 - 1)) < 0
        · rw [if_pos c6] at H
          have c6b0 : decide ((wrap64 (a0 - 1)) < 0) = true := decide_eq_true c6
          clear c6
          obtain rfl := Option.some.inj H
          go_wp2
          go_ret
          exact ⟨by first | rfl | (simp; done) | (simp [*]; done), by repeat (first | exact Drawn0.refl _ | apply Drawn0.step)⟩
        · rw [if_neg c6] at H
          have c6b0 : decide ((wrap64 (a0 - 1)) < 0) = false := decide_eq_false c6
          clear c6
          obtain rfl := Option.some.inj H
          go_wp2
          go_ret
          exact ⟨by first | rfl | (simp; done) | (simp [*]; done), by repeat (first | exact Drawn0.refl _ | apply Drawn0.step)⟩

-- NOT PRINTED: function 42 (goimap_parseDay)

end Go.Proofs.YtlnbikcfjnloaaaGreatDoor.PparseDay
