/- A number of days as a date, its text, and the reading of that text, for days from 1970 on, below 48000. -/
import Derived.Test.YtlnbikcfjnloaaaGreatDoorOwnA
import Derived.Test.YtlnbikcfjnloaaaGreatDoorOwnD
import Derived.Test.YtlnbikcfjnloaaaGreatDoorPparseDayx1
import Derived.Test.YtlnbikcfjnloaaaGreatDoorPcivil9x1
import Derived.Deep.RegionHeld3
import Derived.RegionTactic
import Derived.BigRegion
import Derived.IntWalk
namespace Go.Proofs.YtlnbikcfjnloaaaGreatDoor
set_option linter.unusedVariables false
set_option linter.unusedSimpArgs false
open Go.RowKit Go.Proofs.YtlnbikcfjnloaaaGreatDoorW.PrintWords

theorem keep_drawn0 (M : Nat → Prop) {w w' : World} (h : Drawn0 w w') : Keep M w w' := by
  obtain ⟨n, rfl⟩ := h.out
  exact (Keep.refl M w).drewN n
/-- errors.New. -/
theorem t_errNew (w : World) (s : ByteArray) : Calls Tryz.prog 36 #[.string s] w fun e w' => (∃ v, e = .returned v) ∧ Keep (fun _ => False) w w' := by
  go_enter Tryz.func36, Tryz.ntmps36
  go_wp2
  go_ret
  exact ⟨⟨_, rfl⟩, (Keep.refl _ w).alloc _⟩

/-! Days: the plain law. -/
def leapN (y : Nat) : Bool := (Nat.beq (y % 4) 0) && ((!Nat.beq (y % 100) 0) || Nat.beq (y % 400) 0)
def dimN (m y : Nat) : Nat := bif Nat.beq m 2 then (bif leapN y then 29 else 28) else bif Nat.beq m 4 || Nat.beq m 6 || Nat.beq m 9 || Nat.beq m 11 then 30 else 31
/-- The days of j months from month c on. -/
def sumN (y : Nat) : Nat → Nat → Nat
  | 0, _ => 0
  | j + 1, c => dimN c y + sumN y j (c + 1)
/-- A date's day. -/
def dayN (y m d : Nat) : Nat := d - 1 + sumN y (m - 1) 1 + 365 * (y - 1) + (y - 1) / 4 - (y - 1) / 100 + (y - 1) / 400

theorem beq_dec (a b : Nat) : Nat.beq a b = decide (a = b) := by
  rw [Bool.eq_iff_iff]
  simp [Nat.beq_eq]
theorem leap_eq (y : Nat) : PparseDay.goimap_leap.f (y : Int) = some (leapN y) := by
  have e1 : (y : Int).tmod 4 = ((y % 4 : Nat) : Int) := (Int.ofNat_tmod y 4).symm
  have e2 : (y : Int).tmod 100 = ((y % 100 : Nat) : Int) := (Int.ofNat_tmod y 100).symm
  have e3 : (y : Int).tmod 400 = ((y % 400 : Nat) : Int) := (Int.ofNat_tmod y 400).symm
  unfold PparseDay.goimap_leap.f leapN
  rw [e1, e2, e3]
  simp only [beq_dec]
  by_cases h1 : y % 4 = 0
  · rw [if_pos (by omega)]
    by_cases h2 : y % 100 = 0
    · rw [if_pos (by omega)]
      by_cases h3 : y % 400 = 0
      · simp [h1, h2, h3]
      · simp [h1, h2, h3]; omega
    · rw [if_neg (by omega)]
      simp [h1, h2]
  · rw [if_neg (by omega)]
    simp [h1]
theorem dim_eq (m y : Nat) : PparseDay.goimap_daysIn.f (m : Int) (y : Int) = some (dimN m y : Int) := by
  unfold PparseDay.goimap_daysIn.f dimN
  rw [leap_eq]
  simp only [beq_dec]
  by_cases h1 : m = 2
  · subst h1
    cases leapN y <;> simp
  · rw [if_neg (by omega)]
    by_cases h4 : m = 4
    · subst h4; simp
    · rw [if_neg (by omega)]
      by_cases h6 : m = 6
      · subst h6; simp
      · rw [if_neg (by omega)]
        by_cases h9 : m = 9
        · subst h9; simp
        · rw [if_neg (by omega)]
          by_cases h11 : m = 11
          · subst h11; simp
          · rw [if_neg (by omega)]
            simp [h1, h4, h6, h9, h11]
theorem dim_le (m y : Nat) : dimN m y ≤ 31 := by
  unfold dimN
  cases Nat.beq m 2 <;> cases leapN y <;> cases (Nat.beq m 4 || Nat.beq m 6 || Nat.beq m 9 || Nat.beq m 11) <;> simp
theorem sum_le (y : Nat) : ∀ j c, sumN y j c ≤ 31 * j
  | 0, _ => by simp [sumN]
  | j + 1, c => by
    have := dim_le c y
    have := sum_le y j (c + 1)
    simp only [sumN]
    omega
theorem dayOf_end (x z q r t : Nat) (hx : x < 1000) (hz : z < 10000) (hq : q < 10000) (hr : r < 10000) (ht : t < 10000) (hle : r ≤ x + 365 * z + q) :
    wrap64 ((wrap64 ((wrap64 ((wrap64 ((x : Int) + (wrap64 (365 * (z : Int))))) + (wrap64 (q : Int)))) - (wrap64 (r : Int)))) + (wrap64 (t : Int))) = ((x + 365 * z + q - r + t : Nat) : Int) := by
  rw [wrap_small (365 * (z : Int)) (by omega) (by omega), wrap_small (q : Int) (by omega) (by omega), wrap_small (r : Int) (by omega) (by omega), wrap_small (t : Int) (by omega) (by omega),
    wrap_small ((x : Int) + 365 * (z : Int)) (by omega) (by omega), wrap_small ((x : Int) + 365 * (z : Int) + (q : Int)) (by omega) (by omega), wrap_small ((x : Int) + 365 * (z : Int) + (q : Int) - (r : Int)) (by omega) (by omega),
    wrap_small ((x : Int) + 365 * (z : Int) + (q : Int) - (r : Int) + (t : Int)) (by omega) (by omega)]
  omega
theorem wrap_up (x : Nat) (k : Nat) (h : x + k < 100000) : wrap64 ((x : Int) + (k : Int)) = ((x + k : Nat) : Int) := by
  rw [wrap_small _ (by omega) (by omega)]
  omega
theorem wrap_dn (x : Nat) (hx : 1 ≤ x) (h : x < 100000) : wrap64 ((x : Int) - 1) = ((x - 1 : Nat) : Int) := by
  rw [wrap_small _ (by omega) (by omega)]
  omega
theorem dayOf_stop (k y m x c : Nat) (hy : 1 ≤ y) (hy2 : y < 10000) (hc : m ≤ c) (hx : x < 1000) :
    PparseDay.goimap_dayOf.l0 (k + 1) (y : Int) (m : Int) (x : Int) (c : Int) = some ((x + 365 * (y - 1) + (y - 1) / 4 - (y - 1) / 100 + (y - 1) / 400 : Nat) : Int) := by
  rw [PparseDay.goimap_dayOf.l0, if_neg (by omega), wrap_dn y hy (by omega)]
  have hz : y - 1 < 10000 := by omega
  clear hy hy2 hc
  generalize y - 1 = z at *
  have q1 : (z : Int).tdiv 4 = ((z / 4 : Nat) : Int) := (Int.ofNat_tdiv z 4).symm
  have q2 : (z : Int).tdiv 100 = ((z / 100 : Nat) : Int) := (Int.ofNat_tdiv z 100).symm
  have q3 : (z : Int).tdiv 400 = ((z / 400 : Nat) : Int) := (Int.ofNat_tdiv z 400).symm
  have h4 : z / 4 < 10000 := by omega
  have h100 : z / 100 < 10000 := by omega
  have h400 : z / 400 < 10000 := by omega
  have hle : z / 100 ≤ x + 365 * z + z / 4 := by omega
  rw [if_neg (by omega), q1, q2, q3]
  clear q1 q2 q3
  generalize z / 4 = q at *
  generalize z / 100 = r at *
  generalize z / 400 = t at *
  rw [dayOf_end x z q r t hx hz h4 h100 h400 hle]
theorem dayOf_go (k y m x c : Nat) (hc : c < m) (hm : m ≤ 12) (hx : x < 1000) :
    PparseDay.goimap_dayOf.l0 (k + 1) (y : Int) (m : Int) (x : Int) (c : Int) = PparseDay.goimap_dayOf.l0 k (y : Int) (m : Int) ((x + dimN c y : Nat) : Int) ((c + 1 : Nat) : Int) := by
  have hd := dim_le c y
  rw [PparseDay.goimap_dayOf.l0, if_pos (by omega), dim_eq, Option.bind_some, wrap_up x (dimN c y) (by omega), show ((c : Int) + 1) = (c : Int) + ((1 : Nat) : Int) from rfl, wrap_up c 1 (by omega)]
theorem dayOf_l0 (y m : Nat) (hy : 1 ≤ y) (hy2 : y < 10000) (hm : m ≤ 12) : ∀ j c x : Nat, c + j = m → x + 31 * j < 1000 →
    PparseDay.goimap_dayOf.l0 (j + 1) (y : Int) (m : Int) (x : Int) (c : Int) = some ((x + sumN y j c + 365 * (y - 1) + (y - 1) / 4 - (y - 1) / 100 + (y - 1) / 400 : Nat) : Int) := by
  intro j
  induction j with
  | zero =>
    intro c x hc hx
    rw [dayOf_stop 0 y m x c hy hy2 (by omega) (by omega), sumN, Nat.add_zero]
  | succ j ih =>
    intro c x hc hx
    have hd := dim_le c y
    rw [dayOf_go (j + 1) y m x c (by omega) hm (by omega), ih (c + 1) (x + dimN c y) (by omega) (by omega), sumN, Nat.add_assoc x]
theorem dayOf_eq (y m d : Nat) (hy : 1 ≤ y) (hy2 : y < 10000) (hm1 : 1 ≤ m) (hm : m ≤ 12) (hd : 1 ≤ d) (hd2 : d ≤ 31) : PparseDay.goimap_dayOf.f m (y : Int) (m : Int) (d : Int) = some (dayN y m d : Int) := by
  unfold PparseDay.goimap_dayOf.f
  have h := dayOf_l0 y m hy hy2 hm (m - 1) 1 (d - 1) (by omega) (by omega)
  rw [show m - 1 + 1 = m from by omega] at h
  rw [wrap_dn d hd (by omega)]
  exact h

/-! The number of days, as a date. -/
def civ (n : Nat) : Nat × Nat × Nat :=
  (fun N => (fun f => (fun yr => (fun i => (fun m => (fun d => bif Nat.blt m 10 then (yr + N / 146097 * 400, m + 3, d) else (yr + N / 146097 * 400 + 1, m - 9, d)) (i - (153 * m + 2) / 5 + 1)) ((5 * i + 2) / 153)) (f - (365 * yr + yr / 4 - yr / 100))) ((f - f / 1460 + f / 36524 - f / 146096) / 365)) (N % 146097)) (n + 719468)
def civOk (n : Nat) : Bool :=
  (fun N => (fun f => (fun yr => Nat.ble (365 * yr + yr / 4 - yr / 100) f) ((f - f / 1460 + f / 36524 - f / 146096) / 365)) (N % 146097)) (n + 719468) &&
  match civ n with
  | (y, m, d) => Nat.ble 1970 y && Nat.ble y 2110 && Nat.ble 1 m && Nat.ble m 12 && Nat.ble 1 d && Nat.ble d (dimN m y) && Nat.beq (dayN y m d) (n + 719162)
end Go.Proofs.YtlnbikcfjnloaaaGreatDoor

namespace Go.Proofs.YtlnbikcfjnloaaaGreatDoor
set_option linter.unusedVariables false
set_option linter.unusedSimpArgs false

set_option maxRecDepth 1000000 in
theorem civ_c0 : ((List.range 8000).all fun n => civOk (n + 0)) = true := by decide +kernel
set_option maxRecDepth 1000000 in
theorem civ_c1 : ((List.range 8000).all fun n => civOk (n + 8000)) = true := by decide +kernel
set_option maxRecDepth 1000000 in
theorem civ_c2 : ((List.range 8000).all fun n => civOk (n + 16000)) = true := by decide +kernel
set_option maxRecDepth 1000000 in
theorem civ_c3 : ((List.range 8000).all fun n => civOk (n + 24000)) = true := by decide +kernel
set_option maxRecDepth 1000000 in
theorem civ_c4 : ((List.range 8000).all fun n => civOk (n + 32000)) = true := by decide +kernel
set_option maxRecDepth 1000000 in
theorem civ_c5 : ((List.range 8000).all fun n => civOk (n + 40000)) = true := by decide +kernel
theorem civ_ok (n : Nat) (h : n < 48000) : civOk n = true := by
  have key : ∀ k : Nat, ((List.range 8000).all fun n => civOk (n + k)) = true → k ≤ n → n < k + 8000 → civOk n = true := by
    intro k hk h1 h2
    have := List.all_eq_true.1 hk (n - k) (List.mem_range.2 (by omega))
    rwa [show n - k + k = n from by omega] at this
  by_cases h1 : n < 8000
  · exact key _ civ_c0 (by omega) (by omega)
  by_cases h2 : n < 16000
  · exact key _ civ_c1 (by omega) (by omega)
  by_cases h3 : n < 24000
  · exact key _ civ_c2 (by omega) (by omega)
  by_cases h4 : n < 32000
  · exact key _ civ_c3 (by omega) (by omega)
  by_cases h5 : n < 40000
  · exact key _ civ_c4 (by omega) (by omega)
  · exact key _ civ_c5 (by omega) (by omega)

theorem civ_fact (n : Nat) (h : n < 48000) : ∃ y m d, civ n = (y, m, d) ∧ 1970 ≤ y ∧ y ≤ 2110 ∧ 1 ≤ m ∧ m ≤ 12 ∧ 1 ≤ d ∧ d ≤ dimN m y ∧ dayN y m d = n + 719162 := by
  have h1 := civ_ok n h
  unfold civOk at h1
  rcases hc : civ n with ⟨y, m, d⟩
  rw [hc] at h1
  simp only [Bool.and_eq_true, Nat.ble_eq, beq_dec, decide_eq_true_eq] at h1
  exact ⟨y, m, d, rfl, h1.2.1.1.1.1.1.1, by omega, h1.2.1.1.1.1.2, h1.2.1.1.1.2, h1.2.1.1.2, h1.2.1.2, h1.2.2⟩
end Go.Proofs.YtlnbikcfjnloaaaGreatDoor

namespace Go.Proofs.YtlnbikcfjnloaaaGreatDoor
set_option linter.unusedVariables false
set_option linter.unusedSimpArgs false
open Go.RowKit Go.Proofs.YtlnbikcfjnloaaaGreatDoorW.PrintWords

theorem wr_add (a b : Nat) (h : a + b < 100000000) : wrap64 ((a : Int) + (b : Int)) = ((a + b : Nat) : Int) := by
  rw [wrap_small _ (by omega) (by omega)]; omega
theorem wr_sub (a b : Nat) (hb : b ≤ a) (h : a < 100000000) : wrap64 ((a : Int) - (b : Int)) = ((a - b : Nat) : Int) := by
  rw [wrap_small _ (by omega) (by omega)]; omega
theorem wr_div (a b : Nat) (h : a < 100000000) : wrap64 (Int.tdiv (a : Int) (b : Int)) = ((a / b : Nat) : Int) := by
  have := Nat.div_le_self a b
  rw [← Int.ofNat_tdiv]
  generalize a / b = q at *
  rw [wrap_small _ (by omega) (by omega)]
theorem wr_mul (a b : Nat) (h : a * b < 100000000) : wrap64 ((a : Int) * (b : Int)) = ((a * b : Nat) : Int) := by
  rw [← Int.natCast_mul, wrap_small _ (by omega) (by omega)]
set_option maxRecDepth 100000 in
theorem civ_eq (n : Nat) (h : n < 48000) (y m d : Nat) (hc : civ n = (y, m, d)) : Pcivil9.spec_civil9.f (n : Int) = some ((y : Int), (m : Int), (d : Int)) := by
  have hok := civ_ok n h
  unfold civOk at hok
  rw [Bool.and_eq_true] at hok
  replace hok := hok.1
  unfold civ at hc
  obtain ⟨N, hN⟩ : ∃ N, N = n + 719468 := ⟨_, rfl⟩
  have e0 : wrap64 ((n : Int) + 719468) = (N : Int) := by rw [hN]; exact wr_add n 719468 (by omega)
  have hNl : N < 800000 := by omega
  simp only [] at hc hok
  rw [← hN] at hc hok
  unfold Pcivil9.spec_civil9.f
  simp only [e0]
  clear e0 hN h
  obtain ⟨f, hf⟩ : ∃ f, f = N % 146097 := ⟨_, rfl⟩
  have e1 : Int.tmod (N : Int) 146097 = (f : Int) := by rw [hf]; exact (Int.ofNat_tmod N 146097).symm
  have hfl : f < 146097 := by rw [hf]; exact Nat.mod_lt _ (by omega)
  rw [← hf] at hc hok
  have e2 : wrap64 (Int.tdiv (N : Int) 146097) = ((N / 146097 : Nat) : Int) := wr_div N 146097 (by omega)
  simp only [e1, e2]
  clear e1 e2 hf
  obtain ⟨era, hera⟩ : ∃ era, era = N / 146097 := ⟨_, rfl⟩
  have heral : era < 10 := by omega
  rw [← hera] at hc ⊢
  clear hera hNl
  have e3 : wrap64 (Int.tdiv (f : Int) 1460) = ((f / 1460 : Nat) : Int) := wr_div f 1460 (by omega)
  have e4 : wrap64 (Int.tdiv (f : Int) 36524) = ((f / 36524 : Nat) : Int) := wr_div f 36524 (by omega)
  have e5 : wrap64 (Int.tdiv (f : Int) 146096) = ((f / 146096 : Nat) : Int) := wr_div f 146096 (by omega)
  simp only [e3, e4, e5]
  clear e3 e4 e5
  have e6 : wrap64 ((f : Int) - ((f / 1460 : Nat) : Int)) = ((f - f / 1460 : Nat) : Int) := wr_sub _ _ (by omega) (by omega)
  simp only [e6]
  clear e6
  have e7 : wrap64 (((f - f / 1460 : Nat) : Int) + ((f / 36524 : Nat) : Int)) = ((f - f / 1460 + f / 36524 : Nat) : Int) := wr_add _ _ (by omega)
  simp only [e7]
  clear e7
  have e8 : wrap64 (((f - f / 1460 + f / 36524 : Nat) : Int) - ((f / 146096 : Nat) : Int)) = ((f - f / 1460 + f / 36524 - f / 146096 : Nat) : Int) := wr_sub _ _ (by omega) (by omega)
  simp only [e8]
  clear e8
  have e9 : wrap64 (Int.tdiv ((f - f / 1460 + f / 36524 - f / 146096 : Nat) : Int) 365) = (((f - f / 1460 + f / 36524 - f / 146096) / 365 : Nat) : Int) := wr_div _ 365 (by omega)
  simp only [e9]
  clear e9
  obtain ⟨yr, hyr⟩ : ∃ yr, yr = (f - f / 1460 + f / 36524 - f / 146096) / 365 := ⟨_, rfl⟩
  have hyrl : yr < 500 := by omega
  rw [← hyr] at hc hok ⊢
  clear hyr
  have hle : 365 * yr + yr / 4 - yr / 100 ≤ f := Nat.le_of_ble_eq_true hok
  clear hok
  have e10 : wrap64 (365 * (yr : Int)) = ((365 * yr : Nat) : Int) := wr_mul 365 yr (by omega)
  have e11 : wrap64 (Int.tdiv (yr : Int) 4) = ((yr / 4 : Nat) : Int) := wr_div yr 4 (by omega)
  have e12 : wrap64 (Int.tdiv (yr : Int) 100) = ((yr / 100 : Nat) : Int) := wr_div yr 100 (by omega)
  simp only [e10, e11, e12]
  clear e10 e11 e12
  have e13 : wrap64 (((365 * yr : Nat) : Int) + ((yr / 4 : Nat) : Int)) = ((365 * yr + yr / 4 : Nat) : Int) := wr_add _ _ (by omega)
  simp only [e13]
  clear e13
  have e14 : wrap64 (((365 * yr + yr / 4 : Nat) : Int) - ((yr / 100 : Nat) : Int)) = ((365 * yr + yr / 4 - yr / 100 : Nat) : Int) := wr_sub _ _ (by omega) (by omega)
  simp only [e14]
  clear e14
  have e15 : wrap64 ((f : Int) - ((365 * yr + yr / 4 - yr / 100 : Nat) : Int)) = ((f - (365 * yr + yr / 4 - yr / 100) : Nat) : Int) := wr_sub _ _ hle (by omega)
  simp only [e15]
  clear e15
  obtain ⟨i, hi⟩ : ∃ i, i = f - (365 * yr + yr / 4 - yr / 100) := ⟨_, rfl⟩
  have hil : i < 146097 := by omega
  rw [← hi] at hc ⊢
  clear hi hle
  have e16 : wrap64 (5 * (i : Int)) = ((5 * i : Nat) : Int) := wr_mul 5 i (by omega)
  simp only [e16]
  clear e16
  have e17 : wrap64 (((5 * i : Nat) : Int) + 2) = ((5 * i + 2 : Nat) : Int) := wr_add _ 2 (by omega)
  simp only [e17]
  clear e17
  have e18 : wrap64 (Int.tdiv ((5 * i + 2 : Nat) : Int) 153) = (((5 * i + 2) / 153 : Nat) : Int) := wr_div _ 153 (by omega)
  simp only [e18]
  clear e18
  obtain ⟨p, hp⟩ : ∃ p, p = (5 * i + 2) / 153 := ⟨_, rfl⟩
  have hpl : p < 10000 := by omega
  have hle2 : (153 * p + 2) / 5 ≤ i := by omega
  rw [← hp] at hc ⊢
  clear hp
  have e19 : wrap64 (153 * (p : Int)) = ((153 * p : Nat) : Int) := wr_mul 153 p (by omega)
  simp only [e19]
  clear e19
  have e20 : wrap64 (((153 * p : Nat) : Int) + 2) = ((153 * p + 2 : Nat) : Int) := wr_add _ 2 (by omega)
  simp only [e20]
  clear e20
  have e21 : wrap64 (Int.tdiv ((153 * p + 2 : Nat) : Int) 5) = (((153 * p + 2) / 5 : Nat) : Int) := wr_div _ 5 (by omega)
  simp only [e21]
  clear e21
  have e22 : wrap64 ((i : Int) - (((153 * p + 2) / 5 : Nat) : Int)) = ((i - (153 * p + 2) / 5 : Nat) : Int) := wr_sub _ _ hle2 (by omega)
  simp only [e22]
  clear e22
  have e23 : wrap64 (((i - (153 * p + 2) / 5 : Nat) : Int) + 1) = ((i - (153 * p + 2) / 5 + 1 : Nat) : Int) := wr_add _ 1 (by omega)
  simp only [e23]
  clear e23
  have e24 : wrap64 ((era : Int) * 400) = ((era * 400 : Nat) : Int) := wr_mul era 400 (by omega)
  simp only [e24]
  clear e24
  have e25 : wrap64 ((yr : Int) + ((era * 400 : Nat) : Int)) = ((yr + era * 400 : Nat) : Int) := wr_add _ _ (by omega)
  simp only [e25]
  clear e25
  have e26 : wrap64 (((yr + era * 400 : Nat) : Int) + 1) = ((yr + era * 400 + 1 : Nat) : Int) := wr_add _ 1 (by omega)
  have e27 : wrap64 ((p : Int) + 3) = ((p + 3 : Nat) : Int) := wr_add p 3 (by omega)
  simp only [e26, e27]
  clear e26 e27
  by_cases h10 : p < 10
  · have hb : Nat.blt p 10 = true := by rw [Nat.blt_eq]; exact h10
    rw [hb] at hc
    simp only [cond_true, Prod.mk.injEq] at hc
    obtain ⟨rfl, rfl, rfl⟩ := hc
    rw [if_pos (by omega)]
  · have hb : Nat.blt p 10 = false := by rw [Bool.eq_false_iff, ne_eq, Nat.blt_eq]; exact h10
    have e28 : wrap64 ((p : Int) - 9) = ((p - 9 : Nat) : Int) := wr_sub p 9 (by omega) (by omega)
    simp only [e28]
    clear e28
    rw [hb] at hc
    simp only [cond_false, Prod.mk.injEq] at hc
    obtain ⟨rfl, rfl, rfl⟩ := hc
    rw [if_neg (by omega)]
theorem t_civil (n : Nat) (h : n < 48000) (y m d : Nat) (hc : civ n = (y, m, d)) (w : World) :
    Calls Tryz.prog 10 #[.int .i64 n] w fun e w' => e = .returned (.tuple #[.int .i64 y, .int .i64 m, .int .i64 d]) ∧ Keep (fun _ => False) w w' := by
  refine (Pcivil9.spec_civil9.calls (n : Int) _ _ _ w (civ_eq n h y m d hc)).mono ?_
  rintro e w' ⟨rfl, h⟩
  exact ⟨rfl, keep_drawn0 _ h⟩
end Go.Proofs.YtlnbikcfjnloaaaGreatDoor

namespace Go.Proofs.YtlnbikcfjnloaaaGreatDoor
set_option linter.unusedVariables false
set_option linter.unusedSimpArgs false
open Go.RowKit

theorem Keep.cellOf' {M : Nat → Prop} {w w' : World} (h : Keep M w w') {k i : Nat} (hk : k < w.heap.size) (hM : ¬ M k) : w'.cell? ⟨k, i, none⟩ = w.cell? ⟨k, i, none⟩ := by
  unfold World.cell?
  simp only [h.block k hk hM]
theorem cell_ltx {w : World} {k i : Nat} {v : Value} (h : w.cell? ⟨k, i, none⟩ = some v) : k < w.heap.size := by
  rw [World.cell?] at h
  by_cases hb : k < w.heap.size
  · exact hb
  · rw [Array.getElem?_eq_none (by simpa using hb)] at h
    cases h
theorem cellA {w1 w2 : World} {cs : Array Value} {t : TypeId} (hk : Keep (fun _ => False) (w1.alloc (.cells cs t)).drew w2) (i : Nat) : w2.cell? ⟨w1.heap.size, i, none⟩ = cs[i]? :=
  (hk.cellOf' (by show w1.heap.size < (w1.alloc (.cells cs t)).heap.size; simp) id).trans ((Blk.new w1 cs t).drew.cell i)
theorem cellB {w1 w2 : World} {cs : Array Value} {t : TypeId} (hk : Keep (fun _ => False) (w1.alloc (.cells cs t)) w2) (i : Nat) : w2.cell? ⟨w1.heap.size, i, none⟩ = cs[i]? :=
  (hk.cellOf' (by simp) id).trans ((Blk.new w1 cs t).cell i)
theorem cellC {w1 w2 : World} {b : Nat} {v : Value} {r : List Value} (hk : Keep (fun _ => False) w1 w2) (h : ∀ i, w1.cell? ⟨b, i, none⟩ = (v :: r).toArray[i]?) (i : Nat) : w2.cell? ⟨b, i, none⟩ = (v :: r).toArray[i]? :=
  (hk.cellOf' (cell_ltx (v := v) ((h 0).trans (by simp))) id).trans (h i)
/-- A month's name. -/
def mon (m : Nat) : List UInt8 := [[], [74, 97, 110], [70, 101, 98], [77, 97, 114], [65, 112, 114], [77, 97, 121], [74, 117, 110], [74, 117, 108], [65, 117, 103], [83, 101, 112], [79, 99, 116], [78, 111, 118], [68, 101, 99]].getD m []
/-- A date's text. -/
def dateT (y m d : Nat) : List UInt8 := dig d ++ [45] ++ mon m ++ [45] ++ dig y

theorem mon_len (m : Nat) (h1 : 1 ≤ m) (h2 : m ≤ 12) : (mon m).length = 3 := by
  have h : m = 1 ∨ m = 2 ∨ m = 3 ∨ m = 4 ∨ m = 5 ∨ m = 6 ∨ m = 7 ∨ m = 8 ∨ m = 9 ∨ m = 10 ∨ m = 11 ∨ m = 12 := by omega
  rcases h with rfl | rfl | rfl | rfl | rfl | rfl | rfl | rfl | rfl | rfl | rfl | rfl <;> rfl
theorem mon_cell (p : Nat) (h : p < 12) : (#[.string ⟨#[74, 97, 110]⟩, .string ⟨#[70, 101, 98]⟩, .string ⟨#[77, 97, 114]⟩, .string ⟨#[65, 112, 114]⟩, .string ⟨#[77, 97, 121]⟩, .string ⟨#[74, 117, 110]⟩, .string ⟨#[74, 117, 108]⟩, .string ⟨#[65, 117, 103]⟩, .string ⟨#[83, 101, 112]⟩, .string ⟨#[79, 99, 116]⟩, .string ⟨#[78, 111, 118]⟩, .string ⟨#[68, 101, 99]⟩] : Array Value)[p]? = some (.string (bs (mon (p + 1)))) := by
  have h : p = 0 ∨ p = 1 ∨ p = 2 ∨ p = 3 ∨ p = 4 ∨ p = 5 ∨ p = 6 ∨ p = 7 ∨ p = 8 ∨ p = 9 ∨ p = 10 ∨ p = 11 := by omega
  rcases h with rfl | rfl | rfl | rfl | rfl | rfl | rfl | rfl | rfl | rfl | rfl | rfl <;> (rw [bs_def]; rfl)
set_option maxRecDepth 100000 in
set_option maxHeartbeats 1000000 in
theorem t_date9 (n : Nat) (h : n < 48000) (y m d : Nat) (hc : civ n = (y, m, d)) (hy : y < 10000) (hm1 : 1 ≤ m) (hm2 : m ≤ 12) (hd : d ≤ 31) (w : World) :
    Calls Tryz.prog 5 #[.int .i64 n] w fun e w' => e = .returned (.string (bs (dateT y m d))) ∧ Keep (fun _ => False) w w' := by
  have HC := Lib.hid (And.intro h hc)
  have hld : (dig d).length ≤ 4 := dig_len d 4 (by omega) (by omega)
  have hly : (dig y).length ≤ 4 := dig_len y 4 (by omega) (by omega)
  clear h hc
  obtain ⟨p, hp⟩ : ∃ p, p + 1 = m := ⟨m - 1, by omega⟩
  have hms : (bs (mon m)).size = 3 := by rw [bs_size]; exact mon_len m hm1 hm2
  have hcs : (#[.string ⟨#[74, 97, 110]⟩, .string ⟨#[70, 101, 98]⟩, .string ⟨#[77, 97, 114]⟩, .string ⟨#[65, 112, 114]⟩, .string ⟨#[77, 97, 121]⟩, .string ⟨#[74, 117, 110]⟩, .string ⟨#[74, 117, 108]⟩, .string ⟨#[65, 117, 103]⟩, .string ⟨#[83, 101, 112]⟩, .string ⟨#[79, 99, 116]⟩, .string ⟨#[78, 111, 118]⟩, .string ⟨#[68, 101, 99]⟩] : Array Value)[p]? = some (.string (bs (mon m))) := by rw [← hp]; exact mon_cell p (by omega)
  have g1 : IntKind.i64.wrap ((m : Int) - 1) = (p : Int) := by rw [show ((m : Int) - 1) = (p : Int) from by omega]; exact IntWalk.i64_in _ (by omega)
  have g2 : (p : Int) < 12 := by omega
  have f1 : ¬ 9223372036854775807 < (bs (dig d)).size + 1 := by rw [bs_size]; omega
  have f2 : ¬ 9223372036854775807 < (bs (dig d)).size + 1 + 3 := by rw [bs_size]; omega
  have f3 : ¬ 9223372036854775807 < (bs (dig d)).size + 1 + 3 + 1 := by rw [bs_size]; omega
  have f4 : ¬ 9223372036854775807 < (bs (dig d)).size + 1 + 3 + 1 + (bs (dig y)).size := by rw [bs_size, bs_size]; omega
  have hfin : (bs (dig d) ++ ⟨#[45]⟩ ++ bs (mon m) ++ ⟨#[45]⟩ ++ bs (dig y)) = bs (dateT y m d) := by
    rw [← bs_def [45], bs_app, bs_app, bs_app, bs_app]
    rfl
  have HF := Lib.hid hfin
  clear hfin
  have HY := Lib.hid (And.intro hy hd)
  clear hm1 hm2 hp hy hd hld hly
  go_enter Tryz.func5, Tryz.ntmps5
  go_wp2_with (fail)
  refine (t_civil n HC.out.1 y _ d HC.out.2 _).mono ?_
  rintro e w1 ⟨rfl, hk1⟩
  have HK1 := Lib.hid hk1
  clear hk1
  go_wp2_with (fail)
  go_region_with (first | (go_at_call 9; first | (with_reducible refine (t_number9 d (by have := HY.out; omega) _).mono ?_; rintro e w2 ⟨rfl, hk2⟩; (try (have hx2 := cellA hk2)); have HK2 := Lib.hid hk2; clear hk2) | (with_reducible refine (t_number9 y (by have := HY.out; omega) _).mono ?_; rintro e w3 ⟨rfl, hk3⟩; (try (have hx3 := cellB hk3)); (try (have hx3 := cellC hk3 hx2)); have HK3 := Lib.hid hk3; clear hk3)))
  all_goals
    go_wp2
    go_ret
    refine ⟨Eq.trans (b := Ending.returned (.string (bs (dig d) ++ ⟨#[45]⟩ ++ bs (mon m) ++ ⟨#[45]⟩ ++ bs (dig y)))) (by rfl) (by rw [HF.out]), ?_⟩
    repeat (first | exact HK1.out | refine Keep.trans ?_ HK3.out | refine Keep.trans ?_ HK2.out | refine Keep.drew ?_ | refine Keep.alloc ?_ _)
end Go.Proofs.YtlnbikcfjnloaaaGreatDoor

namespace Go.Proofs.YtlnbikcfjnloaaaGreatDoor
set_option linter.unusedVariables false
set_option linter.unusedSimpArgs false
open Go.RowKit Go.Proofs.YtlnbikcfjnloaaaGreatDoorW.PrintWords

/-- The byte at a place. -/
def nth (l : List UInt8) (i : Nat) : Nat := (l.getD i 0).toNat
theorem nth_get (l : List UInt8) (i : Nat) (h : i < (bs l).size) : ((bs l)[i]'h).toNat = nth l i := by
  have hs : i < l.length := by rw [bs_size] at h; exact h
  have : (bs l)[i]'h = (bs l).data[i]'h := rfl
  rw [this]
  simp [bs_def, nth, List.getD, hs]
theorem nth_bt (l : List UInt8) (i : Nat) (h : i < l.length) : bt (bs l) (i : Int) = (nth l i : Int) := by
  unfold bt
  rw [dif_pos (by rw [bs_size, Int.toNat_natCast]; exact h)]
  rw [nth_get l _ (by rw [bs_size]; exact h)]
  rfl
theorem nth_zero (x : UInt8) (l : List UInt8) : nth (x :: l) 0 = x.toNat := rfl
theorem nth_succ (x : UInt8) (l : List UInt8) (i : Nat) : nth (x :: l) (i + 1) = nth l i := rfl
attribute [irreducible] nth
theorem t_isDigit (l : List UInt8) (z : Int) (i : Nat) (b : Bool) (hz : z = i) (hi : i < l.length) (hb : b = decide (48 ≤ nth l i ∧ nth l i ≤ 57)) (w : World) :
    Calls Tryz.prog 69 #[.string (bs l), .int .i64 z] w fun e w' => e = .returned (.bool b) ∧ Keep (fun _ => False) w w' := by
  subst hz
  refine (PparseDay.goimap_isDigit.calls (bs l) (i : Int) b w ?_).mono ?_
  · unfold PparseDay.goimap_isDigit.f
    rw [if_pos (by rw [bs_size]; omega), if_pos (by omega), nth_bt l i hi, hb]
    by_cases h : 48 ≤ nth l i
    · rw [if_pos (by omega)]
      congr 1
      rw [Bool.eq_iff_iff]
      simp
      omega
    · rw [if_neg (by omega)]
      congr 1
      simp [h]
  · rintro e w' ⟨rfl, h⟩
    exact ⟨rfl, keep_drawn0 _ h⟩
theorem t_daysIn (m y : Nat) (w : World) :
    Calls Tryz.prog 71 #[.int .i64 (m : Int), .int .i64 (y : Int)] w fun e w' => e = .returned (.int .i64 (dimN m y : Int)) ∧ Keep (fun _ => False) w w' := by
  refine (PparseDay.goimap_daysIn.calls _ _ _ w (dim_eq m y)).mono ?_
  rintro e w' ⟨rfl, h⟩
  exact ⟨rfl, keep_drawn0 _ h⟩
theorem t_dayOf (y m d : Nat) (hy : 1 ≤ y) (hy2 : y < 10000) (hm1 : 1 ≤ m) (hm : m ≤ 12) (hd : 1 ≤ d) (hd2 : d ≤ 31) (w : World) :
    Calls Tryz.prog 72 #[.int .i64 (y : Int), .int .i64 (m : Int), .int .i64 (d : Int)] w fun e w' => e = .returned (.int .i64 (dayN y m d : Int)) ∧ Keep (fun _ => False) w w' := by
  refine (PparseDay.goimap_dayOf.calls m _ _ _ _ w (dayOf_eq y m d hy hy2 hm1 hm hd hd2)).mono ?_
  rintro e w' ⟨rfl, h⟩
  exact ⟨rfl, keep_drawn0 _ h⟩
def months : List UInt8 := [74, 97, 110, 70, 101, 98, 77, 97, 114, 65, 112, 114, 77, 97, 121, 74, 117, 110, 74, 117, 108, 65, 117, 103, 83, 101, 112, 79, 99, 116, 78, 111, 118, 68, 101, 99]
theorem months_at (j : Nat) (h1 : 1 ≤ j) (h2 : j ≤ 12) : (months.take (3 * j)).drop (3 * j - 3) = mon j := by
  have h : j = 1 ∨ j = 2 ∨ j = 3 ∨ j = 4 ∨ j = 5 ∨ j = 6 ∨ j = 7 ∨ j = 8 ∨ j = 9 ∨ j = 10 ∨ j = 11 ∨ j = 12 := by omega
  rcases h with rfl | rfl | rfl | rfl | rfl | rfl | rfl | rfl | rfl | rfl | rfl | rfl <;> rfl
theorem t_months (w : World) :
    Calls Tryz.prog 70 #[] w fun e w' => e = .returned (.string (bs months)) ∧ Keep (fun _ => False) w w' := by
  refine (PparseDay.goimap_monthNames.calls _ w rfl).mono ?_
  rintro e w' ⟨rfl, h⟩
  exact ⟨by rw [bs_def]; rfl, keep_drawn0 _ h⟩
/-- Are the months' i-th bytes alike, but for the case? -/
def alike (j m i : Nat) : Bool := bits .or .u8 (nth (mon j) i : Int) 32 == bits .or .u8 (nth (mon m) i : Int) 32
theorem alike_all (j m : Nat) (h1 : 1 ≤ j) (h2 : j ≤ 12) (h3 : 1 ≤ m) (h4 : m ≤ 12) : (alike j m 0 && alike j m 1 && alike j m 2) = decide (j = m) := by
  have key : ((List.range 12).all fun j => (List.range 12).all fun m => (alike (j + 1) (m + 1) 0 && alike (j + 1) (m + 1) 1 && alike (j + 1) (m + 1) 2) == decide (j + 1 = m + 1)) = true := by decide +kernel
  have := List.all_eq_true.1 (List.all_eq_true.1 key (j - 1) (List.mem_range.2 (by omega))) (m - 1) (List.mem_range.2 (by omega))
  rw [show j - 1 + 1 = j from by omega, show m - 1 + 1 = m from by omega] at this
  exact beq_iff_eq.1 this
theorem mon_big (m i : Nat) (h1 : 1 ≤ m) (h2 : m ≤ 12) (hi : i < 3) : 65 ≤ nth (mon m) i ∧ nth (mon m) i < 128 := by
  have key : ((List.range 12).all fun m => (List.range 3).all fun i => decide (65 ≤ nth (mon (m + 1)) i ∧ nth (mon (m + 1)) i < 128)) = true := by decide +kernel
  have := List.all_eq_true.1 (List.all_eq_true.1 key (m - 1) (List.mem_range.2 (by omega))) i (List.mem_range.2 hi)
  rw [show m - 1 + 1 = m from by omega] at this
  exact of_decide_eq_true this
end Go.Proofs.YtlnbikcfjnloaaaGreatDoor

namespace Go.Proofs.YtlnbikcfjnloaaaGreatDoor
set_option linter.unusedVariables false
set_option linter.unusedSimpArgs false
open Go.RowKit Go.Proofs.YtlnbikcfjnloaaaGreatDoorW.PrintWords

theorem dig4 (y : Nat) (h1 : 1000 ≤ y) (h2 : y < 10000) : dig y = [UInt8.ofNat (48 + y / 1000), UInt8.ofNat (48 + y / 100 % 10), UInt8.ofNat (48 + y / 10 % 10), UInt8.ofNat (48 + y % 10)] := by
  rw [dig_big (n := y) (by omega), dig_big (n := y / 10) (by omega), dig_big (n := y / 10 / 10) (by omega), dig_small (n := y / 10 / 10 / 10) (by omega)]
  have e1 : y / 10 / 10 = y / 100 := by omega
  have e2 : y / 10 / 10 / 10 = y / 1000 := by omega
  rw [e2, e1]
  rfl
/-- What stands behind a date's day. -/
def dtail (y m : Nat) : List UInt8 := 45 :: (mon m ++ 45 :: dig y)
theorem dtail_len (y m : Nat) (h1 : 1000 ≤ y) (h2 : y < 10000) (h3 : 1 ≤ m) (h4 : m ≤ 12) : (dtail y m).length = 9 := by
  have := mon_len m h3 h4
  simp [dtail, dig4 y h1 h2, this]
theorem mon_three (m : Nat) (h3 : 1 ≤ m) (h4 : m ≤ 12) : ∃ a b c, mon m = [a, b, c] := by
  have := mon_len m h3 h4
  match hm : mon m, this with
  | [a, b, c], _ => exact ⟨a, b, c, rfl⟩
theorem dtail_at (y m : Nat) (h1 : 1000 ≤ y) (h2 : y < 10000) (h3 : 1 ≤ m) (h4 : m ≤ 12) :
    nth (dtail y m) 0 = 45 ∧ nth (dtail y m) 4 = 45 ∧ (∀ i, i < 3 → nth (dtail y m) (1 + i) = nth (mon m) i) ∧
    (∀ i, 5 ≤ i → i < 9 → ∃ q, nth (dtail y m) i = 48 + q ∧ q < 10 ∧ y / 10 ^ (8 - i) = 10 * (y / 10 ^ (9 - i)) + q) := by
  obtain ⟨a, b, c, hm⟩ := mon_three m h3 h4
  have hd := dig4 y h1 h2
  have k1 := digit_ok (y / 1000) (by omega)
  have k2 := digit_ok (y / 100 % 10) (by omega)
  have k3 := digit_ok (y / 10 % 10) (by omega)
  have k4 := digit_ok (y % 10) (by omega)
  unfold dtail
  rw [hm, hd]
  refine ⟨by rw [nth_zero]; rfl, ?_, ?_, ?_⟩
  · simp only [List.cons_append, List.nil_append, nth_succ, nth_zero]
    rfl
  · intro i hi
    rw [Nat.add_comm]
    match i, hi with
    | 0, _ => simp only [List.cons_append, List.nil_append, nth_succ, nth_zero]
    | 1, _ => simp only [List.cons_append, List.nil_append, nth_succ, nth_zero]
    | 2, _ => simp only [List.cons_append, List.nil_append, nth_succ, nth_zero]
  · intro i h5 h9
    have h : i = 5 ∨ i = 6 ∨ i = 7 ∨ i = 8 := by omega
    rcases h with rfl | rfl | rfl | rfl
    · refine ⟨y / 1000, ?_, by omega, ?_⟩
      · simp only [List.cons_append, List.nil_append, nth_succ, nth_zero]; exact k1
      · show y / 1000 = 10 * (y / 10000) + y / 1000; omega
    · refine ⟨y / 100 % 10, ?_, by omega, ?_⟩
      · simp only [List.cons_append, List.nil_append, nth_succ, nth_zero]; exact k2
      · show y / 100 = 10 * (y / 1000) + y / 100 % 10; omega
    · refine ⟨y / 10 % 10, ?_, by omega, ?_⟩
      · simp only [List.cons_append, List.nil_append, nth_succ, nth_zero]; exact k3
      · show y / 10 = 10 * (y / 100) + y / 10 % 10; omega
    · refine ⟨y % 10, ?_, by omega, ?_⟩
      · simp only [List.cons_append, List.nil_append, nth_succ, nth_zero]; exact k4
      · show y / 1 = 10 * (y / 10) + y % 10; omega

def pre3 (e0 e1 e2 : Bool) : Nat → Bool
  | 0 => true
  | 1 => e0
  | 2 => e0 && e1
  | _ => e0 && e1 && e2
set_option maxRecDepth 100000 in
set_option maxHeartbeats 2000000 in
theorem t_parseDay (y m d : Nat) (hy1 : 1000 ≤ y) (hy2 : y < 10000) (hm1 : 1 ≤ m) (hm2 : m ≤ 12) (hd1 : 1 ≤ d) (hd2 : d ≤ dimN m y) (w : World) :
    Calls Tryz.prog 42 #[.string (bs (dateT y m d))] w fun e w' => e = .returned (.tuple #[.int .i64 (dayN y m d : Int), .nilIface]) ∧ Keep (fun _ => False) w w' := by
  have hd3 : d ≤ 31 := Nat.le_trans hd2 (dim_le m y)
  have hT : dateT y m d = dig d ++ dtail y m := by simp [dateT, dtail]
  have hlen := dtail_len y m hy1 hy2 hm1 hm2
  obtain ⟨n0, n4, n3, n5⟩ := dtail_at y m hy1 hy2 hm1 hm2
  rw [hT]
  clear hT
  obtain ⟨S, hS⟩ : ∃ S, S = dtail y m := ⟨_, rfl⟩
  rw [← hS] at hlen n0 n4 n3 n5 ⊢
  clear hS
  have hg := nth_get
  have hsz : (bs S).size = 9 := by rw [bs_size, hlen]
  have HN3 := Lib.hid n3
  have HN5 := Lib.hid n5
  have HM := Lib.hid (And.intro hm1 hm2)
  have HY := Lib.hid (And.intro hy1 hy2)
  have HD := Lib.hid (And.intro hd1 (And.intro hd2 hd3))
  have HLEN := Lib.hid hlen
  clear n3 n5 hlen
  have hcase : d < 10 ∨ ¬ d < 10 := by omega
  rcases hcase with h10 | h10
  · have e1 : dig d ++ S = UInt8.ofNat (48 + d) :: S := by rw [dig_small h10]; rfl
    obtain ⟨X, hX⟩ : ∃ X, X = 48 + d := ⟨_, rfl⟩
    have t0 : nth (UInt8.ofNat (48 + d) :: S) 0 = X := by rw [nth_zero, digit_ok d h10, hX]
    rw [e1]
    clear e1
    obtain ⟨T, hT⟩ : ∃ T, T = UInt8.ofNat (48 + d) :: S := ⟨_, rfl⟩
    have hTn : T.length = 10 := by rw [hT, List.length_cons, HLEN.out]
    have hTl : (bs T).size = 10 := by rw [bs_size, hTn]
    have hTd : T.drop 1 = S := by rw [hT]; rfl
    rw [← hT] at t0 ⊢
    have ne32 : ((X : Int) == 32) = false := by rw [beq_eq_false_iff_ne]; omega
    have hx48 : ((X : Int) - 48) % 256 = (d : Int) := by omega
    have hXl : 48 ≤ X ∧ X ≤ 57 := by omega
    have HT := Lib.hid (And.intro t0 (And.intro hTl (And.intro hTd hTn)))
    have HX := Lib.hid (And.intro hX hXl)
    clear hT hTd hX hXl hy1 hy2 hm1 hm2 hd1 hd2 hd3 h10 hTn
    go_enter Tryz.func42, Tryz.ntmps42
    go_wp2_with (first
      | (go_at_call 36; refine (t_errNew _ _).mono ?_; rintro e w1 ⟨⟨v, rfl⟩, hk1⟩; have HK1 := Lib.hid hk1; clear hk1)
      | (go_at_call 69; with_reducible refine (t_isDigit T 0 0 true rfl (by rw [HT.out.2.2.2]; decide) (by rw [HT.out.1]; simp [HX.out.2]) _).mono ?_; rintro e w2 ⟨rfl, hk⟩; have HK2 := Lib.hid hk; clear hk)
      | (go_at_call 69; with_reducible refine (t_isDigit S 0 0 false rfl (by rw [HLEN.out]; decide) (by rw [n0]; decide) _).mono ?_; rintro e w3 ⟨rfl, hk⟩; have HK3 := Lib.hid hk; clear hk)
      | (with_reducible refine at_slice ?_; refine wp_drop (.tmp 32) _ _ T 1 rfl rfl rfl rfl (by rw [HT.out.2.2.2]; decide) (by kernel_rfl) ?_; rw [HT.out.2.2.1])
      )
    have KK := (HK1.out.trans HK2.out).trans HK3.out
    have h3 := HM.out
    go_loopg [6, 7] 12 (fun k v6 v7 wr => ∃ j mo : Nat, 1 ≤ j ∧ j + k = 13 ∧ v7 = .int .i64 (j : Int) ∧ v6 = .int .i64 (mo : Int) ∧ mo = (if m < j then m else 0) ∧ Keep (fun _ => False) w wr)
    case atStart => exact ⟨1, 0, by omega, by omega, rfl, rfl, by rw [if_neg (by omega)], KK⟩
    case round =>
      obtain ⟨j, mo, hj1, hjk, rfl, rfl, hmo, hk⟩ := hrel
      have HK := Lib.hid hk
      have HMO := Lib.hid hmo
      clear hk hmo
      by_cases hj : j ≤ 12
      · have hjle : (j : Int) ≤ 12 := by omega
        have hms : (bs months).size = 36 := by rw [bs_size]; rfl
        have g1 : (3 : Int) ≤ 3 * (j : Int) := by omega
        have g2 : 3 * (j : Int) ≤ 36 := by omega
        have g3 : (3 * (j : Int) - 3).toNat = 3 * j - 3 := by omega
        have g4 : (3 * (j : Int)).toNat = 3 * j := by omega
        have hex : (bs months).extract (3 * j - 3) (3 * j) = bs (mon j) := by rw [bs_extract, months_at j hj1 hj]
        have HG := Lib.hid hj1
        clear hj1
        go_wp2_with (go_at_call 70; refine (t_months _).mono ?_; rintro e w4 ⟨rfl, hk4⟩; have HK4 := Lib.hid (HK.out.trans hk4); clear hk4)
        have hj1 := HG.out
        clear hms g1 g2 g3 g4 hex
        obtain ⟨p0, q0⟩ := mon_big j 0 hj1 hj (by omega)
        obtain ⟨p1, q1⟩ := mon_big j 1 hj1 hj (by omega)
        obtain ⟨p2, q2⟩ := mon_big j 2 hj1 hj (by omega)
        have hjl : (bs (mon j)).size = 3 := by rw [bs_size]; exact mon_len j hj1 hj
        obtain ⟨r0, s0⟩ := mon_big m 0 h3.1 h3.2 (by omega)
        obtain ⟨r1, s1⟩ := mon_big m 1 h3.1 h3.2 (by omega)
        obtain ⟨r2, s2⟩ := mon_big m 2 h3.1 h3.2 (by omega)
        have hall := alike_all j m hj1 hj h3.1 h3.2
        have z0 := HN3.out 0 (by omega)
        have z1 := HN3.out 1 (by omega)
        have z2 := HN3.out 2 (by omega)
        simp only [Nat.add_zero, Nat.reduceAdd] at z0 z1 z2
        rw [← z0] at r0 s0
        rw [← z1] at r1 s1
        rw [← z2] at r2 s2
        have b0 : (bits .or .u8 (nth (mon j) 0 : Int) 32 == bits .or .u8 (nth S 1 : Int) 32) = alike j m 0 := by rw [z0]; rfl
        have b1 : (bits .or .u8 (nth (mon j) 1 : Int) 32 == bits .or .u8 (nth S 2 : Int) 32) = alike j m 1 := by rw [z1]; rfl
        have b2 : (bits .or .u8 (nth (mon j) 2 : Int) 32 == bits .or .u8 (nth S 3 : Int) 32) = alike j m 2 := by rw [z2]; rfl
        generalize alike j m 0 = e0 at *
        generalize alike j m 1 = e1 at *
        generalize alike j m 2 = e2 at *
        have c1 : (65 : Int) ≤ (nth S 1 : Int) := by omega
        have c2 : (65 : Int) ≤ (nth S 2 : Int) := by omega
        have c3 : (65 : Int) ≤ (nth S 3 : Int) := by omega
        have w1' : IntKind.i64.wrap 1 = 1 := by rfl
        have w2' : IntKind.i64.wrap 2 = 2 := by rfl
        have w3' : IntKind.i64.wrap 3 = 3 := by rfl
        have HA := Lib.hid hall
        clear p0 p1 p2 q0 q1 q2 r0 r1 r2 s0 s1 s2 z0 z1 z2 hall
        go_loopg [9, 10] 3 (fun k v9 v10 wi => ∃ (i : Nat) (b : Bool), i + k = 3 ∧ v10 = .int .i64 (i : Int) ∧ v9 = .bool b ∧ b = pre3 e0 e1 e2 i ∧ Keep (fun _ => False) w wi)
        case atStart => exact ⟨0, true, by omega, rfl, rfl, rfl, HK4.out⟩
        case round =>
          obtain ⟨i, b, hik, rfl, rfl, hb, hki⟩ := hrel
          have HKI := Lib.hid hki
          clear hki
          have hi : i = 0 ∨ i = 1 ∨ i = 2 ∨ i = 3 := by omega
          rcases hi with rfl | rfl | rfl | rfl
          · simp only [pre3] at hb
            subst hb
            cases e0
            all_goals
              go_wp2
              go_quiet (fail)
              go_wp2
              go_roundg 2
              case measure => omega
              case rel => exact ⟨1, _, by omega, rfl, rfl, by simp [pre3], HKI.out.drewN _⟩
          · simp only [pre3] at hb
            subst hb
            cases b
            all_goals try cases e1
            all_goals
              go_wp2
              go_quiet (fail)
              go_wp2
              go_roundg 1
              case measure => omega
              case rel => exact ⟨2, _, by omega, rfl, rfl, by simp [pre3], HKI.out.drewN _⟩
          · simp only [pre3] at hb
            cases e0
            all_goals cases e1
            all_goals simp only [Bool.and_true, Bool.and_false, Bool.false_and, Bool.true_and] at hb
            all_goals subst hb
            all_goals try cases e2
            all_goals
              go_wp2
              go_quiet (fail)
              go_wp2
              go_roundg 0
              case measure => omega
              case rel => exact ⟨3, _, by omega, rfl, rfl, by simp [pre3], HKI.out.drewN _⟩
          · simp only [pre3] at hb
            rw [HA.out] at hb
            have hmo := HMO.out
            by_cases hjm : j = m
            · rw [decide_eq_true hjm] at hb
              subst hb
              go_wp2
              go_roundg (12 - j)
              case measure => omega
              case rel => exact ⟨j + 1, j, by omega, by omega, by rw [hjm]; rfl, rfl, by rw [if_pos (by omega)]; exact hjm, HKI.out⟩
            · rw [decide_eq_false hjm] at hb
              subst hb
              go_wp2
              go_roundg (12 - j)
              case measure => omega
              case rel => exact ⟨j + 1, mo, by omega, by omega, rfl, rfl, by rw [hmo]; split <;> split <;> omega, HKI.out⟩
      · have hnle : ¬ (j : Int) ≤ 12 := by omega
        have hmo := HMO.out
        rw [if_pos (by omega)] at hmo
        subst hmo
        have hm0 : ((mo : Int) == 0) = false := by rw [beq_eq_false_iff_ne]; omega
        have hyy := HY.out
        go_wp2
        go_loopg [11, 12] 4 (fun k v11 v12 wi => ∃ i : Nat, 5 ≤ i ∧ i + k = 9 ∧ v12 = .int .i64 (i : Int) ∧ v11 = .int .i64 ((y / 10 ^ (9 - i) : Nat) : Int) ∧ Keep (fun _ => False) w wi)
        case atStart => exact ⟨5, by omega, by omega, rfl, (by rw [show y / 10 ^ (9 - 5) = 0 from Nat.div_eq_of_lt (by omega)]; rfl), HK.out⟩
        case round =>
          obtain ⟨i, hi5, hik, rfl, rfl, hki⟩ := hrel
          have HKI := Lib.hid hki
          clear hki
          by_cases hi9 : i < 9
          · obtain ⟨q, hq1, hq2, hq3⟩ := HN5.out i hi5 hi9
            have hYl : y / 10 ^ (9 - i) ≤ y := Nat.div_le_self _ _
            obtain ⟨Y0, hY0⟩ : ∃ Y0, Y0 = y / 10 ^ (9 - i) := ⟨_, rfl⟩
            rw [← hY0] at hq3 hYl ⊢
            obtain ⟨N, hN⟩ : ∃ N, N = 48 + q := ⟨_, rfl⟩
            rw [← hN] at hq1
            have hq48 : ((N : Int) - 48) % 256 = (q : Int) := by omega
            have hilt : (i : Int) < 9 := by omega
            have HQ := Lib.hid (And.intro hq3 (And.intro hN (And.intro hi5 hik)))
            clear hq3 hN hY0 hi5 hik
            go_wp2_with (go_at_call 69; refine (t_isDigit S (i : Int) i true rfl (by rw [HLEN.out]; omega) (by rw [hq1, HQ.out.2.1]; simp; omega) _).mono ?_; rintro e w5 ⟨rfl, hk5⟩; have HK5 := Lib.hid hk5; clear hk5)
            obtain ⟨e3, e4, e5, e6⟩ := HQ.out
            go_roundg (8 - i)
            case measure => omega
            case rel => exact ⟨i + 1, by omega, by omega, rfl, (by rw [show 9 - (i + 1) = 8 - i from by omega, e3]; rfl), HKI.out.trans HK5.out⟩
          · obtain rfl : i = 9 := by omega
            have e9 : ((y / 10 ^ (9 - 9) : Nat) : Int) = (y : Int) := by simp
            have hdd := HD.out
            have hd1 : (1 : Int) ≤ (d : Int) := by omega
            have hd2 : (d : Int) ≤ (dimN mo y : Int) := by omega
            rw [e9]
            go_wp2_with (first
              | (go_at_call 71; refine (t_daysIn mo y _).mono ?_; rintro e w5 ⟨rfl, hk5⟩; have HK5 := Lib.hid hk5; clear hk5)
              | (go_at_call 72; refine (t_dayOf y mo d (by omega) hyy.2 h3.1 h3.2 hdd.1 hdd.2.2 _).mono ?_; rintro e w6 ⟨rfl, hk6⟩; have HK6 := Lib.hid hk6; clear hk6))
            go_ret2
            exact ⟨rfl, (HKI.out.trans HK5.out).trans HK6.out⟩
  · have hd10 := digit_ok (d / 10) (by omega)
    have hd1m := digit_ok (d % 10) (by omega)
    have e1 : dig d ++ S = UInt8.ofNat (48 + d / 10) :: UInt8.ofNat (48 + d % 10) :: S := by rw [dig_big h10, dig_small (n := d / 10) (by omega)]; rfl
    obtain ⟨X, hX⟩ : ∃ X, X = 48 + d / 10 := ⟨_, rfl⟩
    obtain ⟨Z, hZ⟩ : ∃ Z, Z = 48 + d % 10 := ⟨_, rfl⟩
    rw [e1]
    clear e1
    obtain ⟨U, hU⟩ : ∃ U, U = UInt8.ofNat (48 + d % 10) :: S := ⟨_, rfl⟩
    rw [← hU]
    have u0 : nth U 0 = Z := by rw [hU, nth_zero, hd1m, hZ]
    have hUn : U.length = 10 := by rw [hU, List.length_cons, HLEN.out]
    have hUl : (bs U).size = 10 := by rw [bs_size, hUn]
    have hUd : U.drop 1 = S := by rw [hU]; rfl
    obtain ⟨T, hT⟩ : ∃ T, T = UInt8.ofNat (48 + d / 10) :: U := ⟨_, rfl⟩
    rw [← hT]
    have t0 : nth T 0 = X := by rw [hT, nth_zero, hd10, hX]
    have hTn : T.length = 11 := by rw [hT, List.length_cons, hUn]
    have hTl : (bs T).size = 11 := by rw [bs_size, hTn]
    have hTd : T.drop 1 = U := by rw [hT]; rfl
    have ne32 : ((X : Int) == 32) = false := by rw [beq_eq_false_iff_ne]; omega
    have hx48 : ((X : Int) - 48) % 256 = ((d / 10 : Nat) : Int) := by omega
    have hz48 : ((Z : Int) - 48) % 256 = ((d % 10 : Nat) : Int) := by omega
    have hXl : 48 ≤ X ∧ X ≤ 57 ∧ 48 ≤ Z ∧ Z ≤ 57 := by omega
    have HT := Lib.hid (And.intro t0 (And.intro hTl (And.intro hTd hTn)))
    have HU := Lib.hid (And.intro u0 (And.intro hUl (And.intro hUd hUn)))
    have HX := Lib.hid hXl
    have hsum : 10 * ((d / 10 : Nat) : Int) + ((d % 10 : Nat) : Int) = (d : Int) := by omega
    have hq1 : d / 10 < 10 := by omega
    have hq2 : d % 10 < 10 := by omega
    obtain ⟨D1, hD1⟩ : ∃ D1, D1 = d / 10 := ⟨_, rfl⟩
    obtain ⟨D2, hD2⟩ : ∃ D2, D2 = d % 10 := ⟨_, rfl⟩
    rw [← hD1] at hx48 hsum hq1
    rw [← hD2] at hz48 hsum hq2
    clear hT hTd hU hUd hX hZ hXl hy1 hy2 hm1 hm2 hd1 hd2 hd3 h10 hTn hUn hd10 hd1m hD1 hD2
    go_enter Tryz.func42, Tryz.ntmps42
    go_wp2_with (first
      | (go_at_call 36; refine (t_errNew _ _).mono ?_; rintro e w1 ⟨⟨v, rfl⟩, hk1⟩; have HK1 := Lib.hid hk1; clear hk1)
      | (go_at_call 69; with_reducible refine (t_isDigit T 0 0 true rfl (by rw [HT.out.2.2.2]; decide) (by rw [HT.out.1]; simp [HX.out.1, HX.out.2.1]) _).mono ?_; rintro e w2 ⟨rfl, hk⟩; have HK2 := Lib.hid hk; clear hk)
      | (go_at_call 69; with_reducible refine (t_isDigit U 0 0 true rfl (by rw [HU.out.2.2.2]; decide) (by rw [HU.out.1]; simp [HX.out.2.2.1, HX.out.2.2.2]) _).mono ?_; rintro e w3 ⟨rfl, hk⟩; have HK3 := Lib.hid hk; clear hk)
      | (with_reducible refine at_slice ?_; refine wp_drop (.tmp 32) _ _ T 1 rfl rfl rfl rfl (by rw [HT.out.2.2.2]; decide) (by kernel_rfl) ?_; rw [HT.out.2.2.1])
      | (with_reducible refine at_slice ?_; refine wp_drop (.tmp 43) _ _ U 1 rfl rfl rfl rfl (by rw [HU.out.2.2.2]; decide) (by kernel_rfl) ?_; rw [HU.out.2.2.1])
      )
    have KK := (HK1.out.trans HK2.out).trans HK3.out
    have h3 := HM.out
    go_loopg [6, 7] 12 (fun k v6 v7 wr => ∃ j mo : Nat, 1 ≤ j ∧ j + k = 13 ∧ v7 = .int .i64 (j : Int) ∧ v6 = .int .i64 (mo : Int) ∧ mo = (if m < j then m else 0) ∧ Keep (fun _ => False) w wr)
    case atStart => exact ⟨1, 0, by omega, by omega, rfl, rfl, by rw [if_neg (by omega)], KK⟩
    case round =>
      obtain ⟨j, mo, hj1, hjk, rfl, rfl, hmo, hk⟩ := hrel
      have HK := Lib.hid hk
      have HMO := Lib.hid hmo
      clear hk hmo
      by_cases hj : j ≤ 12
      · have hjle : (j : Int) ≤ 12 := by omega
        have hms : (bs months).size = 36 := by rw [bs_size]; rfl
        have g1 : (3 : Int) ≤ 3 * (j : Int) := by omega
        have g2 : 3 * (j : Int) ≤ 36 := by omega
        have g3 : (3 * (j : Int) - 3).toNat = 3 * j - 3 := by omega
        have g4 : (3 * (j : Int)).toNat = 3 * j := by omega
        have hex : (bs months).extract (3 * j - 3) (3 * j) = bs (mon j) := by rw [bs_extract, months_at j hj1 hj]
        have HG := Lib.hid hj1
        clear hj1
        go_wp2_with (go_at_call 70; refine (t_months _).mono ?_; rintro e w4 ⟨rfl, hk4⟩; have HK4 := Lib.hid (HK.out.trans hk4); clear hk4)
        have hj1 := HG.out
        clear hms g1 g2 g3 g4 hex
        obtain ⟨p0, q0⟩ := mon_big j 0 hj1 hj (by omega)
        obtain ⟨p1, q1⟩ := mon_big j 1 hj1 hj (by omega)
        obtain ⟨p2, q2⟩ := mon_big j 2 hj1 hj (by omega)
        have hjl : (bs (mon j)).size = 3 := by rw [bs_size]; exact mon_len j hj1 hj
        obtain ⟨r0, s0⟩ := mon_big m 0 h3.1 h3.2 (by omega)
        obtain ⟨r1, s1⟩ := mon_big m 1 h3.1 h3.2 (by omega)
        obtain ⟨r2, s2⟩ := mon_big m 2 h3.1 h3.2 (by omega)
        have hall := alike_all j m hj1 hj h3.1 h3.2
        have z0 := HN3.out 0 (by omega)
        have z1 := HN3.out 1 (by omega)
        have z2 := HN3.out 2 (by omega)
        simp only [Nat.add_zero, Nat.reduceAdd] at z0 z1 z2
        rw [← z0] at r0 s0
        rw [← z1] at r1 s1
        rw [← z2] at r2 s2
        have b0 : (bits .or .u8 (nth (mon j) 0 : Int) 32 == bits .or .u8 (nth S 1 : Int) 32) = alike j m 0 := by rw [z0]; rfl
        have b1 : (bits .or .u8 (nth (mon j) 1 : Int) 32 == bits .or .u8 (nth S 2 : Int) 32) = alike j m 1 := by rw [z1]; rfl
        have b2 : (bits .or .u8 (nth (mon j) 2 : Int) 32 == bits .or .u8 (nth S 3 : Int) 32) = alike j m 2 := by rw [z2]; rfl
        generalize alike j m 0 = e0 at *
        generalize alike j m 1 = e1 at *
        generalize alike j m 2 = e2 at *
        have c1 : (65 : Int) ≤ (nth S 1 : Int) := by omega
        have c2 : (65 : Int) ≤ (nth S 2 : Int) := by omega
        have c3 : (65 : Int) ≤ (nth S 3 : Int) := by omega
        have w1' : IntKind.i64.wrap 1 = 1 := by rfl
        have w2' : IntKind.i64.wrap 2 = 2 := by rfl
        have w3' : IntKind.i64.wrap 3 = 3 := by rfl
        have HA := Lib.hid hall
        clear p0 p1 p2 q0 q1 q2 r0 r1 r2 s0 s1 s2 z0 z1 z2 hall
        go_loopg [9, 10] 3 (fun k v9 v10 wi => ∃ (i : Nat) (b : Bool), i + k = 3 ∧ v10 = .int .i64 (i : Int) ∧ v9 = .bool b ∧ b = pre3 e0 e1 e2 i ∧ Keep (fun _ => False) w wi)
        case atStart => exact ⟨0, true, by omega, rfl, rfl, rfl, HK4.out⟩
        case round =>
          obtain ⟨i, b, hik, rfl, rfl, hb, hki⟩ := hrel
          have HKI := Lib.hid hki
          clear hki
          have hi : i = 0 ∨ i = 1 ∨ i = 2 ∨ i = 3 := by omega
          rcases hi with rfl | rfl | rfl | rfl
          · simp only [pre3] at hb
            subst hb
            cases e0
            all_goals
              go_wp2
              go_quiet (fail)
              go_wp2
              go_roundg 2
              case measure => omega
              case rel => exact ⟨1, _, by omega, rfl, rfl, by simp [pre3], HKI.out.drewN _⟩
          · simp only [pre3] at hb
            subst hb
            cases b
            all_goals try cases e1
            all_goals
              go_wp2
              go_quiet (fail)
              go_wp2
              go_roundg 1
              case measure => omega
              case rel => exact ⟨2, _, by omega, rfl, rfl, by simp [pre3], HKI.out.drewN _⟩
          · simp only [pre3] at hb
            cases e0
            all_goals cases e1
            all_goals simp only [Bool.and_true, Bool.and_false, Bool.false_and, Bool.true_and] at hb
            all_goals subst hb
            all_goals try cases e2
            all_goals
              go_wp2
              go_quiet (fail)
              go_wp2
              go_roundg 0
              case measure => omega
              case rel => exact ⟨3, _, by omega, rfl, rfl, by simp [pre3], HKI.out.drewN _⟩
          · simp only [pre3] at hb
            rw [HA.out] at hb
            have hmo := HMO.out
            by_cases hjm : j = m
            · rw [decide_eq_true hjm] at hb
              subst hb
              go_wp2
              go_roundg (12 - j)
              case measure => omega
              case rel => exact ⟨j + 1, j, by omega, by omega, by rw [hjm]; rfl, rfl, by rw [if_pos (by omega)]; exact hjm, HKI.out⟩
            · rw [decide_eq_false hjm] at hb
              subst hb
              go_wp2
              go_roundg (12 - j)
              case measure => omega
              case rel => exact ⟨j + 1, mo, by omega, by omega, rfl, rfl, by rw [hmo]; split <;> split <;> omega, HKI.out⟩
      · have hnle : ¬ (j : Int) ≤ 12 := by omega
        have hmo := HMO.out
        rw [if_pos (by omega)] at hmo
        subst hmo
        have hm0 : ((mo : Int) == 0) = false := by rw [beq_eq_false_iff_ne]; omega
        have hyy := HY.out
        go_wp2
        go_loopg [11, 12] 4 (fun k v11 v12 wi => ∃ i : Nat, 5 ≤ i ∧ i + k = 9 ∧ v12 = .int .i64 (i : Int) ∧ v11 = .int .i64 ((y / 10 ^ (9 - i) : Nat) : Int) ∧ Keep (fun _ => False) w wi)
        case atStart => exact ⟨5, by omega, by omega, rfl, (by rw [show y / 10 ^ (9 - 5) = 0 from Nat.div_eq_of_lt (by omega)]; rfl), HK.out⟩
        case round =>
          obtain ⟨i, hi5, hik, rfl, rfl, hki⟩ := hrel
          have HKI := Lib.hid hki
          clear hki
          by_cases hi9 : i < 9
          · obtain ⟨q, hq1, hq2, hq3⟩ := HN5.out i hi5 hi9
            have hYl : y / 10 ^ (9 - i) ≤ y := Nat.div_le_self _ _
            obtain ⟨Y0, hY0⟩ : ∃ Y0, Y0 = y / 10 ^ (9 - i) := ⟨_, rfl⟩
            rw [← hY0] at hq3 hYl ⊢
            obtain ⟨N, hN⟩ : ∃ N, N = 48 + q := ⟨_, rfl⟩
            rw [← hN] at hq1
            have hq48 : ((N : Int) - 48) % 256 = (q : Int) := by omega
            have hilt : (i : Int) < 9 := by omega
            have HQ := Lib.hid (And.intro hq3 (And.intro hN (And.intro hi5 hik)))
            clear hq3 hN hY0 hi5 hik
            go_wp2_with (go_at_call 69; refine (t_isDigit S (i : Int) i true rfl (by rw [HLEN.out]; omega) (by rw [hq1, HQ.out.2.1]; simp; omega) _).mono ?_; rintro e w5 ⟨rfl, hk5⟩; have HK5 := Lib.hid hk5; clear hk5)
            obtain ⟨e3, e4, e5, e6⟩ := HQ.out
            go_roundg (8 - i)
            case measure => omega
            case rel => exact ⟨i + 1, by omega, by omega, rfl, (by rw [show 9 - (i + 1) = 8 - i from by omega, e3]; rfl), HKI.out.trans HK5.out⟩
          · obtain rfl : i = 9 := by omega
            have e9 : ((y / 10 ^ (9 - 9) : Nat) : Int) = (y : Int) := by simp
            have hdd := HD.out
            have hd1 : (1 : Int) ≤ (d : Int) := by omega
            have hd2 : (d : Int) ≤ (dimN mo y : Int) := by omega
            rw [e9]
            go_wp2_with (first
              | (go_at_call 71; refine (t_daysIn mo y _).mono ?_; rintro e w5 ⟨rfl, hk5⟩; have HK5 := Lib.hid hk5; clear hk5)
              | (go_at_call 72; refine (t_dayOf y mo d (by omega) hyy.2 h3.1 h3.2 hdd.1 hdd.2.2 _).mono ?_; rintro e w6 ⟨rfl, hk6⟩; have HK6 := Lib.hid hk6; clear hk6))
            go_ret2
            exact ⟨rfl, (HKI.out.trans HK5.out).trans HK6.out⟩
end Go.Proofs.YtlnbikcfjnloaaaGreatDoor
