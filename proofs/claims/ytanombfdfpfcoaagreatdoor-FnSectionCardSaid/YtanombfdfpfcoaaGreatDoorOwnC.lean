/- How a section's middle is read, for the proof of FnSection, at right sections. -/
import Derived.Test.YtanombfdfpfcoaaGreatDoorOwnA
import Derived.Test.YtanombfdfpfcoaaGreatDoorPzzCutx1
import Derived.Test.YtanombfdfpfcoaaGreatDoorPSectionText9x1
import Derived.Lib.ItoaNum
import Derived.Lib.Atoi
import Derived.Lib.Case
import Derived.Test.YtanombfdfpfcoaaGreatDoorShelf
import Derived.Test.YtanombfdfpfcoaaGreatDoorOwnB
import Derived.WalkMore
namespace Go.Proofs.YtanombfdfpfcoaaGreatDoor
set_option linter.unusedVariables false
set_option linter.unusedSimpArgs false
open Go.RowKit Go.Proofs.YtanombfdfpfcoaaGreatDoorW.PrintWords

theorem wrap_small (x : Int) (h0 : -1000000000000 ≤ x) (h1 : x ≤ 1000000000000) : wrap64 x = x := by
  unfold wrap64
  omega

theorem keep_drawn0 (M : Nat → Prop) {w w' : World} (h : Drawn0 w w') : Keep M w w' := by
  obtain ⟨n, rfl⟩ := h
  exact (Keep.refl M w).drewN n

theorem idx_step (s : List UInt8) (c : UInt8) (k i : Nat) (hi : i < s.length) (hl : s.length < 1000000000) :
    PzzCut.goimap_zzIndex.l0 (k + 1) (bs s) (bs [c]) (i : Int) = if s.getD i 0 = c then some (i : Int) else PzzCut.goimap_zzIndex.l0 k (bs s) (bs [c]) ((i + 1 : Nat) : Int) := by
  have h1 : wrap64 ((i : Int) + ((bs [c]).size : Int)) = ((i + 1 : Nat) : Int) := by rw [bs_size]; rw [wrap_small _ (by simp; omega) (by simp; omega)]; simp
  have h2 : wrap64 ((i : Int) + 1) = ((i + 1 : Nat) : Int) := by rw [wrap_small _ (by omega) (by omega)]; simp
  simp only [PzzCut.goimap_zzIndex.l0]
  rw [h1, h2, if_pos (by rw [bs_size]; omega), if_pos (by omega), if_pos (by omega), bs_extract, bs_toList, bs_toList, Int.toNat_natCast, Int.toNat_natCast]
  have h3 : (s.take (i + 1)).drop i = [s.getD i 0] := by
    rw [List.take_add_one, List.drop_append_of_le_length (by simp; omega)]
    simp [List.getD, hi]
  rw [h3]
  simp

theorem idx_found (pre post : List UInt8) (c : UInt8) (hc : ∀ x ∈ pre, x ≠ c) (hl : (pre ++ c :: post).length < 1000000000) (w : World) :
    Calls Tryz.prog 25 #[.string (bs (pre ++ c :: post)), .string (bs [c])] w fun e w' => e = .returned (.int .i64 pre.length) ∧ Keep (fun _ => False) w w' := by
  have key : ∀ d i, i + d = pre.length → PzzCut.goimap_zzIndex.l0 (d + 1) (bs (pre ++ c :: post)) (bs [c]) (i : Int) = some (pre.length : Int) := by
    intro d
    induction d with
    | zero =>
      intro i hi
      have : i = pre.length := by omega
      subst this
      rw [idx_step _ _ _ _ (by simp) hl, if_pos (by simp [List.getD])]
    | succ d ih =>
      intro i hi
      have hlt : i < pre.length := by omega
      rw [idx_step _ _ _ _ (by simp; omega) hl, if_neg, ih (i + 1) (by omega)]
      have : (pre ++ c :: post).getD i 0 = pre[i] := by simp [List.getD, List.getElem?_append_left hlt, hlt]
      rw [this]
      exact hc _ (List.getElem_mem _)
  refine (PzzCut.goimap_zzIndex.calls (pre.length + 1) _ _ _ w (key pre.length 0 (by omega))).mono ?_
  rintro e w' ⟨rfl, h⟩
  exact ⟨rfl, keep_drawn0 _ h⟩

theorem idx_none (s : List UInt8) (c : UInt8) (hc : ∀ x ∈ s, x ≠ c) (hl : s.length < 1000000000) (w : World) :
    Calls Tryz.prog 25 #[.string (bs s), .string (bs [c])] w fun e w' => e = .returned (.int .i64 (-1)) ∧ Keep (fun _ => False) w w' := by
  have key : ∀ d i, i + d = s.length → PzzCut.goimap_zzIndex.l0 (d + 1) (bs s) (bs [c]) (i : Int) = some (-1) := by
    intro d
    induction d with
    | zero =>
      intro i hi
      have : i = s.length := by omega
      subst this
      simp only [PzzCut.goimap_zzIndex.l0]
      rw [if_neg]
      rw [bs_size, bs_size, wrap_small _ (by simp; omega) (by simp; omega)]
      simp
      omega
    | succ d ih =>
      intro i hi
      have hlt : i < s.length := by omega
      rw [idx_step _ _ _ _ hlt hl, if_neg, ih (i + 1) (by omega)]
      have : s.getD i 0 = s[i] := by simp [List.getD, hlt]
      rw [this]
      exact hc _ (List.getElem_mem _)
  refine (PzzCut.goimap_zzIndex.calls (s.length + 1) _ _ _ w (key s.length 0 (by omega))).mono ?_
  rintro e w' ⟨rfl, h⟩
  exact ⟨rfl, keep_drawn0 _ h⟩

theorem cut_found (pre post : List UInt8) (c : UInt8) (hc : ∀ x ∈ pre, x ≠ c) (hl : (pre ++ c :: post).length < 1000000000) (w : World) :
    Calls Tryz.prog 34 #[.string (bs (pre ++ c :: post)), .string (bs [c])] w fun e w' => e = .returned (.tuple #[.string (bs pre), .string (bs post), .bool true]) ∧ Keep (fun _ => False) w w' := by
  have key : ∀ d i, i + d = pre.length → PzzCut.goimap_zzIndex.l0 (d + 1) (bs (pre ++ c :: post)) (bs [c]) (i : Int) = some (pre.length : Int) := by
    intro d
    induction d with
    | zero =>
      intro i hi
      have : i = pre.length := by omega
      subst this
      rw [idx_step _ _ _ _ (by simp) hl, if_pos (by simp [List.getD])]
    | succ d ih =>
      intro i hi
      have hlt : i < pre.length := by omega
      rw [idx_step _ _ _ _ (by simp; omega) hl, if_neg, ih (i + 1) (by omega)]
      have : (pre ++ c :: post).getD i 0 = pre[i] := by simp [List.getD, List.getElem?_append_left hlt, hlt]
      rw [this]
      exact hc _ (List.getElem_mem _)
  have hk : PzzCut.goimap_zzCut.f (pre.length + 1) (bs (pre ++ c :: post)) (bs [c]) = some (bs pre, bs post, true) := by
    have h1 : wrap64 ((pre.length : Int) + ((bs [c]).size : Int)) = ((pre.length + 1 : Nat) : Int) := by rw [bs_size]; rw [wrap_small _ (by simp; omega) (by simp at hl; simp; omega)]; simp
    simp only [PzzCut.goimap_zzCut.f, PzzCut.goimap_zzIndex.f]
    rw [show (0 : Int) = ((0 : Nat) : Int) from rfl, key pre.length 0 (by omega)]
    simp only [Option.bind_some]
    rw [h1, if_pos (by simp), if_pos (by simp), if_pos (by rw [bs_size]; simp; omega), if_pos (by simp; omega), if_pos (by rw [bs_size]; simp; omega)]
    rw [bs_extract, bs_extract, bs_size, Int.toNat_natCast, Int.toNat_natCast, List.take_length]
    simp
  refine (PzzCut.goimap_zzCut.calls (pre.length + 1) _ _ _ _ _ w hk).mono ?_
  rintro e w' ⟨rfl, h⟩
  exact ⟨rfl, keep_drawn0 _ h⟩
end Go.Proofs.YtanombfdfpfcoaaGreatDoor

namespace Go.Proofs.YtanombfdfpfcoaaGreatDoor
set_option linter.unusedVariables false
set_option linter.unusedSimpArgs false
open Go.RowKit

theorem Tryz.elemS : Elem Tryz.prog 23 9 (.string ⟨#[]⟩) 16 :=
  ⟨by kernel_rfl, info_parts (by kernel_rfl), rfl, by decide⟩
/-- A string value. -/
def strV (a : List UInt8) : Value := .string (bs a)

set_option maxRecDepth 100000 in
theorem t_split (c : UInt8) (ps : List (List UInt8)) (h0 : ps ≠ []) (hlen : ps.length < 1000) (hc : ∀ p ∈ ps, ∀ x ∈ p, x ≠ c) (hl : (joinB c ps).length < 1000000) (w : World) :
    Calls Tryz.prog 47 #[.string (bs (joinB c ps)), .string (bs [c])] w fun e w' => ∃ v, e = .returned v ∧
      w'.ownsRow w.heap.size 9 1 v ps.length (ps.map strV) ∧ Keep (fun _ => False) w w' := by
  have hs1 : (bs [c]).size = 1 := by rw [bs_size]; rfl
  have HC := Lib.hid hc
  have HL := Lib.hid hl
  have HP := Lib.hid h0
  clear hc hl h0
  go_enter Tryz.func47, Tryz.ntmps47
  go_wp2
  go_loopg [0, 5] ps.length (fun k v0 v5 wr => ∃ done rest, ps = done ++ rest ∧ rest.length = k ∧ rest ≠ [] ∧ v0 = .string (bs (joinB c rest)) ∧ (joinB c rest).length < 1000000 ∧ wr.ownsRow w.heap.size 9 1 v5 done.length (done.map strV) ∧ Keep (fun _ => False) w wr)
  case atStart => exact ⟨[], ps, rfl, rfl, HP.out, rfl, HL.out, World.ownsRow_nil _ _ _ _, Keep.refl _ _⟩
  case round =>
    obtain ⟨done, rest, hd, hk, hr0, rfl, hjl, hown, hkp⟩ := hrel
    have hdl : done.length < 1000 := by have := congrArg List.length hd; simp at this; omega
    cases rest with
    | nil => exact absurd rfl hr0
    | cons a rest =>
    have hca := HC.out a (by rw [hd]; simp)
    have hsz := hkp.size
    have HD := Lib.hid hd
    have HO := Lib.hid hown
    have HK := Lib.hid hkp
    have HCA := Lib.hid hca
    have HKK := Lib.hid hk
    clear hd hown hkp hca hk hr0
    cases rest with
    | nil =>
      simp only [joinB] at *
      go_wp2_with (first
        | (go_at_call 25; refine (idx_none a c HCA.out (by omega) _).mono ?_; rintro e w1 ⟨rfl, hk1⟩; have hz1 := hk1.size; have HK1 := Lib.hid hk1; clear hk1)
        | (at_builtin; refine wp_app1 Tryz.elemS (.tmp 42) (.tmp 44) rfl rfl w.heap.size _ done.length (done.map strV) rfl ((ownsRow_keep HO.out HK1.out (fun _ _ _ h => h)).alloc _) w1.heap.size (strV a) rfl (((Blk.new w1 _ _).cell 0).trans rfl) rfl (by omega) (by simp; omega) ?_; intro v4 w4 hv4 hk4 hb4 hat4; have hk04 := ((HK.out.trans HK1.out).alloc (.cells #[strV a] 9)).trans' hk4 (fun i hi hb => absurd hi (Nat.not_lt.2 hb)); have HV4 := Lib.hid hv4; have HK4 := Lib.hid hk04; clear hv4 hk4 hb4 hat4 hk04))
      go_ret
      refine ⟨v4, rfl, ?_, HK4.out⟩
      rw [HD.out]
      simpa using HV4.out
    | cons b r =>
      have hjj : joinB c (a :: b :: r) = a ++ c :: joinB c (b :: r) := rfl
      have hll : (a ++ c :: joinB c (b :: r)).length < 1000000 := by rw [← hjj]; exact hjl
      have hll2 : a.length + ((joinB c (b :: r)).length + 1) < 1000000 := by simpa using hll
      have HJ := Lib.hid (And.intro hjj hll)
      clear hjl hjj hll
      go_wp2_with (first
        | (go_at_call 25; rw [HJ.out.1]; refine (idx_found a (joinB c (b :: r)) c HCA.out (by have := HJ.out.2; omega) _).mono ?_; rintro e w1 ⟨rfl, hk1⟩; have hz1 := hk1.size; have HK1 := Lib.hid hk1; clear hk1)
        | (with_reducible refine at_slice ?_; first
            | (refine wp_take (.tmp 47) (.tmp 48) _ (a ++ c :: joinB c (b :: r)) a.length rfl rfl rfl rfl (by simp) (by kernel_rfl) ?_; rw [List.take_left])
            | (refine wp_drop (.tmp 52) (.tmp 56) _ (a ++ c :: joinB c (b :: r)) (a.length + 1) rfl rfl rfl rfl (by simp) (by kernel_rfl) ?_; rw [show (a ++ c :: joinB c (b :: r)).drop (a.length + 1) = joinB c (b :: r) from by simp]))
        | (at_builtin; refine wp_app1 Tryz.elemS (.tmp 46) (.tmp 50) rfl rfl w.heap.size _ done.length (done.map strV) rfl ((ownsRow_keep HO.out HK1.out (fun _ _ _ h => h)).alloc _) w1.heap.size (strV a) rfl (((Blk.new w1 _ _).cell 0).trans rfl) rfl (by omega) (by simp; omega) ?_; intro v4 w4 hv4 hk4 hb4 hat4; have hk04 := ((HK.out.trans HK1.out).alloc (.cells #[strV a] 9)).trans' hk4 (fun i hi hb => absurd hi (Nat.not_lt.2 hb)); have HV4 := Lib.hid hv4; have HK4 := Lib.hid hk04; clear hv4 hk4 hb4 hat4 hk04))
      have hk := HKK.out
      go_roundg (gk - 1)
      case measure => simp at hk; omega
      case rel => exact ⟨done ++ [a], b :: r, by rw [HD.out]; simp, by simp at hk ⊢; omega, by simp, rfl, by omega, by simpa using HV4.out, HK4.out⟩
end Go.Proofs.YtanombfdfpfcoaaGreatDoor

namespace Go.Proofs.YtanombfdfpfcoaaGreatDoor
set_option linter.unusedVariables false
set_option linter.unusedSimpArgs false
open Go.RowKit Go.Proofs.YtanombfdfpfcoaaGreatDoorW.PrintWords

/-- A number's digits. -/
def dig (n : Nat) : List UInt8 := Lib.decDigits n
theorem dig_small {n : Nat} (h : n < 10) : dig n = [UInt8.ofNat (48 + n)] := Lib.decDigits_one h
theorem dig_big {n : Nat} (h : ¬ n < 10) : dig n = dig (n / 10) ++ [UInt8.ofNat (48 + n % 10)] := by
  unfold dig
  rw [Lib.decDigits, dif_neg h]
theorem dig_ind {P : Nat → List UInt8 → Prop} (h1 : ∀ n, n < 10 → P n [UInt8.ofNat (48 + n)]) (h2 : ∀ n, ¬ n < 10 → P (n / 10) (dig (n / 10)) → P n (dig (n / 10) ++ [UInt8.ofNat (48 + n % 10)])) (n : Nat) : P n (dig n) := by
  induction n using Nat.strongRecOn with
  | _ n ih =>
    by_cases h : n < 10
    · rw [dig_small h]; exact h1 n h
    · rw [dig_big h]; exact h2 n h (ih _ (by omega))
theorem digit_ok (k : Nat) (h : k < 10) : (UInt8.ofNat (48 + k)).toNat = 48 + k := by
  rw [UInt8.toNat_ofNat']
  omega
theorem dig_mem (n : Nat) : ∀ b ∈ dig n, 48 ≤ b.toNat ∧ b.toNat ≤ 57 := by
  refine dig_ind (P := fun _ l => ∀ b ∈ l, 48 ≤ b.toNat ∧ b.toNat ≤ 57) ?_ ?_ n
  · intro n h b hb
    simp only [List.mem_singleton] at hb
    subst hb
    rw [digit_ok n h]; omega
  · intro n h ih b hb
    rcases List.mem_append.1 hb with hb | hb
    · exact ih b hb
    · simp only [List.mem_singleton] at hb
      subst hb
      rw [digit_ok _ (Nat.mod_lt _ (by omega))]; have := Nat.mod_lt n (show 0 < 10 by omega); omega
theorem dig_ne (n : Nat) : dig n ≠ [] := dig_ind (P := fun _ l => l ≠ []) (fun _ _ => by simp) (fun _ _ _ => by simp) n
theorem dig_len (n : Nat) : ∀ k, 1 ≤ k → n < 10 ^ k → (dig n).length ≤ k := by
  refine dig_ind (P := fun n l => ∀ k, 1 ≤ k → n < 10 ^ k → l.length ≤ k) ?_ ?_ n
  · intro n h k hk _
    simpa using hk
  · intro n h ih k hk hlt
    have h2 : k ≠ 1 := by rintro rfl; omega
    have h3 : n / 10 < 10 ^ (k - 1) := by
      rw [Nat.div_lt_iff_lt_mul (by omega), ← Nat.pow_succ]
      rwa [show (k - 1).succ = k from by omega]
    have := ih (k - 1) (by omega) h3
    simp; omega
theorem dig_len7 (n : Nat) (h : n < 10000000) : (dig n).length ≤ 7 := dig_len n 7 (by omega) (by simpa using h)
theorem decFrom_app (l : List UInt8) (b : UInt8) : ∀ acc m, Lib.decFrom acc l = some m → 48 ≤ b.toNat → b.toNat ≤ 57 → Lib.decFrom acc (l ++ [b]) = some (m * 10 + (b.toNat - 48)) := by
  induction l with
  | nil =>
    intro acc m h h1 h2
    simp only [Lib.decFrom, Option.some.injEq] at h
    subst h
    simp [Lib.decFrom, Lib.digitVal, h1, h2]
  | cons c l ih =>
    intro acc m h h1 h2
    simp only [Lib.decFrom, List.cons_append] at h ⊢
    split at h
    · exact ih _ _ h h1 h2
    · cases h
theorem dig_dec (n : Nat) : Lib.decFrom 0 (dig n) = some n := by
  refine dig_ind (P := fun n l => Lib.decFrom 0 l = some n) ?_ ?_ n
  · intro n h
    simp only [Lib.decFrom, Lib.digitVal, digit_ok n h]
    rw [if_pos (by omega)]
    simp
  · intro n h ih
    have hm := Nat.mod_lt n (show 0 < 10 by omega)
    rw [decFrom_app _ _ _ _ ih (by rw [digit_ok _ hm]; omega) (by rw [digit_ok _ hm]; omega), digit_ok _ hm]
    congr 1
    omega
theorem dig_atoi (n : Nat) : Lib.atoi (dig n) = some (n : Int) := by
  have h1 := dig_dec n
  have h2 := dig_mem n
  cases h : dig n with
  | nil => exact absurd h (dig_ne n)
  | cons b r =>
    rw [h] at h1 h2
    have hb := h2 b (by simp)
    have e1 : (b == 45) = false := by
      rw [beq_eq_false_iff_ne]; rintro rfl; exact absurd hb.1 (by decide)
    have e2 : (b == 43) = false := by
      rw [beq_eq_false_iff_ne]; rintro rfl; exact absurd hb.1 (by decide)
    unfold Lib.atoi
    simp [e1, e2, Lib.decNat, h1]

theorem strOf_one (k : Nat) (h : k < 10) : strOfNums [(wrap64 (48 + (k : Int))) % 256] = bs [UInt8.ofNat (48 + k)] := by
  rw [wrap_small _ (by omega) (by omega), bs_def]
  match k, h with
  | 0, _ => rfl
  | 1, _ => rfl
  | 2, _ => rfl
  | 3, _ => rfl
  | 4, _ => rfl
  | 5, _ => rfl
  | 6, _ => rfl
  | 7, _ => rfl
  | 8, _ => rfl
  | 9, _ => rfl

theorem num9_l (n : Nat) : ∀ acc : List UInt8, acc.length + n < 100000000 → ∃ k, PSectionText9.spec_Number9.l0 k (n : Int) (bs acc) = some (bs (dig n ++ acc)) := by
  refine dig_ind (P := fun n l => ∀ acc : List UInt8, acc.length + n < 100000000 → ∃ k, PSectionText9.spec_Number9.l0 k (n : Int) (bs acc) = some (bs (l ++ acc))) ?_ ?_ n
  · intro n h acc ha
    refine ⟨1, ?_⟩
    simp only [PSectionText9.spec_Number9.l0]
    rw [if_neg (by omega)]
    simp only [Option.bind_some]
    rw [strOf_one n h, if_pos (by rw [bs_size, bs_size]; simp; omega), bs_app]
  · intro n h ih acc ha
    have hm := Nat.mod_lt n (show 0 < 10 by omega)
    obtain ⟨k, hk⟩ := ih (UInt8.ofNat (48 + n % 10) :: acc) (by simp; omega)
    refine ⟨k + 1, ?_⟩
    simp only [PSectionText9.spec_Number9.l0]
    rw [if_pos (by omega)]
    simp only [Option.bind_some]
    have e1 : (n : Int).tmod 10 = ((n % 10 : Nat) : Int) := (Int.ofNat_tmod n 10).symm
    have e3 : (n : Int).tdiv 10 = ((n / 10 : Nat) : Int) := (Int.ofNat_tdiv n 10).symm
    have e2 : wrap64 ((n : Int).tdiv 10) = ((n / 10 : Nat) : Int) := by rw [e3, wrap_small _ (by omega) (by omega)]
    rw [e1, e2, strOf_one _ hm, if_pos (by rw [bs_size, bs_size]; simp; omega), bs_app]
    simpa using hk

theorem t_number9 (n : Nat) (hn : n < 10000000) (w : World) :
    Calls Tryz.prog 15 #[.int .i64 n] w fun e w' => e = .returned (.string (bs (dig n))) ∧ Keep (fun _ => False) w w' := by
  obtain ⟨k, hk⟩ := num9_l n [] (by simp; omega)
  rw [List.append_nil] at hk
  have hk2 : PSectionText9.spec_Number9.f k (n : Int) = some (bs (dig n)) := by
    unfold PSectionText9.spec_Number9.f
    rw [← bs_nil]
    exact hk
  refine (PSectionText9.spec_Number9.calls k _ _ w hk2).mono ?_
  rintro e w' ⟨rfl, h⟩
  exact ⟨rfl, Keep.of_below h⟩
end Go.Proofs.YtanombfdfpfcoaaGreatDoor

namespace Go.Proofs.YtanombfdfpfcoaaGreatDoor
set_option linter.unusedVariables false
set_option linter.unusedSimpArgs false
open Go.RowKit

theorem last_found (pre post : List UInt8) (c : UInt8) (hc : ∀ x ∈ post, x ≠ c) (hl : (pre ++ c :: post).length < 1000000000) (w : World) :
    Calls Tryz.prog 27 #[.string (bs (pre ++ c :: post)), .string (bs [c])] w fun e w' => e = .returned (.int .i64 pre.length) ∧ w' = w := by
  refine (Tryz.strings_LastIndex_one (bs (pre ++ c :: post)) (bs [c]) (by rw [bs_size]; rfl) (by rw [bs_size]; omega) w).mono ?_
  rintro e w' ⟨rfl, rfl⟩
  refine ⟨?_, rfl⟩
  have hcc : ((bs [c])[0]'(by rw [bs_size]; simp)).toNat = c.toNat := by
    have : (bs [c])[0]'(by rw [bs_size]; simp) = (bs [c]).data[0]'(by simp [bs_def]) := rfl
    rw [this]
    simp [bs_def]
  rw [hcc]
  have hat : ∀ j, (bs (pre ++ c :: post)).data[j]! = (pre ++ c :: post).getD j 0 := by
    intro j
    rw [bs_def]
    simp only [List.getElem!_toArray, List.getD_eq_getElem?_getD, List.getElem!_eq_getElem?_getD]
    rfl
  have h0 : (pre ++ c :: post).getD pre.length 0 = c := by simp [List.getD]
  have hsz : (bs (pre ++ c :: post)).size = pre.length + (post.length + 1) := by rw [bs_size]; simp
  rcases Lib.lastIndexByte_spec (bs (pre ++ c :: post)) (c.toNat : Int) with ⟨_, h⟩ | ⟨i, hi, he, hci, h⟩
  · exact absurd (by rw [hat, h0]) (h pre.length (by rw [hsz]; omega))
  · rw [he]
    by_cases h1 : i < pre.length
    · exact absurd (by rw [hat, h0]) (h pre.length h1 (by rw [hsz]; omega))
    · by_cases h2 : i = pre.length
      · rw [h2]
      · rw [hat] at hci
        have h3 : (pre ++ c :: post).getD i 0 ∈ post := by
          obtain ⟨d, rfl⟩ : ∃ d, i = pre.length + (d + 1) := ⟨i - pre.length - 1, by omega⟩
          have hd : d < post.length := by rw [hsz] at hi; omega
          rw [List.getD_eq_getElem?_getD, List.getElem?_append_right (by omega)]
          simp [hd]
        refine absurd ?_ (hc _ h3)
        apply UInt8.toNat_inj.1
        omega
end Go.Proofs.YtanombfdfpfcoaaGreatDoor

namespace Go.Proofs.YtanombfdfpfcoaaGreatDoor
set_option linter.unusedVariables false
set_option linter.unusedSimpArgs false
open Go.RowKit

def cHEADER : List UInt8 := [72, 69, 65, 68, 69, 82]
def cMIME : List UInt8 := [77, 73, 77, 69]
def cTEXT : List UInt8 := [84, 69, 88, 84]
def cFIELDS : List UInt8 := [70, 73, 69, 76, 68, 83]
def cNOT : List UInt8 := [78, 79, 84]
/-- What the specifier may be. -/
def PartOk (p : List UInt8) : Prop := p = cHEADER ∨ p = cMIME ∨ p = cTEXT
def nI (n : Nat) : Value := .int .i64 n
theorem dig_first (n : Nat) (l : List UInt8) (b : UInt8) (r : List UInt8) (h : l = b :: r) (hb : ¬ (48 ≤ b.toNat ∧ b.toNat ≤ 57)) : (dig n == l) = false := by
  rw [beq_eq_false_iff_ne]
  rintro rfl
  exact hb (dig_mem n b (by rw [h]; simp))
theorem dig_nil (n : Nat) : (dig n == []) = false := by
  rw [beq_eq_false_iff_ne]
  exact dig_ne n
theorem Tryz.assertS (v : Value) (w : World) : (Instr.typeAssert (.iface 9 v) 20 9 true).run Tryz.prog w = .ok (.tuple #[v, .bool true]) w := by kernel_rfl
theorem Tryz.assertL (v : Value) (w : World) : (Instr.typeAssert (.iface 63 v) 20 63 true).run Tryz.prog w = .ok (.tuple #[v, .bool true]) w := by kernel_rfl
set_option maxRecDepth 100000 in
theorem t_bp0 (w : World) (q : Nat) :
    Calls Tryz.prog 31 #[.pointer (some ⟨q, 0, none⟩), .slice none 0 0] w fun e w' => e = .returned .nilIface ∧ w' = w := by
  go_enter Tryz.func31, Tryz.ntmps31
  go_wp2
  go_step3
  go_wp2
  rw [Exit.noGoto_ret]
  go_ret
  exact ⟨rfl, rfl⟩

set_option maxRecDepth 100000 in
set_option maxHeartbeats 1000000 in
theorem t_bp1 (w : World) (q base : Nat) (pk pt vl : Value) (hq : Blk w q #[.string ⟨#[]⟩, .slice none 0 0, .slice none 0 0, .bool false, pk, pt, vl] 53) (hqb : q < base) (v : Value) (A : List UInt8) (hv : w.ownsRow base 20 1 v 1 [strI A])
    (path : List Nat) (tl ps : List (List UInt8)) (part : List UInt8) (htl : (tl = [] ∧ part = []) ∨ (tl = [part] ∧ PartOk part)) (hps : ps = path.map dig ++ tl) (hne : ps ≠ []) (hlen : path.length ≤ 6) (hpath : ∀ p ∈ path, 0 < p ∧ p < 1000)
    (hup : Lib.toUpperA A = joinB 46 ps) (hA : A.length < 100000) (hasc : ∀ (j : Nat) (b : UInt8), A[j]? = some b → b.toNat < 128) :
    Calls Tryz.prog 31 #[.pointer (some ⟨q, 0, none⟩), v] w fun e w' => e = .returned .nilIface ∧
      ∃ pv, Blk w' q #[.string (bs part), pv, .slice none 0 0, .bool false, pk, pt, vl] 53 ∧ w'.ownsRow w.heap.size 3 1 pv path.length (path.map nI) ∧ Keep (· = q) w w' := by
  obtain ⟨g, cap, rfl, hg1, hg2, _, hcap, hcell, hfr⟩ := ownsRow_cells hv (by decide)
  have hc0 : w.cell? ⟨g, 0, none⟩ = some (.iface 9 (.string (bs A))) := hcell 0 (by decide)
  have hsz : ∀ l, (bs l).size = l.length := bs_size
  have htl2 : ∀ l, (bs l).toList = l := bs_toList
  have hu1 : (⟨(Lib.toUpperA (bs A).data.toList).toArray⟩ : ByteArray) = bs (joinB 46 ps) := by rw [bs_data, hup, bs_def]
  have HU := Lib.hid hu1
  have HQ := Lib.hid hq
  have HASC := Lib.hid (And.intro hA hasc)
  have HT := Lib.hid htl
  have HN := Lib.hid hne
  have HP := Lib.hid hpath
  have HPS := Lib.hid hps
  have hl0 : ps.length = path.length + tl.length := by rw [hps]; simp
  have htn : tl.length ≤ 1 := by rcases htl with ⟨rfl, _⟩ | ⟨rfl, _⟩ <;> simp
  have hl1 : ps.length < 1000 := by omega
  have hlp : 0 < ps.length := by cases ps with | nil => exact absurd rfl hne | cons a b => simp
  have hl2 : ∀ p ∈ ps, ∀ x ∈ p, x ≠ 46 := by
    intro p hp x hx
    rw [hps] at hp
    rcases List.mem_append.1 hp with hp | hp
    · obtain ⟨n, _, rfl⟩ := List.mem_map.1 hp
      have := dig_mem n x hx
      rintro rfl
      exact absurd this.1 (by decide)
    · rcases htl with ⟨rfl, _⟩ | ⟨rfl, h⟩
      · cases hp
      · simp only [List.mem_singleton] at hp
        subst hp
        rintro rfl
        rcases h with rfl | rfl | rfl <;> exact absurd hx (by decide)
  have hl3 : (joinB 46 ps).length < 1000000 := by
    rw [← hup]; simp [Lib.toUpperA]; omega
  have HL1 := Lib.hid hl1
  have HL2 := Lib.hid hl2
  have HL3 := Lib.hid hl3
  have HL0 := Lib.hid (And.intro hl0 htn)
  have hqlt := hq.lt
  clear hq htl hne hpath hup hasc hcell hv hu1 hl2 hl3 hps hl0 htn
  go_enter Tryz.func31, Tryz.ntmps31
  go_wp2
  go_step3
  go_wp2_with (first
    | (with_reducible refine at_assert ?_; refine wp_assert (.tmp 26) _ _ (.string (bs A)) rfl rfl rfl Tryz.assertS ?_)
    | (go_at_call 48; refine (Tryz.strings_ToUpper_ascii (bs A) _ (by rw [bs_size]; have := HASC.out.1; omega) (by rw [bs_data]; exact HASC.out.2)).mono ?_; rintro e w1 ⟨rfl, hb1⟩; rw [HU.out]; have hz1 := hb1.size; have HB1 := Lib.hid (Keep.of_below (M := fun _ => False) hb1); clear hb1)
    | (go_at_call 47; rw [show (⟨#[46]⟩ : ByteArray) = bs [46] from (bs_def _).symm]; refine (t_split 46 _ HN.out HL1.out HL2.out HL3.out _).mono ?_; rintro e w2 ⟨pvs, rfl, hpvs, hk2⟩; obtain ⟨g2, cap2, rfl, hg3, hg4, hl4, hc4, hcell4, hfr4⟩ := ownsRow_cells hpvs hlp; have hz2 := hk2.size; have HC4 := Lib.hid hcell4; have hq2 := HQ.out.keep (HB1.out.trans hk2) id; have HQ2 := Lib.hid hq2; have HK2 := Lib.hid (HB1.out.trans hk2); clear hpvs hk2 hcell4 hfr4 hq2 hl4))
  all_goals
    go_step3
    go_wp2
    go_loopg [9, 40] ps.length (fun k v9 v wr => ∃ i pv, v = .int .i64 (i : Nat) ∧ v9 = .int .i64 0 ∧ i + k = ps.length ∧ i ≤ path.length ∧ Blk wr q #[.string ⟨#[]⟩, pv, .slice none 0 0, .bool false, pk, pt, vl] 53 ∧ wr.ownsRow w2.heap.size 3 1 pv i ((path.take i).map nI) ∧ Keep (· = q) w2 wr)
    case atStart => exact ⟨0, .slice none 0 0, rfl, rfl, by omega, by omega, HQ2.out, World.ownsRow_nil _ _ _ _, Keep.refl _ _⟩
    case round =>
      obtain ⟨i, pv, rfl, rfl, hik, hip, hqr, hown, hk⟩ := hrel
      have hq0 : wr.cell? ⟨q, 0, none⟩ = some (.string ⟨#[]⟩) := (hqr.cell 0).trans rfl
      have hq1 : wr.cell? ⟨q, 1, none⟩ = some pv := (hqr.cell 1).trans rfl
      have hqf := hqr.free
      have hzr := hk.size
      have HQR := Lib.hid hqr
      have HOWN := Lib.hid hown
      have HK := Lib.hid hk
      have hps1 : i < ps.length → wr.cell? ⟨g2, i, none⟩ = some (strV (ps.getD i [])) := by
        intro hi
        have h1 := HC4.out i hi
        have h2 : (ps.map strV).getD i default = strV (ps.getD i []) := by simp [List.getD, hi]
        rw [h2] at h1
        have : wr.cell? ⟨g2, i, none⟩ = w2.cell? ⟨g2, i, none⟩ := World.cell?_of_block (hk.block g2 hg4 (by show ¬ g2 = q; omega))
        rw [this]
        exact h1
      clear hqr hown hk
      by_cases hlt : i < path.length
      · have hi2 : i < ps.length := by have := HL0.out.1; omega
        have hpi : ps.getD i [] = dig (path.getD i 0) := by
          rw [HPS.out]
          simp [List.getD, List.getElem?_append_left, hlt]
        have hc5 := hps1 hi2
        rw [hpi] at hc5
        have hpo := HP.out (path.getD i 0) (by simp [List.getD, hlt])
        obtain ⟨p, hp⟩ : ∃ p, p = path.getD i 0 := ⟨_, rfl⟩
        rw [← hp] at hc5 hpo
        have hc6 : wr.cell? ⟨g2, i, none⟩ = some (.string (bs (dig p))) := hc5
        obtain ⟨hp1, hp2⟩ := hpo
        have d1 := dig_nil p
        have d2 : (dig p == [72, 69, 65, 68, 69, 82]) = false := dig_first p _ 72 _ rfl (by decide)
        have d3 : (dig p == [77, 73, 77, 69]) = false := dig_first p _ 77 _ rfl (by decide)
        have d4 : (dig p == [84, 69, 88, 84]) = false := dig_first p _ 84 _ rfl (by decide)
        have HPP := Lib.hid hp
        clear hp hpi hc5 hps1
        go_wp2_with (first
          | (at_builtin; refine wp_app1 Tryz.elemN (.tmp 75) (.tmp 77) rfl rfl w2.heap.size pv i ((path.take i).map nI) rfl ((ownsRow_keep HOWN.out HK3.out (fun _ _ _ h => h)).alloc _) w3.heap.size (.int .i64 p) rfl (((Blk.new w3 _ _).cell 0).trans rfl) rfl (by omega) (by simp; omega) ?_; intro v4 w4 hv4 hk4 hb4 hat4; obtain ⟨ga, ca, rfl, -⟩ := ownsRow_cells hv4 (by omega); have hq4 := (HQ3.out.alloc (.cells #[.int .i64 p] 3)).keep hk4 (by omega); have hq4f := hq4.free; have hq41 : w4.cell? ⟨q, 1, none⟩ = some pv := (hq4.cell 1).trans rfl; have hk04 := ((HK.out.trans (HK3.out.mono (fun _ _ h => absurd h id))).alloc (.cells #[.int .i64 p] 3)).trans' hk4 (fun i hi hb => absurd hi (Nat.not_lt.2 hb)); have HV4 := Lib.hid hv4; have HK4 := Lib.hid hk04; have HQ4 := Lib.hid hq4; clear hv4 hk4 hb4 hat4 hk04 hq4)
          | (go_at_call 35; refine (Tryz.strconv_Atoi (bs (dig p)) (p : Int) (by rw [bs_size]; have := dig_len7 p (by omega); omega) (by rw [bs_data]; exact dig_atoi p) _).mono ?_; rintro e w3 ⟨rfl, t, hw3⟩; have hk3 : Keep (fun _ => False) wr w3 := (by rw [hw3]; exact keep_bytesWorld _ _ _ _); have hq3 := HQR.out.keep hk3 id; have hq31 : w3.cell? ⟨q, 1, none⟩ = some pv := (hq3.cell 1).trans rfl; have hq3f := hq3.free; have hz3 := hk3.size; have HQ3 := Lib.hid hq3; have HK3 := Lib.hid hk3; clear hw3 hk3 hq3))
        go_roundg (gk - 1)
        case measure => omega
        case rel =>
          have h1 := HQ4.out.set 1 (.slice (some ⟨ga, 0, none⟩) (i + 1) ca)
          refine ⟨i + 1, .slice (some ⟨ga, 0, none⟩) (i + 1) ca, rfl, rfl, by omega, by omega, h1, ?_, HK4.out.at (fun _ => rfl) 1 _⟩
          have h2 := ownsRow_keep (M := (· = q)) HV4.out ((Keep.refl (· = q) w4).at (fun _ => rfl) 1 (.slice (some ⟨ga, 0, none⟩) (i + 1) ca)) (fun k hk1 hk2 hm => by omega)
          rw [show path.take (i + 1) = path.take i ++ [p] from by rw [HPP.out, List.take_add_one]; simp [List.getD, hlt]]
          simpa [nI] using h2
      · have hi : i = path.length := by omega
        subst hi
        have hl0 := HL0.out.1
        have hup2 := fun (w' : World) (pv : Value) (h : w'.ownsRow w2.heap.size 3 1 pv path.length ((path.take path.length).map nI)) => (show w'.ownsRow w.heap.size 3 1 pv path.length (path.map nI) from by
          rw [List.take_length] at h
          exact ownsRow_base h (Nat.le_trans hz1 hz2))
        have HUP2 := Lib.hid hup2
        clear hup2
        rcases HT.out with ⟨rfl, rfl⟩ | ⟨rfl, hpo⟩
        · simp only [List.length_nil] at hl0
          have hnlt : ¬ path.length < ps.length := by omega
          clear hps1
          go_wp2
          go_ret
          refine ⟨rfl, pv, by rw [bs_nil]; exact HQR.out, HUP2.out _ _ HOWN.out, (HK2.out.mono (fun _ _ h => absurd h id)).trans HK.out⟩
        · simp only [List.length_cons, List.length_nil] at hl0
          have hi2 : path.length < ps.length := by omega
          have hpi : ps.getD path.length [] = part := by
            rw [HPS.out]
            simp [List.getD]
          have hc5 := hps1 hi2
          rw [hpi] at hc5
          have hc6 : wr.cell? ⟨g2, path.length, none⟩ = some (.string (bs part)) := hc5
          clear hc5 hps1 hpi
          rcases hpo with rfl | rfl | rfl
          all_goals
            simp only [cHEADER, cMIME, cTEXT] at hc6
            go_wp2
            go_ret
            refine ⟨rfl, pv, HQR.out.set 0 _, HUP2.out _ _ (ownsRow_keep (M := (· = q)) HOWN.out ((Keep.refl (· = q) wr).at (fun _ => rfl) 0 _) (fun k hk1 hk2 hm => by omega)), ((HK2.out.mono (fun _ _ h => absurd h id)).trans HK.out).at (fun _ => rfl) 0 _⟩
end Go.Proofs.YtanombfdfpfcoaaGreatDoor

namespace Go.Proofs.YtanombfdfpfcoaaGreatDoor
set_option linter.unusedVariables false
set_option linter.unusedSimpArgs false
open Go.RowKit

set_option maxRecDepth 100000 in
set_option maxHeartbeats 1000000 in
theorem t_bp2 (w : World) (q base : Nat) (pk pt vl : Value) (hq : Blk w q #[.string ⟨#[]⟩, .slice none 0 0, .slice none 0 0, .bool false, pk, pt, vl] 53) (hqb : q < base) (v : Value) (A : List UInt8) (sl : Value) (hv : w.ownsRow base 20 1 v 2 [strI A, .iface 63 sl])
    (fs : List (List UInt8)) (hfs : 0 < fs.length) (hfl : fs.length < 1000) (hsl : w.ownsRow base 20 1 sl fs.length (fs.map strI)) (nt : Bool)
    (path : List Nat) (tl ps : List (List UInt8)) (htl : tl = if nt then [cHEADER, cFIELDS, cNOT] else [cHEADER, cFIELDS]) (hps : ps = path.map dig ++ tl) (hne : ps ≠ []) (hlen : path.length ≤ 6) (hpath : ∀ p ∈ path, 0 < p ∧ p < 1000)
    (hup : Lib.toUpperA A = joinB 46 ps) (hA : A.length < 100000) (hasc : ∀ (j : Nat) (b : UInt8), A[j]? = some b → b.toNat < 128) :
    Calls Tryz.prog 31 #[.pointer (some ⟨q, 0, none⟩), v] w fun e w' => e = .returned .nilIface ∧
      ∃ pv fv, Blk w' q #[.string (bs cHEADER), pv, fv, .bool nt, pk, pt, vl] 53 ∧ w'.ownsRow w.heap.size 3 1 pv path.length (path.map nI) ∧ w'.ownsRow w.heap.size 9 1 fv fs.length (fs.map strV) ∧ Keep (· = q) w w' := by
  obtain ⟨g, cap, rfl, hg1, hg2, _, hcap, hcell, hfr⟩ := ownsRow_cells hv (by decide)
  obtain ⟨g3, cap3, rfl, hg5, hg6, _, hcap3, hcell3, -⟩ := ownsRow_cells hsl hfs
  have hc1 : w.cell? ⟨g, 1, none⟩ = some (.iface 63 (.slice (some ⟨g3, 0, none⟩) fs.length cap3)) := hcell 1 (by decide)
  have HC3 := Lib.hid hcell3
  have hc0 : w.cell? ⟨g, 0, none⟩ = some (.iface 9 (.string (bs A))) := hcell 0 (by decide)
  have hsz : ∀ l, (bs l).size = l.length := bs_size
  have htl2 : ∀ l, (bs l).toList = l := bs_toList
  have hu1 : (⟨(Lib.toUpperA (bs A).data.toList).toArray⟩ : ByteArray) = bs (joinB 46 ps) := by rw [bs_data, hup, bs_def]
  have HU := Lib.hid hu1
  have HQ := Lib.hid hq
  have HASC := Lib.hid (And.intro hA hasc)
  have HT := Lib.hid htl
  have HN := Lib.hid hne
  have HP := Lib.hid hpath
  have HPS := Lib.hid hps
  have hl0 : ps.length = path.length + tl.length := by rw [hps]; simp
  have htn : tl.length ≤ 3 := by rw [htl]; cases nt <;> simp
  have hl1 : ps.length < 1000 := by omega
  have hlp : 0 < ps.length := by cases ps with | nil => exact absurd rfl hne | cons a b => simp
  have htl3 : ∀ p ∈ tl, ∀ x ∈ p, x ≠ 46 := by rw [htl]; cases nt <;> decide
  have hl2 : ∀ p ∈ ps, ∀ x ∈ p, x ≠ 46 := by
    intro p hp x hx
    rw [hps] at hp
    rcases List.mem_append.1 hp with hp | hp
    · obtain ⟨n, _, rfl⟩ := List.mem_map.1 hp
      have := dig_mem n x hx
      rintro rfl
      exact absurd this.1 (by decide)
    · exact htl3 p hp x hx
  have hl3 : (joinB 46 ps).length < 1000000 := by
    rw [← hup]; simp [Lib.toUpperA]; omega
  have HL1 := Lib.hid hl1
  have HL2 := Lib.hid hl2
  have HL3 := Lib.hid hl3
  have HL0 := Lib.hid (And.intro hl0 htn)
  have hqlt := hq.lt
  clear hq htl hne hpath hup hasc hcell hv hu1 hl2 hl3 hps hl0 htn hsl hcell3
  go_enter Tryz.func31, Tryz.ntmps31
  go_wp2
  go_step3
  go_wp2_with (first
    | (with_reducible refine at_assert ?_; refine wp_assert (.tmp 26) _ _ (.string (bs A)) rfl rfl rfl Tryz.assertS ?_)
    | (go_at_call 48; refine (Tryz.strings_ToUpper_ascii (bs A) _ (by rw [bs_size]; have := HASC.out.1; omega) (by rw [bs_data]; exact HASC.out.2)).mono ?_; rintro e w1 ⟨rfl, hb1⟩; rw [HU.out]; have hz1 := hb1.size; have HB1 := Lib.hid (Keep.of_below (M := fun _ => False) hb1); clear hb1)
    | (go_at_call 47; rw [show (⟨#[46]⟩ : ByteArray) = bs [46] from (bs_def _).symm]; refine (t_split 46 _ HN.out HL1.out HL2.out HL3.out _).mono ?_; rintro e w2 ⟨pvs, rfl, hpvs, hk2⟩; obtain ⟨g2, cap2, rfl, hg3, hg4, hl4, hc4, hcell4, hfr4⟩ := ownsRow_cells hpvs hlp; have hz2 := hk2.size; have HC4 := Lib.hid hcell4; have hq2 := HQ.out.keep (HB1.out.trans hk2) id; have HQ2 := Lib.hid hq2; have HK2 := Lib.hid (HB1.out.trans hk2); clear hpvs hk2 hcell4 hfr4 hq2 hl4))
  all_goals
    go_step3
    go_wp2
    go_loopg [9, 40] ps.length (fun k v9 v wr => ∃ i pv, v = .int .i64 (i : Nat) ∧ v9 = .int .i64 0 ∧ i + k = ps.length ∧ i ≤ path.length ∧ Blk wr q #[.string ⟨#[]⟩, pv, .slice none 0 0, .bool false, pk, pt, vl] 53 ∧ wr.ownsRow w2.heap.size 3 1 pv i ((path.take i).map nI) ∧ Keep (· = q) w2 wr)
    case atStart => exact ⟨0, .slice none 0 0, rfl, rfl, by omega, by omega, HQ2.out, World.ownsRow_nil _ _ _ _, Keep.refl _ _⟩
    case round =>
      obtain ⟨i, pv, rfl, rfl, hik, hip, hqr, hown, hk⟩ := hrel
      have hq0 : wr.cell? ⟨q, 0, none⟩ = some (.string ⟨#[]⟩) := (hqr.cell 0).trans rfl
      have hq1 : wr.cell? ⟨q, 1, none⟩ = some pv := (hqr.cell 1).trans rfl
      have hqf := hqr.free
      have hzr := hk.size
      have HQR := Lib.hid hqr
      have HOWN := Lib.hid hown
      have HK := Lib.hid hk
      have hps1 : ∀ i, i < ps.length → wr.cell? ⟨g2, i, none⟩ = some (strV (ps.getD i [])) := by
        intro i hi
        have h1 := HC4.out i hi
        have h2 : (ps.map strV).getD i default = strV (ps.getD i []) := by simp [List.getD, hi]
        rw [h2] at h1
        have : wr.cell? ⟨g2, i, none⟩ = w2.cell? ⟨g2, i, none⟩ := World.cell?_of_block (hk.block g2 hg4 (by show ¬ g2 = q; omega))
        rw [this]
        exact h1
      clear hqr hown hk
      by_cases hlt : i < path.length
      · have hi2 : i < ps.length := by have := HL0.out.1; omega
        have hpi : ps.getD i [] = dig (path.getD i 0) := by
          rw [HPS.out]
          simp [List.getD, List.getElem?_append_left, hlt]
        have hc5 := hps1 i hi2
        rw [hpi] at hc5
        have hpo := HP.out (path.getD i 0) (by simp [List.getD, hlt])
        obtain ⟨p, hp⟩ : ∃ p, p = path.getD i 0 := ⟨_, rfl⟩
        rw [← hp] at hc5 hpo
        have hc6 : wr.cell? ⟨g2, i, none⟩ = some (.string (bs (dig p))) := hc5
        obtain ⟨hp1, hp2⟩ := hpo
        have d1 := dig_nil p
        have d2 : (dig p == [72, 69, 65, 68, 69, 82]) = false := dig_first p _ 72 _ rfl (by decide)
        have d3 : (dig p == [77, 73, 77, 69]) = false := dig_first p _ 77 _ rfl (by decide)
        have d4 : (dig p == [84, 69, 88, 84]) = false := dig_first p _ 84 _ rfl (by decide)
        have HPP := Lib.hid hp
        clear hp hpi hc5 hps1
        go_wp2_with (first
          | (at_builtin; refine wp_app1 Tryz.elemN (.tmp 75) (.tmp 77) rfl rfl w2.heap.size pv i ((path.take i).map nI) rfl ((ownsRow_keep HOWN.out HK3.out (fun _ _ _ h => h)).alloc _) w3.heap.size (.int .i64 p) rfl (((Blk.new w3 _ _).cell 0).trans rfl) rfl (by omega) (by simp; omega) ?_; intro v4 w4 hv4 hk4 hb4 hat4; obtain ⟨ga, ca, rfl, -⟩ := ownsRow_cells hv4 (by omega); have hq4 := (HQ3.out.alloc (.cells #[.int .i64 p] 3)).keep hk4 (by omega); have hq4f := hq4.free; have hq41 : w4.cell? ⟨q, 1, none⟩ = some pv := (hq4.cell 1).trans rfl; have hk04 := ((HK.out.trans (HK3.out.mono (fun _ _ h => absurd h id))).alloc (.cells #[.int .i64 p] 3)).trans' hk4 (fun i hi hb => absurd hi (Nat.not_lt.2 hb)); have HV4 := Lib.hid hv4; have HK4 := Lib.hid hk04; have HQ4 := Lib.hid hq4; clear hv4 hk4 hb4 hat4 hk04 hq4)
          | (go_at_call 35; refine (Tryz.strconv_Atoi (bs (dig p)) (p : Int) (by rw [bs_size]; have := dig_len7 p (by omega); omega) (by rw [bs_data]; exact dig_atoi p) _).mono ?_; rintro e w3 ⟨rfl, t, hw3⟩; have hk3 : Keep (fun _ => False) wr w3 := (by rw [hw3]; exact keep_bytesWorld _ _ _ _); have hq3 := HQR.out.keep hk3 id; have hq31 : w3.cell? ⟨q, 1, none⟩ = some pv := (hq3.cell 1).trans rfl; have hq3f := hq3.free; have hz3 := hk3.size; have HQ3 := Lib.hid hq3; have HK3 := Lib.hid hk3; clear hw3 hk3 hq3))
        go_roundg (gk - 1)
        case measure => omega
        case rel =>
          have h1 := HQ4.out.set 1 (.slice (some ⟨ga, 0, none⟩) (i + 1) ca)
          refine ⟨i + 1, .slice (some ⟨ga, 0, none⟩) (i + 1) ca, rfl, rfl, by omega, by omega, h1, ?_, HK4.out.at (fun _ => rfl) 1 _⟩
          have h2 := ownsRow_keep (M := (· = q)) HV4.out ((Keep.refl (· = q) w4).at (fun _ => rfl) 1 (.slice (some ⟨ga, 0, none⟩) (i + 1) ca)) (fun k hk1 hk2 hm => by omega)
          rw [show path.take (i + 1) = path.take i ++ [p] from by rw [HPP.out, List.take_add_one]; simp [List.getD, hlt]]
          simpa [nI] using h2
      · have hi : i = path.length := by omega
        subst hi
        have hup2 := fun (w' : World) (pv : Value) (h : w'.ownsRow w2.heap.size 3 1 pv path.length ((path.take path.length).map nI)) => (show w'.ownsRow w.heap.size 3 1 pv path.length (path.map nI) from by
          rw [List.take_length] at h
          exact ownsRow_base h (Nat.le_trans hz1 hz2))
        have HUP2 := Lib.hid hup2
        clear hup2
        have hl0 := HL0.out.1
        have htt := HT.out
        have hpi : ∀ j, ps.getD (path.length + j) [] = tl.getD j [] := by
          intro j
          rw [HPS.out, List.getD_eq_getElem?_getD, List.getD_eq_getElem?_getD, List.getElem?_append_right (by simp)]
          simp
        have hcs : ∀ j, path.length + j < ps.length → wr.cell? ⟨g2, path.length + j, none⟩ = some (strV (tl.getD j [])) := by
          intro j hj
          rw [hps1 (path.length + j) hj, hpi]
        have hi2 : path.length < ps.length := by rw [hl0, htt]; cases nt <;> simp
        have e0 : wr.cell? ⟨g2, path.length, none⟩ = some (.string (bs cHEADER)) := by
          have := hcs 0 hi2
          rw [htt] at this
          cases nt <;> exact this
        have e1 : wr.cell? ⟨g2, path.length + 1, none⟩ = some (.string (bs cFIELDS)) := by
          have := hcs 1 (by rw [hl0, htt]; cases nt <;> simp)
          rw [htt] at this
          cases nt <;> exact this
        have hw1 : wr.cell? ⟨g, 1, none⟩ = some (.iface 63 (.slice (some ⟨g3, 0, none⟩) fs.length cap3)) :=
          (World.cell?_of_block ((HK.out.block g (by omega) (by show ¬ g = q; omega)).trans (HK2.out.block g hg2 id))).trans hc1
        have hq3 : wr.cell? ⟨q, 3, none⟩ = some (.bool false) := (HQR.out.cell 3).trans rfl
        have hws : ∀ i, i < fs.length → wr.cell? ⟨g3, i, none⟩ = some (strI (fs.getD i [])) := by
          intro i hi
          have h1 := HC3.out i hi
          rw [show (fs.map strI).getD i default = strI (fs.getD i []) from by simp [List.getD, hi]] at h1
          exact (World.cell?_of_block ((HK.out.block g3 (by omega) (by show ¬ g3 = q; omega)).trans (HK2.out.block g3 hg6 id))).trans h1
        have HWS := Lib.hid hws
        have e2 : nt = true → wr.cell? ⟨g2, path.length + 1 + 1, none⟩ = some (.string (bs cNOT)) := by
          intro hnt
          subst hnt
          have := hcs 2 (by rw [hl0, htt]; simp)
          rw [htt] at this
          exact this
        have hln : ps.length = path.length + (if nt then 3 else 2) := by rw [hl0, htt]; cases nt <;> rfl
        have hzr2 := HK.out.size
        have hqlt2 := HQR.out.lt
        simp only [cHEADER, cFIELDS, cNOT] at e0 e1 e2
        clear hps1 hcs hpi htt hc1 hl0 hws
        cases nt with
        | false =>
          simp only [Bool.false_eq_true, if_false] at hln
          clear e2
          go_wp2_with (first
            | (with_reducible refine at_assert ?_; refine wp_assert (.tmp 124) _ _ (.slice (some ⟨g3, 0, none⟩) fs.length cap3) rfl rfl rfl Tryz.assertL ?_))
          obtain ⟨w5, rfl⟩ : ∃ w5, w5 = wr := ⟨wr, rfl⟩
          go_loopg [133] fs.length (fun k v w6 => ∃ i fv, v = .int .i64 (i : Nat) ∧ i + k = fs.length ∧ Blk w6 q #[.string (bs cHEADER), pv, fv, .bool false, pk, pt, vl] 53 ∧ w6.ownsRow w5.heap.size 9 1 fv i ((fs.take i).map strV) ∧ Keep (· = q) w5 w6)
          case atStart => exact ⟨0, .slice none 0 0, rfl, by omega, (by simpa [cHEADER] using HQR.out.set 0 (.string (bs cHEADER))), World.ownsRow_nil _ _ _ _, (Keep.refl (· = q) w5).at (fun _ => rfl) 0 _⟩
          case round =>
            obtain ⟨i, fv, rfl, hik, hq6, hown6, hk6⟩ := hrel
            have hq62 : wr.cell? ⟨q, 2, none⟩ = some fv := (hq6.cell 2).trans rfl
            have hq6f := hq6.free
            have hz6 := hk6.size
            have hws6 : i < fs.length → wr.cell? ⟨g3, i, none⟩ = some (.iface 9 (.string (bs (fs.getD i [])))) := fun hi => (World.cell?_of_block (hk6.block g3 (by omega) (by show ¬ g3 = q; omega))).trans (HWS.out i hi)
            have HQ6 := Lib.hid hq6
            have HO6 := Lib.hid hown6
            have HK6 := Lib.hid hk6
            clear hq6 hown6 hk6
            by_cases hlt6 : i < fs.length
            · have hc9 := hws6 hlt6
              obtain ⟨f, hf⟩ : ∃ f, f = fs.getD i [] := ⟨_, rfl⟩
              rw [← hf] at hc9
              have HF := Lib.hid hf
              clear hf hws6
              go_wp2_with (first
                | (with_reducible refine at_assert ?_; refine wp_assert (.tmp 138) _ _ (.string (bs f)) rfl rfl rfl Tryz.assertS ?_)
                | (at_builtin; refine wp_app1 Tryz.elemS (.tmp 147) (.tmp 149) rfl rfl w5.heap.size fv i ((fs.take i).map strV) rfl (HO6.out.alloc _) wr.heap.size (strV f) rfl (((Blk.new wr _ _).cell 0).trans rfl) rfl (by omega) (by simp; omega) ?_; intro v7 w7 hv7 hk7 hb7 hat7; obtain ⟨ga, ca, rfl, -⟩ := ownsRow_cells hv7 (by omega); have hq7 := (HQ6.out.alloc (.cells #[strV f] 9)).keep hk7 (by omega); have hq7f := hq7.free; have hq71 : w7.cell? ⟨q, 2, none⟩ = some fv := (hq7.cell 2).trans rfl; have hk07 := (HK6.out.alloc (.cells #[strV f] 9)).trans' hk7 (fun i hi hb => absurd hi (Nat.not_lt.2 hb)); have HV7 := Lib.hid hv7; have HK7 := Lib.hid hk07; have HQ7 := Lib.hid hq7; clear hv7 hk7 hb7 hat7 hk07 hq7))
              go_roundg (gk - 1)
              case measure => omega
              case rel =>
                refine ⟨i + 1, .slice (some ⟨ga, 0, none⟩) (i + 1) ca, rfl, by omega, HQ7.out.set 2 _, ?_, HK7.out.at (fun _ => rfl) 2 _⟩
                have h2 := ownsRow_keep (M := (· = q)) HV7.out ((Keep.refl (· = q) w7).at (fun _ => rfl) 2 (.slice (some ⟨ga, 0, none⟩) (i + 1) ca)) (fun k hk1 hk2 hm => by omega)
                rw [show fs.take (i + 1) = fs.take i ++ [f] from by rw [HF.out, List.take_add_one]; simp [List.getD, hlt6]]
                simpa using h2
            · have hi6 : i = fs.length := by omega
              subst hi6
              clear hws6
              go_wp2
              rw [Exit.noGoto_ret]
              go_ret
              refine ⟨rfl, pv, fv, HQ6.out, HUP2.out _ _ (ownsRow_keep (M := (· = q)) HOWN.out HK6.out (fun k hk1 hk2 hm => by omega)), ?_, ((HK2.out.mono (fun _ _ h => absurd h id)).trans HK.out).trans HK6.out⟩
              have h3 := HO6.out
              rw [List.take_length] at h3
              exact ownsRow_base h3 (by omega)
        | true =>
          simp only [if_true] at hln
          have e2 := e2 rfl
          go_wp2_with (first
            | (with_reducible refine at_assert ?_; refine wp_assert (.tmp 124) _ _ (.slice (some ⟨g3, 0, none⟩) fs.length cap3) rfl rfl rfl Tryz.assertL ?_))
          obtain ⟨w5, rfl⟩ : ∃ w5, w5 = wr := ⟨wr, rfl⟩
          go_loopg [133] fs.length (fun k v w6 => ∃ i fv, v = .int .i64 (i : Nat) ∧ i + k = fs.length ∧ Blk w6 q #[.string (bs cHEADER), pv, fv, .bool true, pk, pt, vl] 53 ∧ w6.ownsRow w5.heap.size 9 1 fv i ((fs.take i).map strV) ∧ Keep (· = q) w5 w6)
          case atStart => exact ⟨0, .slice none 0 0, rfl, by omega, (by simpa [cHEADER] using (HQR.out.set 0 (.string (bs cHEADER))).set 3 (.bool true)), World.ownsRow_nil _ _ _ _, ((Keep.refl (· = q) w5).at (fun _ => rfl) 0 _).at (fun _ => rfl) 3 _⟩
          case round =>
            obtain ⟨i, fv, rfl, hik, hq6, hown6, hk6⟩ := hrel
            have hq62 : wr.cell? ⟨q, 2, none⟩ = some fv := (hq6.cell 2).trans rfl
            have hq6f := hq6.free
            have hz6 := hk6.size
            have hws6 : i < fs.length → wr.cell? ⟨g3, i, none⟩ = some (.iface 9 (.string (bs (fs.getD i [])))) := fun hi => (World.cell?_of_block (hk6.block g3 (by omega) (by show ¬ g3 = q; omega))).trans (HWS.out i hi)
            have HQ6 := Lib.hid hq6
            have HO6 := Lib.hid hown6
            have HK6 := Lib.hid hk6
            clear hq6 hown6 hk6
            by_cases hlt6 : i < fs.length
            · have hc9 := hws6 hlt6
              obtain ⟨f, hf⟩ : ∃ f, f = fs.getD i [] := ⟨_, rfl⟩
              rw [← hf] at hc9
              have HF := Lib.hid hf
              clear hf hws6
              go_wp2_with (first
                | (with_reducible refine at_assert ?_; refine wp_assert (.tmp 138) _ _ (.string (bs f)) rfl rfl rfl Tryz.assertS ?_)
                | (at_builtin; refine wp_app1 Tryz.elemS (.tmp 147) (.tmp 149) rfl rfl w5.heap.size fv i ((fs.take i).map strV) rfl (HO6.out.alloc _) wr.heap.size (strV f) rfl (((Blk.new wr _ _).cell 0).trans rfl) rfl (by omega) (by simp; omega) ?_; intro v7 w7 hv7 hk7 hb7 hat7; obtain ⟨ga, ca, rfl, -⟩ := ownsRow_cells hv7 (by omega); have hq7 := (HQ6.out.alloc (.cells #[strV f] 9)).keep hk7 (by omega); have hq7f := hq7.free; have hq71 : w7.cell? ⟨q, 2, none⟩ = some fv := (hq7.cell 2).trans rfl; have hk07 := (HK6.out.alloc (.cells #[strV f] 9)).trans' hk7 (fun i hi hb => absurd hi (Nat.not_lt.2 hb)); have HV7 := Lib.hid hv7; have HK7 := Lib.hid hk07; have HQ7 := Lib.hid hq7; clear hv7 hk7 hb7 hat7 hk07 hq7))
              go_roundg (gk - 1)
              case measure => omega
              case rel =>
                refine ⟨i + 1, .slice (some ⟨ga, 0, none⟩) (i + 1) ca, rfl, by omega, HQ7.out.set 2 _, ?_, HK7.out.at (fun _ => rfl) 2 _⟩
                have h2 := ownsRow_keep (M := (· = q)) HV7.out ((Keep.refl (· = q) w7).at (fun _ => rfl) 2 (.slice (some ⟨ga, 0, none⟩) (i + 1) ca)) (fun k hk1 hk2 hm => by omega)
                rw [show fs.take (i + 1) = fs.take i ++ [f] from by rw [HF.out, List.take_add_one]; simp [List.getD, hlt6]]
                simpa using h2
            · have hi6 : i = fs.length := by omega
              subst hi6
              clear hws6
              go_wp2
              rw [Exit.noGoto_ret]
              go_ret
              refine ⟨rfl, pv, fv, HQ6.out, HUP2.out _ _ (ownsRow_keep (M := (· = q)) HOWN.out HK6.out (fun k hk1 hk2 hm => by omega)), ?_, ((HK2.out.mono (fun _ _ h => absurd h id)).trans HK.out).trans HK6.out⟩
              have h3 := HO6.out
              rw [List.take_length] at h3
              exact ownsRow_base h3 (by omega)
end Go.Proofs.YtanombfdfpfcoaaGreatDoor

namespace Go.Proofs.YtanombfdfpfcoaaGreatDoor
set_option linter.unusedVariables false
set_option linter.unusedSimpArgs false
open Go.RowKit

/-- What stands between the brackets, and what it is read as. -/
structure MidOk (mid : List UInt8) (path : List Nat) (part : List UInt8) (fs : List (List UInt8)) (nt : Bool) where
  FV : Nat → Value → World → Prop
  small : mid.length < 100000
  read : ∀ (S : Source) (w : World) (r : Nat), S.s = mid ++ [13] ++ [10] → RdAt S w r 0 false 0 0 false →
    Calls Tryz.prog 30 #[.pointer (some ⟨r, 0, none⟩)] w fun e w' => ∃ v, e = .returned (.tuple #[v, .nilIface]) ∧ FV w.heap.size v w' ∧ Keep (RM S r) w w'
  parse : ∀ (w : World) (q base : Nat) (v pk pt vl : Value), Blk w q #[.string ⟨#[]⟩, .slice none 0 0, .slice none 0 0, .bool false, pk, pt, vl] 53 → q < base → FV base v w →
    Calls Tryz.prog 31 #[.pointer (some ⟨q, 0, none⟩), v] w fun e w' => e = .returned .nilIface ∧
      ∃ pv fv, Blk w' q #[.string (bs part), pv, fv, .bool nt, pk, pt, vl] 53 ∧ w'.ownsRow w.heap.size 3 1 pv path.length (path.map nI) ∧ w'.ownsRow w.heap.size 9 1 fv fs.length (fs.map strV) ∧ Keep (· = q) w w'

def preT (peek : Bool) : List UInt8 := if peek then [66, 79, 68, 89, 46, 80, 69, 69, 75] else [66, 79, 68, 89]
def sufT : Option (Nat × Nat) → List UInt8
  | none => []
  | some (a, b) => 60 :: (dig a ++ 46 :: dig b ++ [62])
def partI : Option (Nat × Nat) → List Nat
  | none => []
  | some (a, b) => [a, b]

theorem sufT_ne (o : Option (Nat × Nat)) : ∀ x ∈ sufT o, x ≠ 93 := by
  intro x hx
  cases o with
  | none => cases hx
  | some ab =>
    obtain ⟨a, b⟩ := ab
    simp only [sufT, List.mem_cons, List.mem_append, List.mem_nil_iff, or_false] at hx
    rintro rfl
    rcases hx with hx | (hx | hx | hx) | hx
    · exact absurd hx (by decide)
    · exact absurd (dig_mem a _ hx).2 (by decide)
    · exact absurd hx (by decide)
    · exact absurd (dig_mem b _ hx).2 (by decide)
    · exact absurd hx (by decide)

set_option maxRecDepth 100000 in
set_option maxHeartbeats 1000000 in
theorem t_bsn (w : World) (q : Nat) (hq : Blk w q #[.string ⟨#[]⟩, .slice none 0 0, .slice none 0 0, .bool false, .bool false, .slice none 0 0, .string ⟨#[]⟩] 53)
    (peek : Bool) (mid : List UInt8) (path : List Nat) (part : List UInt8) (fs : List (List UInt8)) (nt : Bool) (M : MidOk mid path part fs nt) (o : Option (Nat × Nat)) (ho : ∀ a b, o = some (a, b) → a < 10000000 ∧ b < 10000000)
    (T : List UInt8) (hT : T = preT peek ++ 91 :: (mid ++ 93 :: sufT o)) :
    Calls Tryz.prog 22 #[.pointer (some ⟨q, 0, none⟩), .string (bs T)] w fun e w' => e = .returned .nilIface ∧
      ∃ pv fv tv, Blk w' q #[.string (bs part), pv, fv, .bool nt, .bool peek, tv, .string (bs T)] 53 ∧ w'.ownsRow w.heap.size 3 1 pv path.length (path.map nI) ∧
        w'.ownsRow w.heap.size 9 1 fv fs.length (fs.map strV) ∧ w'.ownsRow w.heap.size 3 1 tv (partI o).length ((partI o).map nI) ∧ Keep (· = q) w w' := by
  have hms := M.small
  have hsl : (sufT o).length ≤ 17 := by
    cases o with
    | none => simp [sufT]
    | some ab =>
      obtain ⟨a, b⟩ := ab
      obtain ⟨h1, h2⟩ := ho a b rfl
      have := dig_len7 a h1
      have := dig_len7 b h2
      simp [sufT]
      omega
  have hpl : (preT peek).length ≤ 9 := by cases peek <;> decide
  have hTl : T.length = (preT peek).length + 1 + mid.length + 1 + (sufT o).length := by rw [hT]; simp; omega
  have hidx : ∀ w, Calls Tryz.prog 25 #[.string (bs T), .string ⟨#[91]⟩] w fun e w' => e = .returned (.int .i64 (preT peek).length) ∧ Keep (fun _ => False) w w' := by
    intro w
    rw [show (⟨#[91]⟩ : ByteArray) = bs [91] from (bs_def _).symm, hT]
    exact idx_found _ _ 91 (by cases peek <;> decide) (by rw [← hT]; omega) w
  have hlast : ∀ w, Calls Tryz.prog 27 #[.string (bs T), .string ⟨#[93]⟩] w fun e w' => e = .returned (.int .i64 ((preT peek).length + 1 + mid.length : Nat)) ∧ w' = w := by
    intro w
    rw [show (⟨#[93]⟩ : ByteArray) = bs [93] from (bs_def _).symm, hT, show preT peek ++ 91 :: (mid ++ 93 :: sufT o) = (preT peek ++ 91 :: mid) ++ 93 :: sufT o from by simp]
    have := last_found (preT peek ++ 91 :: mid) (sufT o) 93 (sufT_ne o) (by simp; omega) w
    simpa [Nat.add_assoc, Nat.add_comm 1] using this
  have ht1 : T.take (preT peek).length = preT peek := by rw [hT]; simp
  have ht2 : (T.take ((preT peek).length + 1 + mid.length)).drop ((preT peek).length + 1) = mid := by
    rw [hT, show preT peek ++ 91 :: (mid ++ 93 :: sufT o) = (preT peek ++ [91] ++ mid) ++ 93 :: sufT o from by simp, List.take_left' (by simp; omega), List.drop_left' (by simp)]
  have ht3 : T.drop ((preT peek).length + 1 + mid.length + 1) = sufT o := by
    rw [hT, show preT peek ++ 91 :: (mid ++ 93 :: sufT o) = (preT peek ++ [91] ++ mid ++ [93]) ++ sufT o from by simp, List.drop_left' (by simp; omega)]
  have hne : ∀ b l, b ≠ 66 → (T == b :: l) = false := by
    intro b l hb
    rw [beq_eq_false_iff_ne, hT]
    intro h
    have := congrArg List.head? h
    cases peek <;> simp [preT] at this <;> exact hb this.symm
  have hn1 : (T == [82, 70, 67, 56, 50, 50]) = false := hne _ _ (by decide)
  have hn2 : (T == [82, 70, 67, 56, 50, 50, 46, 72, 69, 65, 68, 69, 82]) = false := hne _ _ (by decide)
  have hn3 : (T == [82, 70, 67, 56, 50, 50, 46, 84, 69, 88, 84]) = false := hne _ _ (by decide)
  have hsz : ∀ l, (bs l).size = l.length := bs_size
  have htl2 : ∀ l, (bs l).toList = l := bs_toList
  have hpr1 : (preT peek == [66, 79, 68, 89, 46, 80, 69, 69, 75]) = peek := by cases peek <;> decide
  have hpr2 : (preT peek == [66, 79, 68, 89]) = !peek := by cases peek <;> decide
  have hbb : bs mid ++ (⟨#[13]⟩ : ByteArray) ++ ⟨#[10]⟩ = bs (mid ++ [13] ++ [10]) := by
    rw [show (⟨#[13]⟩ : ByteArray) = bs [13] from (bs_def _).symm, show (⟨#[10]⟩ : ByteArray) = bs [10] from (bs_def _).symm, bs_app, bs_app]
  have hqf := hq.free
  have hqlt := hq.lt
  have hc6 : w.cell? ⟨q, 6, none⟩ = some (.string ⟨#[]⟩) := (hq.cell 6).trans rfl
  obtain ⟨P, hP⟩ : ∃ P, P = (preT peek).length := ⟨_, rfl⟩
  rw [← hP] at hidx hlast ht1 ht2 ht3 hTl hpl
  have HIDX := Lib.hid hidx
  have HLAST := Lib.hid hlast
  have HT1 := Lib.hid ht1
  have HT2 := Lib.hid ht2
  have HT3 := Lib.hid ht3
  have HTL := Lib.hid hTl
  have HO := Lib.hid ho
  have HBB := Lib.hid hbb
  have hq1 : Blk (w.setCell ⟨q, 6, none⟩ (.string (bs T))) q #[.string ⟨#[]⟩, .slice none 0 0, .slice none 0 0, .bool false, .bool false, .slice none 0 0, .string (bs T)] 53 := hq.set 6 (.string (bs T))
  have HQ := Lib.hid hq1
  have hk1 : Keep (· = q) w (w.setCell ⟨q, 6, none⟩ (.string (bs T))) := (Keep.refl (· = q) w).at (fun _ => rfl) 6 _
  have HK := Lib.hid hk1
  clear hidx hlast ht1 ht2 ht3 hTl ho hne hq hT hq1 hk1 hP hbb
  go_enter Tryz.func22, Tryz.ntmps22
  rcases o with _ | ⟨a, b⟩
  · have hs0 : (sufT none).length = 0 := rfl
    cases peek
    all_goals
      go_wp2_with (first
        | (go_at_call 25; refine (HIDX.out _).mono ?_; rintro e w1 ⟨rfl, hk1⟩; have hq1 := HQ.out.keep hk1 id; have hq1f := hq1.free; have hq14 : w1.cell? ⟨q, 4, none⟩ = some (.bool false) := (hq1.cell 4).trans rfl; have HQ1 := Lib.hid hq1; have HK1 := Lib.hid (HK.out.trans (hk1.mono (fun _ _ h => absurd h id))); clear hk1 hq1)
        | (go_at_call 27; refine (HLAST.out _).mono ?_; rintro e w2 ⟨rfl, rfl⟩)
        | (with_reducible refine at_slice ?_; first
            | (refine wp_take (.tmp 40) (.tmp 41) _ T P rfl rfl rfl rfl (by have := HTL.out; omega) (by kernel_rfl) ?_; rw [HT1.out])
            | (refine wp_mid (.tmp 43) (.tmp 45) (.tmp 46) _ T (P + 1) (P + 1 + mid.length) rfl rfl rfl rfl rfl (by omega) (by have := HTL.out; omega) (by kernel_rfl) ?_; rw [HT2.out])
            | (refine wp_drop (.tmp 48) (.tmp 50) _ T (P + 1 + mid.length + 1) rfl rfl rfl rfl (by have := HTL.out; omega) (by kernel_rfl) ?_; rw [HT3.out]))
        | (go_at_call 28; rw [HBB.out]; refine (t_newbuf _ (mid ++ [13] ++ [10]) (by simp; omega)).mono ?_; rintro e w3 ⟨c, g, rfl, hc, hg, hA, hk3⟩; (first
            | (have hq3 : Blk w3 q #[.string ⟨#[]⟩, .slice none 0 0, .slice none 0 0, .bool false, .bool false, .slice none 0 0, .string (bs T)] 53 := HQ1.out.keep hk3 id; have hk03 : Keep (· = q) w w3 := HK1.out.trans (hk3.mono (fun _ _ h => absurd h id)); have hz3 := hk3.size; have HQ3 := Lib.hid hq3; have HK3 := Lib.hid hk03; clear hq3 hk03)
            | (have hq3 : Blk w3 q #[.string ⟨#[]⟩, .slice none 0 0, .slice none 0 0, .bool false, .bool true, .slice none 0 0, .string (bs T)] 53 := (HQ1.out.set 4 (.bool true)).keep hk3 id; have hk03 : Keep (· = q) w w3 := (HK1.out.at (fun _ => rfl) 4 (.bool true)).trans (hk3.mono (fun _ _ h => absurd h id)); have hz3 := hk3.size; have HQ3 := Lib.hid hq3; have HK3 := Lib.hid hk03; clear hq3 hk03)); have hcc : w.heap.size ≤ c ∧ w.heap.size ≤ g ∧ w.heap.size ≤ w3.heap.size := (by have hqw := HK1.out.size; first | omega | (simp [World.setCell] at hc hg hz3; omega)); have HA := Lib.hid hA; clear hA hk3 hc hg hz3)
        | (go_at_call 29; refine (t_newreader (bufSrc c g (mid ++ [13] ++ [10])) _ HA.out).mono ?_; rintro e w4 ⟨r, rfl, hr, hR, hk4⟩; have hq4 := HQ3.out.keep hk4 id; have hz4 := hk4.size; have HQ4 := Lib.hid hq4; have HK4 := Lib.hid (HK3.out.trans (hk4.mono (fun _ _ h => absurd h id))); have HR := Lib.hid hR; clear hk4 hq4 hR)
        | (go_at_call 30; refine (M.read (bufSrc c g (mid ++ [13] ++ [10])) _ r rfl HR.out).mono ?_; rintro e w5 ⟨v, rfl, hv, hk5⟩; have hz5 := hk5.size; have hk05 := hk5.mono (N := fun k => w.heap.size ≤ k) (fun i _ hi => (by rcases hi with rfl | rfl | rfl <;> omega)); have hq5 := HQ4.out.keep hk05 (by omega); have HQ5 := Lib.hid hq5; have HK5 := Lib.hid (HK4.out.trans' hk05 (fun i hi hb => absurd hi (Nat.not_lt.2 hb))); have HV := Lib.hid hv; clear hk5 hk05 hq5 hv)
        | (go_at_call 31; refine (M.parse _ q w4.heap.size v _ _ _ HQ5.out (by omega) HV.out).mono ?_; rintro e w6 ⟨rfl, pv, fv, hq6, hpv, hfv, hk6⟩; have hz6 := hk6.size; have hq6f := hq6.free; have hq65 : w6.cell? ⟨q, 5, none⟩ = some (.slice none 0 0) := (hq6.cell 5).trans rfl; have HQ6 := Lib.hid hq6; have HPV := Lib.hid hpv; have HFV := Lib.hid hfv; have HK6 := Lib.hid (HK5.out.trans hk6); clear hq6 hpv hfv hk6))
      go_ret
      refine ⟨rfl, pv, fv, .slice none 0 0, HQ6.out, ownsRow_base HPV.out (by omega), ownsRow_base HFV.out (by omega), World.ownsRow_nil _ _ _ _, HK6.out⟩
  · obtain ⟨ha, hb⟩ := HO.out a b rfl
    obtain ⟨inn, hinn⟩ : ∃ inn, inn = dig a ++ 46 :: dig b := ⟨_, rfl⟩
    have hda := dig_len7 a ha
    have hdb := dig_len7 b hb
    have hil : inn.length ≤ 15 := by rw [hinn]; simp; omega
    have hsf : sufT (some (a, b)) = 60 :: (inn ++ [62]) := by rw [hinn]; simp [sufT]
    have hsfl : (sufT (some (a, b))).length = inn.length + 2 := by rw [hsf]; simp
    have hmid : ((sufT (some (a, b))).take (inn.length + 1)).drop 1 = inn := by rw [hsf]; simp
    have hpre : ∀ w, Calls Tryz.prog 32 #[.string (bs (sufT (some (a, b)))), .string ⟨#[60]⟩] w fun e w' => e = .returned (.bool true) ∧ w' = w := by
      intro w
      have := Tryz.strings_HasPrefix (bs (sufT (some (a, b)))) ⟨#[60]⟩ w
      rw [bs_data, hsf] at this
      rw [hsf]
      exact this
    have hsuf : ∀ w, Calls Tryz.prog 33 #[.string (bs (sufT (some (a, b)))), .string ⟨#[62]⟩] w fun e w' => e = .returned (.bool true) ∧ w' = w := by
      intro w
      have := Tryz.strings_HasSuffix (bs (sufT (some (a, b)))) ⟨#[62]⟩ w (by rw [bs_size]; omega)
      rw [bs_data, hsf] at this
      rw [hsf]
      have e : Lib.hasSuffix (60 :: (inn ++ [62])) [62] = true := by
        unfold Lib.hasSuffix
        rw [List.isSuffixOf_iff_suffix]
        exact ⟨60 :: inn, by simp⟩
      rw [show (⟨#[62]⟩ : ByteArray).data.toList = [62] from rfl, e] at this
      exact this
    have hcut : ∀ w, Calls Tryz.prog 34 #[.string (bs inn), .string ⟨#[46]⟩] w fun e w' => e = .returned (.tuple #[.string (bs (dig a)), .string (bs (dig b)), .bool true]) ∧ Keep (fun _ => False) w w' := by
      intro w
      rw [show (⟨#[46]⟩ : ByteArray) = bs [46] from (bs_def _).symm, hinn]
      refine cut_found (dig a) (dig b) 46 (fun x hx => ?_) (by rw [← hinn]; omega) w
      rintro rfl
      exact absurd (dig_mem a _ hx).1 (by decide)
    have hat : ∀ n, n < 10000000 → ∀ w, Calls Tryz.prog 35 #[.string (bs (dig n))] w fun e w' => e = .returned (.tuple #[.int .i64 n, .nilIface]) ∧ Keep (fun _ => False) w w' := by
      intro n hn w
      refine (Tryz.strconv_Atoi (bs (dig n)) (n : Int) (by rw [bs_size]; have := dig_len7 n hn; omega) (by rw [bs_data]; exact dig_atoi n) w).mono ?_
      rintro e w' ⟨rfl, t, rfl⟩
      exact ⟨rfl, keep_bytesWorld _ _ _ _⟩
    have HPRE := Lib.hid hpre
    have HSUF := Lib.hid hsuf
    have HCUT := Lib.hid hcut
    have HATA := Lib.hid (hat a ha)
    have HATB := Lib.hid (hat b hb)
    have hex : (bs (sufT (some (a, b)))).extract 1 (inn.length + 1) = bs inn := by rw [bs_extract, hmid]
    have HEX := Lib.hid hex
    clear hpre hsuf hcut hat hmid hex hsf hinn hda hdb
    cases peek
    all_goals
      go_wp2_with (first
        | (go_at_call 25; refine (HIDX.out _).mono ?_; rintro e w1 ⟨rfl, hk1⟩; have hq1 := HQ.out.keep hk1 id; have hq1f := hq1.free; have hq14 : w1.cell? ⟨q, 4, none⟩ = some (.bool false) := (hq1.cell 4).trans rfl; have HQ1 := Lib.hid hq1; have HK1 := Lib.hid (HK.out.trans (hk1.mono (fun _ _ h => absurd h id))); clear hk1 hq1)
        | (go_at_call 27; refine (HLAST.out _).mono ?_; rintro e w2 ⟨rfl, rfl⟩)
        | (with_reducible refine at_slice ?_; first
            | (refine wp_take (.tmp 40) (.tmp 41) _ T P rfl rfl rfl rfl (by have := HTL.out; omega) (by kernel_rfl) ?_; rw [HT1.out])
            | (refine wp_mid (.tmp 43) (.tmp 45) (.tmp 46) _ T (P + 1) (P + 1 + mid.length) rfl rfl rfl rfl rfl (by omega) (by have := HTL.out; omega) (by kernel_rfl) ?_; rw [HT2.out])
            | (refine wp_drop (.tmp 48) (.tmp 50) _ T (P + 1 + mid.length + 1) rfl rfl rfl rfl (by have := HTL.out; omega) (by kernel_rfl) ?_; rw [HT3.out]))
        | (go_at_call 28; rw [HBB.out]; refine (t_newbuf _ (mid ++ [13] ++ [10]) (by simp; omega)).mono ?_; rintro e w3 ⟨c, g, rfl, hc, hg, hA, hk3⟩; (first
            | (have hq3 : Blk w3 q #[.string ⟨#[]⟩, .slice none 0 0, .slice none 0 0, .bool false, .bool false, .slice none 0 0, .string (bs T)] 53 := HQ1.out.keep hk3 id; have hk03 : Keep (· = q) w w3 := HK1.out.trans (hk3.mono (fun _ _ h => absurd h id)); have hz3 := hk3.size; have HQ3 := Lib.hid hq3; have HK3 := Lib.hid hk03; clear hq3 hk03)
            | (have hq3 : Blk w3 q #[.string ⟨#[]⟩, .slice none 0 0, .slice none 0 0, .bool false, .bool true, .slice none 0 0, .string (bs T)] 53 := (HQ1.out.set 4 (.bool true)).keep hk3 id; have hk03 : Keep (· = q) w w3 := (HK1.out.at (fun _ => rfl) 4 (.bool true)).trans (hk3.mono (fun _ _ h => absurd h id)); have hz3 := hk3.size; have HQ3 := Lib.hid hq3; have HK3 := Lib.hid hk03; clear hq3 hk03)); have hcc : w.heap.size ≤ c ∧ w.heap.size ≤ g ∧ w.heap.size ≤ w3.heap.size := (by have hqw := HK1.out.size; first | omega | (simp [World.setCell] at hc hg hz3; omega)); have HA := Lib.hid hA; clear hA hk3 hc hg hz3)
        | (go_at_call 29; refine (t_newreader (bufSrc c g (mid ++ [13] ++ [10])) _ HA.out).mono ?_; rintro e w4 ⟨r, rfl, hr, hR, hk4⟩; have hq4 := HQ3.out.keep hk4 id; have hz4 := hk4.size; have HQ4 := Lib.hid hq4; have HK4 := Lib.hid (HK3.out.trans (hk4.mono (fun _ _ h => absurd h id))); have HR := Lib.hid hR; clear hk4 hq4 hR)
        | (go_at_call 30; refine (M.read (bufSrc c g (mid ++ [13] ++ [10])) _ r rfl HR.out).mono ?_; rintro e w5 ⟨v, rfl, hv, hk5⟩; have hz5 := hk5.size; have hk05 := hk5.mono (N := fun k => w.heap.size ≤ k) (fun i _ hi => (by rcases hi with rfl | rfl | rfl <;> omega)); have hq5 := HQ4.out.keep hk05 (by omega); have HQ5 := Lib.hid hq5; have HK5 := Lib.hid (HK4.out.trans' hk05 (fun i hi hb => absurd hi (Nat.not_lt.2 hb))); have HV := Lib.hid hv; clear hk5 hk05 hq5 hv)
        | (go_at_call 31; refine (M.parse _ q w4.heap.size v _ _ _ HQ5.out (by omega) HV.out).mono ?_; rintro e w6 ⟨rfl, pv, fv, hq6, hpv, hfv, hk6⟩; have hz6 := hk6.size; have hq6f := hq6.free; have hq65 : w6.cell? ⟨q, 5, none⟩ = some (.slice none 0 0) := (hq6.cell 5).trans rfl; have HQ6 := Lib.hid hq6; have HPV := Lib.hid hpv; have HFV := Lib.hid hfv; have HK6 := Lib.hid (HK5.out.trans hk6); clear hq6 hpv hfv hk6)
        | (go_at_call 32; refine (HPRE.out _).mono ?_; rintro e w7 ⟨rfl, h7⟩; rw [h7]; clear h7 w7)
        | (go_at_call 33; refine (HSUF.out _).mono ?_; rintro e w7 ⟨rfl, h7⟩; rw [h7]; clear h7 w7)
        | (go_at_call 34; rw [HEX.out]; refine (HCUT.out _).mono ?_; rintro e w8 ⟨rfl, hk8⟩; have hq8 := HQ6.out.keep hk8 id; have hz8 := hk8.size; have HQ8 := Lib.hid hq8; have HK8 := Lib.hid (hk8.mono (N := (· = q)) (fun _ _ h => absurd h id)); clear hk8 hq8)
        | (go_at_call 35; (with_reducible refine (HATA.out _).mono ?_); rintro e w9 ⟨rfl, hk9⟩; have hq9 := HQ8.out.keep hk9 id; have hz9 := hk9.size; have hq9f := hq9.free; have hq9fa : ∀ o i, (w9.alloc o).frozen? ⟨q, i, none⟩ = false := (fun o i => (hq9.alloc o).free i); have hq95a : ∀ o, (w9.alloc o).cell? ⟨q, 5, none⟩ = some (.slice none 0 0) := (fun o => ((hq9.alloc o).cell 5).trans rfl); have HQ9 := Lib.hid hq9; have HK9 := Lib.hid (HK8.out.trans (hk9.mono (N := (· = q)) (fun _ _ h => absurd h id))); clear hk9 hq9)
        | (go_at_call 35; (with_reducible refine (HATB.out _).mono ?_); rintro e w11 ⟨rfl, hk11⟩; have hq11 := ((HQ9.out.alloc (.cells #[.int .i64 a] 3)).set 5 (.slice (some ⟨w9.heap.size, 0, none⟩) 1 1)).keep hk11 id; have hz11 := hk11.size; have hq11f := hq11.free; have hq115 : w11.cell? ⟨q, 5, none⟩ = some (.slice (some ⟨w9.heap.size, 0, none⟩) 1 1) := (hq11.cell 5).trans rfl; have hb11 := ((Blk.new w9 #[.int .i64 a] 3).far (p := ⟨q, 5, none⟩) (by show w9.heap.size ≠ q; have := HQ9.out.lt; omega) (.slice (some ⟨w9.heap.size, 0, none⟩) 1 1)).keep hk11 id; have hown11 := Blk.owns (base := w6.heap.size) hb11 (by omega); have HOWN11 := Lib.hid hown11; have HQ11 := Lib.hid hq11; have hzz : w9.heap.size ≤ w11.heap.size := (by simp [World.setCell] at hz11; omega); have HK11 := Lib.hid (((HK9.out.alloc (.cells #[.int .i64 a] 3)).at (fun _ => rfl) 5 (.slice (some ⟨w9.heap.size, 0, none⟩) 1 1)).trans (hk11.mono (N := (· = q)) (fun _ _ h => absurd h id))); clear hk11 hq11 hb11 hown11 hz11)
        | (at_builtin; refine wp_app1 Tryz.elemN (.tmp 138) (.tmp 140) rfl rfl w6.heap.size _ 1 [.int .i64 a] rfl (HOWN11.out.alloc _) w11.heap.size (.int .i64 b) rfl (((Blk.new w11 _ _).cell 0).trans rfl) rfl (by omega) (by simp; omega) ?_; intro v12 w12 hv12 hk12 hb12 hat12; obtain ⟨ga, ca, rfl, -⟩ := ownsRow_cells hv12 (by omega); have hq12 := (HQ11.out.alloc (.cells #[.int .i64 b] 3)).keep hk12 (by omega); have hq12f := hq12.free; have hq125 : w12.cell? ⟨q, 5, none⟩ = some (.slice (some ⟨w9.heap.size, 0, none⟩) 1 1) := (hq12.cell 5).trans rfl; have hk012 := (HK11.out.alloc (.cells #[.int .i64 b] 3)).trans' hk12 (fun i hi hb => absurd hi (Nat.not_lt.2 hb)); have HV12 := Lib.hid hv12; have HK12 := Lib.hid hk012; have HQ12 := Lib.hid hq12; clear hv12 hk12 hb12 hat12 hk012 hq12))
      go_ret
      have hkf := HK12.out.at (b := q) (fun _ => rfl) 5 (.slice (some ⟨ga, 0, none⟩) 2 ca)
      have hkq := (Keep.refl (· = q) w12).at (b := q) (fun _ => rfl) 5 (.slice (some ⟨ga, 0, none⟩) 2 ca)
      refine ⟨rfl, pv, fv, .slice (some ⟨ga, 0, none⟩) 2 ca, HQ12.out.set 5 _, ?_, ?_, ?_, HK6.out.trans hkf⟩
      · exact ownsRow_base (ownsRow_keep HPV.out hkf (fun k hk1 hk2 hm => by omega)) (by omega)
      · exact ownsRow_base (ownsRow_keep HFV.out hkf (fun k hk1 hk2 hm => by omega)) (by omega)
      · exact ownsRow_base (ownsRow_keep HV12.out hkq (fun k hk1 hk2 hm => by omega)) (by omega)
end Go.Proofs.YtanombfdfpfcoaaGreatDoor

namespace Go.Proofs.YtanombfdfpfcoaaGreatDoor
set_option linter.unusedVariables false
set_option linter.unusedSimpArgs false
open Go.RowKit

def midEmpty : MidOk [] [] [] [] false where
  FV := fun _ v _ => v = .slice none 0 0
  small := by decide
  read := fun S w r hs hR => (t_fields0 S w r 0 false 0 0 false hR (by rw [hs]; exact ⟨[10], rfl, by simp⟩)).mono fun e w' h => ⟨_, h.1, rfl, h.2.2⟩
  parse := fun w q base v pk pt vl hq hb hv => by
    subst hv
    refine (t_bp0 w q).mono ?_
    rintro e w' ⟨rfl, rfl⟩
    exact ⟨rfl, _, _, by rw [bs_nil]; exact hq, World.ownsRow_nil _ _ _ _, World.ownsRow_nil _ _ _ _, Keep.refl _ _⟩

theorem AtomOk.asc {A : List UInt8} (h : AtomOk A) : ∀ (j : Nat) (b : UInt8), A[j]? = some b → b.toNat < 128 := by
  intro j b hb
  have hj : j < A.length := (List.getElem?_eq_some_iff.1 hb).1
  have := h.ch j hj
  have e : A.getD j 0 = b := by simp [List.getD, hb]
  rw [e] at this
  have := this.2.1
  omega

def midPart (A : List UInt8) (ok : AtomOk A) (path : List Nat) (tl ps : List (List UInt8)) (part : List UInt8) (htl : (tl = [] ∧ part = []) ∨ (tl = [part] ∧ PartOk part)) (hps : ps = path.map dig ++ tl) (hne : ps ≠ []) (hlen : path.length ≤ 6)
    (hpath : ∀ p ∈ path, 0 < p ∧ p < 1000) (hup : Lib.toUpperA A = joinB 46 ps) : MidOk A path part [] false where
  FV := fun base v w => w.ownsRow base 20 1 v 1 [strI A]
  small := ok.small
  read := fun S w r hs hR => (t_fields1 S w r 0 false 0 0 false hR A ok none (fun _ h => by cases h) (by rw [hs]; exact ⟨[10], by simp [tailS], by simp⟩)).mono fun e w' h => by
    obtain ⟨v, h1, h2, _, h3⟩ := h
    exact ⟨v, h1, h2, h3⟩
  parse := fun w q base v pk pt vl hq hb hv => (t_bp1 w q base pk pt vl hq hb v A hv path tl ps part htl hps hne hlen hpath hup ok.small ok.asc).mono fun e w' h => by
    obtain ⟨h1, pv, h2, h3, h4⟩ := h
    exact ⟨h1, pv, _, h2, h3, World.ownsRow_nil _ _ _ _, h4⟩

def midFields (A : List UInt8) (ok : AtomOk A) (path : List Nat) (tl ps fs : List (List UInt8)) (nt : Bool) (hfs : 0 < fs.length) (hfl : fs.length < 1000) (hfa : ∀ a ∈ fs, AtomOk a) (htl : tl = if nt then [cHEADER, cFIELDS, cNOT] else [cHEADER, cFIELDS])
    (hps : ps = path.map dig ++ tl) (hne : ps ≠ []) (hlen : path.length ≤ 6) (hpath : ∀ p ∈ path, 0 < p ∧ p < 1000) (hup : Lib.toUpperA A = joinB 46 ps) (hsm : (A ++ 32 :: 40 :: (joinS fs ++ [41])).length < 100000) :
    MidOk (A ++ 32 :: 40 :: (joinS fs ++ [41])) path cHEADER fs nt where
  FV := fun base v w => ∃ sl, w.ownsRow base 20 1 v 2 [strI A, .iface 63 sl] ∧ w.ownsRow base 20 1 sl fs.length (fs.map strI)
  small := hsm
  read := fun S w r hs hR => (t_fields1 S w r 0 false 0 0 false hR A ok (some fs) (fun fs' h => by cases h; exact ⟨by rintro rfl; simp at hfs, hfl, hfa⟩) (by rw [hs]; exact ⟨[10], by simp [tailS], by simp⟩)).mono fun e w' h => by
    obtain ⟨v, h1, h2, _, h3⟩ := h
    exact ⟨v, h1, h2, h3⟩
  parse := fun w q base v pk pt vl hq hb hv => by
    obtain ⟨sl, hv, hsl⟩ := hv
    refine (t_bp2 w q base pk pt vl hq hb v A sl hv fs hfs hfl hsl nt path tl ps htl hps hne hlen hpath hup ok.small ok.asc).mono fun e w' h => ?_
    obtain ⟨h1, pv, fv, h2, h3, h4, h5⟩ := h
    exact ⟨h1, pv, fv, h2, h3, h4, h5⟩
end Go.Proofs.YtanombfdfpfcoaaGreatDoor
