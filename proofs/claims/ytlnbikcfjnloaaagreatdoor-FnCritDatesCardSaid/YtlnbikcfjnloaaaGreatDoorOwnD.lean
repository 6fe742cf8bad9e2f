/- How criteria's fields are read and turned into a row of criteria, for the proof of FnCritDates. -/
import Derived.Test.YtlnbikcfjnloaaaGreatDoorOwnA
import Derived.Test.YtlnbikcfjnloaaaGreatDoorPNumber9x1
import Derived.Lib.ParseIntB
import Derived.Lib.ItoaNum
import Derived.Lib.Atoi
import Derived.Lib.Case
import Derived.Test.YtlnbikcfjnloaaaGreatDoorOwnC
import Derived.Test.YtlnbikcfjnloaaaGreatDoorShelf
import Derived.Test.YtlnbikcfjnloaaaGreatDoorProg
namespace Go.Proofs.YtlnbikcfjnloaaaGreatDoor
set_option linter.unusedVariables false
set_option linter.unusedSimpArgs false
open Go.RowKit Go.Proofs.YtlnbikcfjnloaaaGreatDoorW.PrintWords

theorem wrap_small (x : Int) (h0 : -1000000000000 ≤ x) (h1 : x ≤ 1000000000000) : wrap64 x = x := by
  unfold wrap64
  omega
/-- A number's digits. -/
def dig (n : Nat) : List UInt8 := Lib.decDigits n
theorem dig_small {n : Nat} (h : n < 10) : dig n = [UInt8.ofNat (48 + n)] := Lib.decDigits_one h
theorem dig_big {n : Nat} (h : ¬ n < 10) : dig n = dig (n / 10) ++ [UInt8.ofNat (48 + n % 10)] := by
  unfold dig
  rw [Lib.decDigits, dif_neg h]
theorem dig_ind {P : Nat → List UInt8 → Prop} (h1 : ∀ n, n < 10 → P n [UInt8.ofNat (48 + n)]) (h2 : ∀ n, ¬ n < 10 → P (n / 10) (dig (n / 10)) → P n (dig (n / 10) ++ [UInt8.ofNat (48 + n % 10)])) (n : Nat) : P n (dig n) := by
  induction n using Nat.strongRecOn with
  | _ n ih =>
    by_cases h : n < 10
    · rw [dig_small h]; exact h1 n h
    · rw [dig_big h]; exact h2 n h (ih _ (by omega))
theorem digit_ok (k : Nat) (h : k < 10) : (UInt8.ofNat (48 + k)).toNat = 48 + k := by
  rw [UInt8.toNat_ofNat']
  omega
theorem dig_mem (n : Nat) : ∀ b ∈ dig n, 48 ≤ b.toNat ∧ b.toNat ≤ 57 := by
  refine dig_ind (P := fun _ l => ∀ b ∈ l, 48 ≤ b.toNat ∧ b.toNat ≤ 57) ?_ ?_ n
  · intro n h b hb
    simp only [List.mem_singleton] at hb
    subst hb
    rw [digit_ok n h]; omega
  · intro n h ih b hb
    rcases List.mem_append.1 hb with hb | hb
    · exact ih b hb
    · simp only [List.mem_singleton] at hb
      subst hb
      rw [digit_ok _ (Nat.mod_lt _ (by omega))]; have := Nat.mod_lt n (show 0 < 10 by omega); omega
theorem dig_ne (n : Nat) : dig n ≠ [] := dig_ind (P := fun _ l => l ≠ []) (fun _ _ => by simp) (fun _ _ _ => by simp) n
theorem dig_len (n : Nat) : ∀ k, 1 ≤ k → n < 10 ^ k → (dig n).length ≤ k := by
  refine dig_ind (P := fun n l => ∀ k, 1 ≤ k → n < 10 ^ k → l.length ≤ k) ?_ ?_ n
  · intro n h k hk _
    simpa using hk
  · intro n h ih k hk hlt
    have h2 : k ≠ 1 := by rintro rfl; omega
    have h3 : n / 10 < 10 ^ (k - 1) := by
      rw [Nat.div_lt_iff_lt_mul (by omega), ← Nat.pow_succ]
      rwa [show (k - 1).succ = k from by omega]
    have := ih (k - 1) (by omega) h3
    simp; omega
theorem dig_len7 (n : Nat) (h : n < 10000000) : (dig n).length ≤ 7 := dig_len n 7 (by omega) (by simpa using h)
theorem decFrom_app (l : List UInt8) (b : UInt8) : ∀ acc m, Lib.decFrom acc l = some m → 48 ≤ b.toNat → b.toNat ≤ 57 → Lib.decFrom acc (l ++ [b]) = some (m * 10 + (b.toNat - 48)) := by
  induction l with
  | nil =>
    intro acc m h h1 h2
    simp only [Lib.decFrom, Option.some.injEq] at h
    subst h
    simp [Lib.decFrom, Lib.digitVal, h1, h2]
  | cons c l ih =>
    intro acc m h h1 h2
    simp only [Lib.decFrom, List.cons_append] at h ⊢
    split at h
    · exact ih _ _ h h1 h2
    · cases h
theorem dig_dec (n : Nat) : Lib.decFrom 0 (dig n) = some n := by
  refine dig_ind (P := fun n l => Lib.decFrom 0 l = some n) ?_ ?_ n
  · intro n h
    simp only [Lib.decFrom, Lib.digitVal, digit_ok n h]
    rw [if_pos (by omega)]
    simp
  · intro n h ih
    have hm := Nat.mod_lt n (show 0 < 10 by omega)
    rw [decFrom_app _ _ _ _ ih (by rw [digit_ok _ hm]; omega) (by rw [digit_ok _ hm]; omega), digit_ok _ hm]
    congr 1
    omega
theorem dig_atoi (n : Nat) : Lib.atoi (dig n) = some (n : Int) := by
  have h1 := dig_dec n
  have h2 := dig_mem n
  cases h : dig n with
  | nil => exact absurd h (dig_ne n)
  | cons b r =>
    rw [h] at h1 h2
    have hb := h2 b (by simp)
    have e1 : (b == 45) = false := by
      rw [beq_eq_false_iff_ne]; rintro rfl; exact absurd hb.1 (by decide)
    have e2 : (b == 43) = false := by
      rw [beq_eq_false_iff_ne]; rintro rfl; exact absurd hb.1 (by decide)
    unfold Lib.atoi
    simp [e1, e2, Lib.decNat, h1]

theorem parseU_snoc (l : List UInt8) (b : UInt8) : ∀ acc m, Lib.parseUintM 4294967295 acc l = .ok m → 48 ≤ b.toNat → b.toNat ≤ 57 → m * 10 + (b.toNat - 48) ≤ 4294967295 → Lib.parseUintM 4294967295 acc (l ++ [b]) = .ok (m * 10 + (b.toNat - 48)) := by
  induction l with
  | nil =>
    intro acc m h h1 h2 h3
    simp only [Lib.parseUintM, Lib.NumEnd.ok.injEq] at h
    subst h
    simp only [List.nil_append, Lib.parseUintM]
    rw [if_pos ⟨h1, h2⟩, if_neg (by omega), if_neg (by omega)]
  | cons c l ih =>
    intro acc m h h1 h2 h3
    simp only [Lib.parseUintM, List.cons_append] at h ⊢
    split at h
    · rename_i hc
      rw [if_pos hc]
      split at h
      · cases h
      · rename_i ha
        rw [if_neg ha]
        split at h
        · cases h
        · rename_i hb
          rw [if_neg hb]
          exact ih _ _ h h1 h2 h3
    · cases h
theorem dig_uint (n : Nat) (h : n < 4294967296) : Lib.parseUintB 32 (dig n) = .ok n := by
  unfold Lib.parseUintB
  rw [if_neg (dig_ne n)]
  show Lib.parseUintM 4294967295 0 (dig n) = .ok n
  refine dig_ind (P := fun n l => n < 4294967296 → Lib.parseUintM 4294967295 0 l = .ok n) ?_ ?_ n h
  · intro n h _
    simp only [Lib.parseUintM, digit_ok n h]
    rw [if_pos (by omega), if_neg (by omega), if_neg (by omega)]
    congr 1
    omega
  · intro n h ih hn
    have h1 := parseU_snoc (dig (n / 10)) (UInt8.ofNat (48 + n % 10)) 0 (n / 10) (ih (by omega)) (by rw [digit_ok _ (by omega)]; omega) (by rw [digit_ok _ (by omega)]; omega) (by rw [digit_ok _ (by omega)]; omega)
    rw [h1, digit_ok _ (by omega)]
    congr 1
    omega

theorem strOf_one (k : Nat) (h : k < 10) : strOfNums [(wrap64 (48 + (k : Int))) % 256] = bs [UInt8.ofNat (48 + k)] := by
  rw [wrap_small _ (by omega) (by omega), bs_def]
  match k, h with
  | 0, _ => rfl
  | 1, _ => rfl
  | 2, _ => rfl
  | 3, _ => rfl
  | 4, _ => rfl
  | 5, _ => rfl
  | 6, _ => rfl
  | 7, _ => rfl
  | 8, _ => rfl
  | 9, _ => rfl

theorem num9_l (n : Nat) : ∀ acc : List UInt8, acc.length + n < 100000000000 → ∃ k, PNumber9.spec_Number9.l0 k (n : Int) (bs acc) = some (bs (dig n ++ acc)) := by
  refine dig_ind (P := fun n l => ∀ acc : List UInt8, acc.length + n < 100000000000 → ∃ k, PNumber9.spec_Number9.l0 k (n : Int) (bs acc) = some (bs (l ++ acc))) ?_ ?_ n
  · intro n h acc ha
    refine ⟨1, ?_⟩
    simp only [PNumber9.spec_Number9.l0]
    rw [if_neg (by omega)]
    simp only [Option.bind_some]
    rw [strOf_one n h, if_pos (by rw [bs_size, bs_size]; simp; omega), bs_app]
  · intro n h ih acc ha
    have hm := Nat.mod_lt n (show 0 < 10 by omega)
    obtain ⟨k, hk⟩ := ih (UInt8.ofNat (48 + n % 10) :: acc) (by simp; omega)
    refine ⟨k + 1, ?_⟩
    simp only [PNumber9.spec_Number9.l0]
    rw [if_pos (by omega)]
    simp only [Option.bind_some]
    have e1 : (n : Int).tmod 10 = ((n % 10 : Nat) : Int) := (Int.ofNat_tmod n 10).symm
    have e3 : (n : Int).tdiv 10 = ((n / 10 : Nat) : Int) := (Int.ofNat_tdiv n 10).symm
    have e2 : wrap64 ((n : Int).tdiv 10) = ((n / 10 : Nat) : Int) := by rw [e3, wrap_small _ (by omega) (by omega)]
    rw [e1, e2, strOf_one _ hm, if_pos (by rw [bs_size, bs_size]; simp; omega), bs_app]
    simpa using hk

theorem t_number9 (n : Nat) (hn : n < 10000000000) (w : World) :
    Calls Tryz.prog 9 #[.int .i64 n] w fun e w' => e = .returned (.string (bs (dig n))) ∧ Keep (fun _ => False) w w' := by
  obtain ⟨k, hk⟩ := num9_l n [] (by simp; omega)
  rw [List.append_nil] at hk
  have hk2 : PNumber9.spec_Number9.f k (n : Int) = some (bs (dig n)) := by
    unfold PNumber9.spec_Number9.f
    rw [← bs_nil]
    exact hk
  refine (PNumber9.spec_Number9.calls k _ _ w hk2).mono ?_
  rintro e w' ⟨rfl, h⟩
  exact ⟨rfl, Keep.of_below h⟩
end Go.Proofs.YtlnbikcfjnloaaaGreatDoor

namespace Go.Proofs.YtlnbikcfjnloaaaGreatDoor
set_option linter.unusedVariables false
set_option linter.unusedSimpArgs false
open Go.RowKit

theorem keep_bytesWorld (M : Nat → Prop) (w : World) (e : TypeId) (s : ByteArray) : Keep M w (Lib.bytesWorld w e s) := by
  refine ⟨?_, ?_, ?_, by rw [Lib.bytesWorld_size]; omega, fun k hk _ => Lib.bytesWorld_at_old w e s k hk⟩ <;> simp [Lib.bytesWorld, World.freeze, World.alloc, World.drew, -World.alloc_eq, -World.drew_eq]

set_option maxRecDepth 100000 in
theorem t_parseNumber (w : World) (n : Nat) (hn : n < 4294967296) :
    Calls Tryz.prog 45 #[strI (dig n)] w fun e w' => e = .returned (.tuple #[.int .u32 n, .nilIface]) ∧ Keep (fun _ => False) w w' := by
  have hu := dig_uint n hn
  have hl := dig_len n 10 (by omega) (by omega)
  obtain ⟨D, hD⟩ : ∃ D, D = dig n := ⟨_, rfl⟩
  rw [← hD] at hu hl ⊢
  clear hD
  have h1 : ∀ (v : Value) (W : World), (Instr.typeAssert (.iface 9 v) 20 25 true).run Tryz.prog W = .ok (.tuple #[.int .u32 0, .bool false]) W := fun v W => by rfl
  have h2 : ∀ (v : Value) (W : World), (Instr.typeAssert (.iface 9 v) 20 161 true).run Tryz.prog W = .ok (.tuple #[.string ⟨#[]⟩, .bool false]) W := fun v W => by rfl
  have h3 : ∀ (v : Value) (W : World), (Instr.typeAssert (.iface 9 v) 20 9 true).run Tryz.prog W = .ok (.tuple #[v, .bool true]) W := fun v W => by rfl
  unfold strI
  go_enter Tryz.func45, Tryz.ntmps45
  go_wp2_with (go_at_call 53; refine (Tryz.strconv_ParseUint_10_at32_ok (bs D) (by rw [bs_size]; omega) n (by rw [bs_data]; exact hu) _).mono ?_; rintro e w1 ⟨rfl, hw⟩; have hk : Keep (fun _ => False) w w1 := (by rcases hw with rfl | rfl; exact Keep.refl _ _; exact keep_bytesWorld _ _ _ _); have HK := Lib.hid hk; clear hw hk)
  go_ret2
  exact ⟨rfl, HK.out⟩

set_option maxRecDepth 100000 in
theorem t_pop (w : World) (fg fo n cap : Nat) (v : Value) (hc : w.cell? ⟨fg, fo, none⟩ = some v) (hn : 0 < n) (hcap : n ≤ cap) (hm : cap ≤ 9223372036854775807) :
    Calls Tryz.prog 39 #[.slice (some ⟨fg, fo, none⟩) n cap] w fun e w' => (∃ a, e = .returned (.tuple #[v, .slice a (n - 1) (cap - 1), .nilIface]) ∧ (1 < cap → a = some ⟨fg, fo + 1, none⟩)) ∧ ∃ m, w' = w.drewN m := by
  have hn0 : ((n : Int) == 0) = false := by rw [beq_eq_false_iff_ne]; omega
  have hcase : cap = 1 ∨ 1 < cap := by omega
  rcases hcase with rfl | h1
  · obtain rfl : n = 1 := by omega
    go_enter Tryz.func39, Tryz.ntmps39
    go_wp2
    go_quiet (fail)
    go_wp2
    go_ret3
    exact ⟨⟨_, rfl, fun h => by omega⟩, _, rfl⟩
  · have hne : ¬ cap = 1 := by omega
    go_enter Tryz.func39, Tryz.ntmps39
    go_wp2
    go_quiet (fail)
    go_wp2
    go_ret3
    exact ⟨⟨_, rfl, fun _ => rfl⟩, _, rfl⟩

def kLARGER : List UInt8 := [76, 65, 82, 71, 69, 82]
def kSMALLER : List UInt8 := [83, 77, 65, 76, 76, 69, 82]
def mx0 (lg m : Nat) : Nat := if lg = 0 ∨ lg < m then m else lg
def mn0 (sm m : Nat) : Nat := if sm = 0 ∨ m < sm then m else sm
/-- A block of criteria. -/
def CritB (w : World) (c : Nat) (us : List Value) (lg sm : Nat) (un uo : Value) : Prop := ∃ u0 u1 u2 u3 u4 u5 u6 u7 u8 u9 u10, us = [u0, u1, u2, u3, u4, u5, u6, u7, u8, u9, u10] ∧ Blk w c #[u0, u1, u2, u3, u4, u5, u6, u7, u8, u9, u10, .int .u32 lg, .int .u32 sm, un, uo] 71

set_option maxRecDepth 100000 in
set_option maxHeartbeats 2000000 in
theorem t_pfLarger (w : World) (c fg fo n cap : Nat) (m lg sm : Nat) (us : List Value) (un uo : Value) (hb : CritB w c us lg sm un uo) (hc0 : w.cell? ⟨fg, fo, none⟩ = some (strI kLARGER)) (hc1 : w.cell? ⟨fg, fo + 1, none⟩ = some (strI (dig m)))
    (hn : 2 ≤ n) (hcap : n ≤ cap) (hm : cap ≤ 9223372036854775807) (hne : fg ≠ c) (hm32 : m < 4294967296) :
    Calls Tryz.prog 23 #[.pointer (some ⟨c, 0, none⟩), .slice (some ⟨fg, fo, none⟩) n cap, .nilFunc] w fun e w' => (∃ a, e = .returned (.tuple #[.slice a (n - 2) (cap - 2), .nilIface]) ∧ (2 < cap → a = some ⟨fg, fo + 2, none⟩)) ∧
      CritB w' c us (mx0 lg m) sm un uo ∧ Keep (· = c) w w' := by
  obtain ⟨u0, u1, u2, u3, u4, u5, u6, u7, u8, u9, u10, hus, hb⟩ := hb
  have htl : ∀ l, (bs l).toList = l := bs_toList
  have hn0 : ((n : Int) == 0) = false := by rw [beq_eq_false_iff_ne]; omega
  have hcap1 : ¬ cap = 1 := by omega
  have h1 : ∀ (v : Value) (W : World), (Instr.typeAssert (.iface 9 v) 20 38 true).run Tryz.prog W = .ok (.tuple #[.slice none 0 0, .bool false]) W := fun v W => by rfl
  have h2 : ∀ (v : Value) (W : World), (Instr.typeAssert (.iface 9 v) 20 9 true).run Tryz.prog W = .ok (.tuple #[v, .bool true]) W := fun v W => by rfl
  have hup : (⟨(Lib.toUpperA (bs kLARGER).data.toList).toArray⟩ : ByteArray) = bs kLARGER := by rw [bs_data, bs_def]; rfl
  have HUP := Lib.hid hup
  have HUS := Lib.hid hus
  have HB := Lib.hid hb
  have HC1 := Lib.hid hc1
  clear hus hb hup
  have hkd : kLARGER = [76, 65, 82, 71, 69, 82] := rfl
  unfold strI at hc0
  rw [hkd] at hc0 HUP
  clear hkd
  have hcase : lg = 0 ∨ (lg ≠ 0 ∧ lg < m) ∨ (lg ≠ 0 ∧ ¬ lg < m) := by omega
  rcases hcase with h0 | ⟨h0, hx⟩ | ⟨h0, hx⟩
  all_goals
    have HH := Lib.hid h0
    first
      | (have hz : ((lg : Int) == 0) = true := by rw [h0]; rfl)
      | (have hz : ((lg : Int) == 0) = false := by rw [beq_eq_false_iff_ne]; omega)
    clear h0
    go_enter Tryz.func23, Tryz.ntmps23
    go_wp2_with (first
      | (go_at_call 37; refine (Tryz.strings_ToUpper_ascii (bs [76, 65, 82, 71, 69, 82]) _ (by rw [bs_size]; decide) (by rw [bs_data]; intro j b hj; have := List.mem_of_getElem? hj; simp at this; rcases this with rfl | rfl | rfl | rfl | rfl | rfl | rfl <;> decide)).mono ?_; rintro e w1 ⟨rfl, hb1⟩; rw [HUP.out]; have hk1 := Keep.of_below (M := fun _ => False) hb1; have hc1' : w1.cell? ⟨fg, fo + 1, none⟩ = some (strI (dig m)) := (World.cell?_of_block (a := ⟨fg, fo + 1, none⟩) (hk1.block fg (cell_lt HC1.out) id)).trans HC1.out; have HC1' := Lib.hid hc1'; have HB1 := Lib.hid (HB.out.keep hk1 id); have HK1 := Lib.hid hk1; clear hb1 hk1 hc1')
      | (go_at_call 39; refine (t_pop _ fg (fo + 1) (n - 1) (cap - 1) _ HC1'.out (by omega) (by omega) (by omega)).mono ?_; rintro e w2 ⟨⟨a2, rfl, ha2⟩, nd, rfl⟩; have HA2 := Lib.hid ha2; clear ha2)
      | (go_at_call 45; refine (t_parseNumber _ m hm32).mono ?_; rintro e w3 ⟨rfl, hk3⟩; have hb3 := (HB1.out.drewN nd).keep hk3 id; have e11 : w3.cell? ⟨c, 11, none⟩ = some (.int .u32 lg) := (hb3.cell 11).trans rfl; have ef := hb3.free; have HB3 := Lib.hid hb3; have HK3 := Lib.hid ((HK1.out.drewN nd).trans hk3); clear hk3 hb3))
    go_ret2
    refine ⟨⟨a2, rfl, fun h => HA2.out (by omega)⟩, ⟨u0, u1, u2, u3, u4, u5, u6, u7, u8, u9, u10, HUS.out, ?_⟩, ?_⟩
    · have h0 := HH.out
      first
        | (rw [show mx0 lg m = m from if_pos (by omega)]; exact HB3.out.set 11 _)
        | (rw [show mx0 lg m = lg from if_neg (by omega)]; exact HB3.out)
    · first
        | exact (HK3.out.mono (N := (· = c)) (fun _ _ h => absurd h id)).at (b := c) (fun _ => rfl) _ _
        | exact HK3.out.mono (fun _ _ h => absurd h id)

set_option maxRecDepth 100000 in
set_option maxHeartbeats 2000000 in
theorem t_pfSmaller (w : World) (c fg fo n cap : Nat) (m lg sm : Nat) (us : List Value) (un uo : Value) (hb : CritB w c us lg sm un uo) (hc0 : w.cell? ⟨fg, fo, none⟩ = some (strI kSMALLER)) (hc1 : w.cell? ⟨fg, fo + 1, none⟩ = some (strI (dig m)))
    (hn : 2 ≤ n) (hcap : n ≤ cap) (hm : cap ≤ 9223372036854775807) (hne : fg ≠ c) (hm32 : m < 4294967296) :
    Calls Tryz.prog 23 #[.pointer (some ⟨c, 0, none⟩), .slice (some ⟨fg, fo, none⟩) n cap, .nilFunc] w fun e w' => (∃ a, e = .returned (.tuple #[.slice a (n - 2) (cap - 2), .nilIface]) ∧ (2 < cap → a = some ⟨fg, fo + 2, none⟩)) ∧
      CritB w' c us lg (mn0 sm m) un uo ∧ Keep (· = c) w w' := by
  obtain ⟨u0, u1, u2, u3, u4, u5, u6, u7, u8, u9, u10, hus, hb⟩ := hb
  have htl : ∀ l, (bs l).toList = l := bs_toList
  have hn0 : ((n : Int) == 0) = false := by rw [beq_eq_false_iff_ne]; omega
  have hcap1 : ¬ cap = 1 := by omega
  have h1 : ∀ (v : Value) (W : World), (Instr.typeAssert (.iface 9 v) 20 38 true).run Tryz.prog W = .ok (.tuple #[.slice none 0 0, .bool false]) W := fun v W => by rfl
  have h2 : ∀ (v : Value) (W : World), (Instr.typeAssert (.iface 9 v) 20 9 true).run Tryz.prog W = .ok (.tuple #[v, .bool true]) W := fun v W => by rfl
  have hup : (⟨(Lib.toUpperA (bs kSMALLER).data.toList).toArray⟩ : ByteArray) = bs kSMALLER := by rw [bs_data, bs_def]; rfl
  have HUP := Lib.hid hup
  have HUS := Lib.hid hus
  have HB := Lib.hid hb
  have HC1 := Lib.hid hc1
  clear hus hb hup
  have hkd : kSMALLER = [83, 77, 65, 76, 76, 69, 82] := rfl
  unfold strI at hc0
  rw [hkd] at hc0 HUP
  clear hkd
  have hcase : sm = 0 ∨ (sm ≠ 0 ∧ m < sm) ∨ (sm ≠ 0 ∧ ¬ m < sm) := by omega
  rcases hcase with h0 | ⟨h0, hx⟩ | ⟨h0, hx⟩
  all_goals
    have HH := Lib.hid h0
    first
      | (have hz : ((sm : Int) == 0) = true := by rw [h0]; rfl)
      | (have hz : ((sm : Int) == 0) = false := by rw [beq_eq_false_iff_ne]; omega)
    clear h0
    go_enter Tryz.func23, Tryz.ntmps23
    go_wp2_with (first
      | (go_at_call 37; refine (Tryz.strings_ToUpper_ascii (bs [83, 77, 65, 76, 76, 69, 82]) _ (by rw [bs_size]; decide) (by rw [bs_data]; intro j b hj; have := List.mem_of_getElem? hj; simp at this; rcases this with rfl | rfl | rfl | rfl | rfl | rfl | rfl <;> decide)).mono ?_; rintro e w1 ⟨rfl, hb1⟩; rw [HUP.out]; have hk1 := Keep.of_below (M := fun _ => False) hb1; have hc1' : w1.cell? ⟨fg, fo + 1, none⟩ = some (strI (dig m)) := (World.cell?_of_block (a := ⟨fg, fo + 1, none⟩) (hk1.block fg (cell_lt HC1.out) id)).trans HC1.out; have HC1' := Lib.hid hc1'; have HB1 := Lib.hid (HB.out.keep hk1 id); have HK1 := Lib.hid hk1; clear hb1 hk1 hc1')
      | (go_at_call 39; refine (t_pop _ fg (fo + 1) (n - 1) (cap - 1) _ HC1'.out (by omega) (by omega) (by omega)).mono ?_; rintro e w2 ⟨⟨a2, rfl, ha2⟩, nd, rfl⟩; have HA2 := Lib.hid ha2; clear ha2)
      | (go_at_call 45; refine (t_parseNumber _ m hm32).mono ?_; rintro e w3 ⟨rfl, hk3⟩; have hb3 := (HB1.out.drewN nd).keep hk3 id; have e11 : w3.cell? ⟨c, 12, none⟩ = some (.int .u32 sm) := (hb3.cell 12).trans rfl; have ef := hb3.free; have HB3 := Lib.hid hb3; have HK3 := Lib.hid ((HK1.out.drewN nd).trans hk3); clear hk3 hb3))
    go_ret2
    refine ⟨⟨a2, rfl, fun h => HA2.out (by omega)⟩, ⟨u0, u1, u2, u3, u4, u5, u6, u7, u8, u9, u10, HUS.out, ?_⟩, ?_⟩
    · have h0 := HH.out
      first
        | (rw [show mn0 sm m = m from if_pos (by omega)]; exact HB3.out.set 12 _)
        | (rw [show mn0 sm m = sm from if_neg (by omega)]; exact HB3.out)
    · first
        | exact (HK3.out.mono (N := (· = c)) (fun _ _ h => absurd h id)).at (b := c) (fun _ => rfl) _ _
        | exact HK3.out.mono (fun _ _ h => absurd h id)
end Go.Proofs.YtlnbikcfjnloaaaGreatDoor

namespace Go.Proofs.YtlnbikcfjnloaaaGreatDoor
set_option linter.unusedVariables false
set_option linter.unusedSimpArgs false
open Go.RowKit

/-- One step of the parse: a key and its text turn the block of criteria from A to B. -/
def PfOk (c fg : Nat) (K V : List UInt8) (A B : Array Value) : Prop := ∀ (w : World) (fo n cap : Nat), Blk w c A 71 → w.cell? ⟨fg, fo, none⟩ = some (strI K) → w.cell? ⟨fg, fo + 1, none⟩ = some (strI V) → 2 ≤ n → n ≤ cap → cap ≤ 9223372036854775807 → fg ≠ c →
  Calls Tryz.prog 23 #[.pointer (some ⟨c, 0, none⟩), .slice (some ⟨fg, fo, none⟩) n cap, .nilFunc] w fun e w' => (∃ a, e = .returned (.tuple #[.slice a (n - 2) (cap - 2), .nilIface]) ∧ (2 < cap → a = some ⟨fg, fo + 2, none⟩)) ∧ Blk w' c B 71 ∧ Keep (· = c) w w'
def PfAll (c fg : Nat) : List (List UInt8 × List UInt8) → Array Value → Array Value → Prop
  | [], A, B => A = B
  | (K, V) :: r, A, B => ∃ M, PfOk c fg K V A M ∧ PfAll c fg r M B
/-- The fields of a row of keys and texts. -/
def flatF : List (List UInt8 × List UInt8) → List (List UInt8)
  | [] => []
  | (K, V) :: r => K :: V :: flatF r
theorem flatF_len : ∀ l, (flatF l).length = 2 * l.length
  | [] => rfl
  | (K, V) :: r => by simp [flatF, flatF_len r]; omega

set_option maxRecDepth 100000 in
theorem t_parse (w : World) (c fg : Nat) (ops : List (List UInt8 × List UInt8)) (A B : Array Value) (h : PfAll c fg ops A B) (hb : Blk w c A 71) (hne : fg ≠ c) (a : Option Addr) (cap : Nat) (ha : ops ≠ [] → a = some ⟨fg, 0, none⟩) (hcap : 2 * ops.length ≤ cap) (hm : cap ≤ 9223372036854775807)
    (hc : ∀ i, i < 2 * ops.length → w.cell? ⟨fg, i, none⟩ = some (((flatF ops).map strI).getD i default)) :
    Calls Tryz.prog 16 #[.pointer (some ⟨c, 0, none⟩), .slice a (2 * ops.length) cap, .nilFunc] w fun e w' => e = .returned .nilIface ∧ Blk w' c B 71 ∧ Keep (· = c) w w' := by
  have H := Lib.hid h
  have HB := Lib.hid hb
  have HA := Lib.hid ha
  have HC := Lib.hid hc
  clear h hb ha hc
  go_enter Tryz.func16, Tryz.ntmps16
  go_wp2
  go_loopg [1] ops.length (fun k v wr => ∃ rest A2 a2 cap2 fo, v = .slice a2 (2 * rest.length) cap2 ∧ rest.length = k ∧ (rest ≠ [] → a2 = some ⟨fg, fo, none⟩) ∧ 2 * rest.length ≤ cap2 ∧ cap2 ≤ 9223372036854775807 ∧ (∀ i, i < 2 * rest.length → wr.cell? ⟨fg, fo + i, none⟩ = some (((flatF rest).map strI).getD i default)) ∧ PfAll c fg rest A2 B ∧ Blk wr c A2 71 ∧ Keep (· = c) w wr)
  case atStart => exact ⟨ops, A, a, cap, 0, rfl, rfl, HA.out, hcap, hm, (fun i hi => by rw [Nat.zero_add]; exact HC.out i hi), H.out, HB.out, Keep.refl _ _⟩
  case round =>
    obtain ⟨rest, A2, a2, cap2, fo, rfl, hrk, ha2, hcap2, hm2, hc2, hp, hb2, hk⟩ := hrel
    have HB2 := Lib.hid hb2
    have HK := Lib.hid hk
    have HC2 := Lib.hid hc2
    have HP := Lib.hid hp
    have HRK := Lib.hid hrk
    clear hb2 hk hc2 hp
    cases rest with
    | nil =>
      clear ha2 hrk
      have h0 : ((2 * ([] : List (List UInt8 × List UInt8)).length : Nat) : Int) = 0 := rfl
      go_wp2
      go_ret
      refine ⟨rfl, ?_, HK.out⟩
      have := HP.out
      rw [show B = A2 from (show A2 = B from this).symm]
      exact HB2.out
    | cons kv rest =>
      obtain ⟨K, V⟩ := kv
      obtain rfl := ha2 (by simp)
      obtain ⟨M, h1, h2⟩ := HP.out
      have e0 : wr.cell? ⟨fg, fo, none⟩ = some (strI K) := by have := HC2.out 0 (by simp); simpa [flatF] using this
      have e1 : wr.cell? ⟨fg, fo + 1, none⟩ = some (strI V) := by have := HC2.out 1 (by simp; omega); simpa [flatF] using this
      have hfgl := cell_lt e0
      simp only [List.length_cons] at hcap2 hrk
      obtain ⟨n2, hn2⟩ : ∃ n2, n2 = 2 * (rest.length + 1) := ⟨_, rfl⟩
      have hc1 := h1 wr fo n2 cap2 HB2.out e0 e1 (by omega) (by omega) hm2 hne
      have HC1 := Lib.hid hc1
      have HH2 := Lib.hid h2
      have HN2 := Lib.hid hn2
      have hlen : 2 * ((K, V) :: rest).length = n2 := by rw [hn2]; rfl
      have hpos : 0 < n2 := by omega
      rw [hlen]
      clear h1 h2 hc1 e0 e1 hn2 hlen
      go_wp2_with (go_at_call 23; refine HC1.out.mono ?_; rintro e w1 ⟨⟨a3, rfl, ha3⟩, hb1, hk1⟩; have HA3 := Lib.hid ha3; have HB1 := Lib.hid hb1; have HK1 := Lib.hid hk1; clear ha3 hb1 hk1)
      have hn2 := HN2.out
      go_roundg (gk - 1)
      case measure => have := HRK.out; simp at this; omega
      case rel =>
        refine ⟨rest, M, a3, cap2 - 2, fo + 2, by rw [show n2 - 2 = 2 * rest.length from by omega], by have := HRK.out; simp at this; omega, fun hr => HA3.out (by cases rest with | nil => exact absurd rfl hr | cons x y => simp only [List.length_cons] at hcap2; omega), by omega, by omega, fun i hi => ?_, HH2.out, HB1.out, HK.out.trans HK1.out⟩
        rw [World.cell?_of_block (a := ⟨fg, fo + 2 + i, none⟩) (HK1.out.block fg hfgl hne)]
        have := HC2.out (i + 2) (by simp; omega)
        rw [show fo + (i + 2) = fo + 2 + i from by omega] at this
        rw [this]
        simp [flatF, List.getD]
end Go.Proofs.YtlnbikcfjnloaaaGreatDoor

namespace Go.Proofs.YtlnbikcfjnloaaaGreatDoor
set_option linter.unusedVariables false
set_option linter.unusedSimpArgs false
open Go.RowKit

set_option maxRecDepth 100000 in
theorem t_insNil (w : World) : Calls Tryz.prog 102 #[.slice none 0 0, .int .i64 0, .int .i64 0] w fun e w' => e = .returned (.tuple #[]) ∧ w' = w := by
  go_enter Tryz.func102, Tryz.ntmps102
  go_wp2
  go_loopg [6] 1 (fun k v wr => k = 1 ∧ v = .int .i64 1 ∧ wr = w)
  case atStart => exact ⟨rfl, rfl, rfl⟩
  case round =>
    obtain ⟨rfl, rfl, rfl⟩ := hrel
    go_wp2
    go_end0
    exact ⟨rfl, rfl⟩
set_option maxRecDepth 100000 in
theorem t_pdqNil (w : World) (n : Int) : Calls Tryz.prog 75 #[.slice none 0 0, .int .i64 0, .int .i64 0, .int .i64 n] w fun e w' => e = .returned (.tuple #[]) ∧ w' = w := by
  go_enter Tryz.func75, Tryz.ntmps75
  go_wp2
  go_loopg [1, 2] 1 (fun k v1 v2 wr => k = 1 ∧ v1 = .int .i64 0 ∧ v2 = .int .i64 0 ∧ wr = w)
  case atStart => exact ⟨rfl, rfl, rfl, rfl⟩
  case round =>
    obtain ⟨rfl, rfl, rfl, rfl⟩ := hrel
    go_wp2_with (go_at_call 102; refine (t_insNil _).mono ?_; rintro e w1 ⟨rfl, rfl⟩)
    refine bodyPost_ret (v := .tuple #[]) (by simp [results, Tryz.results75, go_sem]) rfl ⟨rfl, rfl⟩
set_option maxRecDepth 100000 in
theorem t_sortNil (w : World) : Calls Tryz.prog 27 #[.slice none 0 0] w fun e w' => e = .returned (.tuple #[]) ∧ w' = w := by
  go_enter Tryz.func27, Tryz.ntmps27
  go_wp2_with (first
    | (go_at_call 75; refine (t_pdqNil _ _).mono ?_; rintro e w1 ⟨rfl, rfl⟩)
    | go_in)
  go_end0
  go_wp2
  go_end0
  exact ⟨rfl, rfl⟩
end Go.Proofs.YtlnbikcfjnloaaaGreatDoor

namespace Go.Proofs.YtlnbikcfjnloaaaGreatDoor
set_option linter.unusedVariables false
set_option linter.unusedSimpArgs false
open Go.RowKit

/-- The facts of a slice type of rows of several cells. -/
structure ElemS (P : Program) (t e : TypeId) (z : Value) (sz b : Nat) : Prop where
  und : P.underlying t = some (.slice e)
  info : ∃ i, P.info? e = some i ∧ i.zero = some z ∧ i.size = sz ∧ i.bytes = b
  all : z.cells.size = sz
  pos : 0 < sz
  small : b ≤ 128
theorem Tryz.elemC : ElemS Tryz.prog 24 28 (.agg #[.int .i64 0, .string ⟨#[]⟩, .string ⟨#[]⟩, .int .u32 0, .int .i64 0, .slice none 0 0, .int .i64 0]) 7 88 :=
  ⟨by kernel_rfl, info_parts (by kernel_rfl), rfl, by decide, by decide⟩
section
variable {P : Program} {ops : Array Oper} {Q : Exit → Act → World → Prop} {rest : List Oper} {o : Oper} {a : Act} {w : World}
/-- 's = append(s, xs...)' of rows of several cells. -/
theorem wp_appS {t e : TypeId} {z : Value} {sz b : Nat} (hE : ElemS P t e z sz b) (s x : Operand) (hg : o.guard = none) (ho : o.op = .call { callee := .builtin .append, args := #[s, x], argTypes := #[t, t] })
    (base : Nat) (v : Value) (n m c : Nat) (xs : List Value) (hs : a.eval s = v) (hown : w.ownsRow base e sz v n xs) (g : Nat) (news : List Value) (hx : a.eval x = .slice (some ⟨g, 0, none⟩) m c) (hl : news.length = m * sz)
    (hu : ∀ i, i < news.length → w.cell? ⟨g, i, none⟩ = some (news.getD i default)) (h1 : ∀ u ∈ news, u.oneCell' = true) (hn : n + m < 1000000) (hbase : base ≤ w.heap.size)
    (h : ∀ v' w', w'.ownsRow base e sz v' (n + m) (xs ++ news) → Keep (fun k => base ≤ k) w w' → (∀ k, v.ownBlock ≠ some k → k < w.heap.size → w'.heap[k]? = w.heap[k]?) → wpList P ops Q rest (a.put o.dst v') w') :
    wpList P ops Q (o :: rest) a w := by
  obtain ⟨i, hi, hz, h11, hb⟩ := hE.info
  have hsm := hE.small
  refine wpList_append_own_at w hg s x t ho base e i z sz b hE.und hi hz h11 hb hE.all hE.pos v n xs hs hown ⟨g, 0, none⟩ m c news hx hl ?_ h1 (by unfold maxLen; omega) ?_ hbase ?_
  · intro j u' hj
    have hj2 : j < news.length := (List.getElem?_eq_some_iff.1 hj).1
    rw [Go.WideShapes.add_plain, Nat.zero_add, hu j hj2]
    simp [List.getD, hj]
  · have : (n + m) * b ≤ 1000000 * 128 := Nat.mul_le_mul (by omega) hsm
    omega
  · intro v' w' h2 h3 _ h5
    exact h v' w' h2 ⟨h3.os, h3.tape, h3.output, h3.size, fun k hk hm => h3.block k hk (fun e => hm (hown.lt k e.symm).1)⟩ (fun k hk hlt => h3.block k hlt (fun e => hk e.symm))
end

theorem ownS_slice {w : World} {base : Nat} {e : TypeId} {sz : Nat} {v : Value} {n : Nat} {xs : List Value} (h : w.ownsRow base e sz v n xs) (hn : 0 < n) :
    ∃ g cap, v = .slice (some ⟨g, 0, none⟩) n cap ∧ base ≤ g ∧ g < w.heap.size ∧ n ≤ cap ∧ ∀ i, i < n * sz → w.cell? ⟨g, i, none⟩ = some (xs.getD i default) := by
  obtain ⟨hl, h | ⟨g, cap, cur, hv, hb, hg, h1, h2, h3, h4⟩⟩ := h
  · omega
  · refine ⟨g, cap, hv, hb, (Array.getElem?_eq_some_iff.1 hg).1, h1, fun i hi => ?_⟩
    have hc : w.cell? ⟨g, i, none⟩ = cur[i]? := by simp [World.cell?, hg]
    have hx : xs[i]? = cur[i]? := by
      rw [← h4, List.getElem?_take_of_lt hi]
      simp
    have : i < xs.length := by omega
    rw [hc, ← hx]
    simp [List.getD, this]
/-- A criterion as cells. -/
def critC (k : Int) (nn : Nat) (dy sz : Int) : List Value := [.int .i64 k, .string ⟨#[]⟩, .string ⟨#[]⟩, .int .u32 nn, .int .i64 dy, .slice none 0 0, .int .i64 sz]

set_option maxRecDepth 100000 in
theorem t_add (w : World) (lb base : Nat) (v : Value) (n : Nat) (xs : List Value) (hl : Blk w lb #[v] 24) (ho : w.ownsRow base 28 7 v n xs) (hbase : base ≤ w.heap.size) (hn : n < 1000) (k : Int) (nn : Nat) (dy : Int) :
    Calls Tryz.prog 24 #[.agg #[.int .i64 k, .string ⟨#[]⟩, .string ⟨#[]⟩, .int .u32 nn, .int .i64 dy, .slice none 0 0, .int .i64 0], .pointer (some ⟨lb, 0, none⟩)] w fun e w' => e = .returned (.tuple #[]) ∧
      ∃ v', Blk w' lb #[v'] 24 ∧ w'.ownsRow base 28 7 v' (n + 1) (xs ++ critC k nn dy 1) ∧ Keep (fun k => k = lb ∨ base ≤ k) w w' := by
  have l0 : w.cell? ⟨lb, 0, none⟩ = some v := (hl.cell 0).trans rfl
  have lf := hl.free
  have llt := hl.lt
  have HL := Lib.hid hl
  have HO := Lib.hid ho
  clear hl ho
  go_enter Tryz.func24, Tryz.ntmps24
  have hz1 : (w.alloc (.cells (critC k nn dy 1).toArray 28)).heap.size = w.heap.size + 1 := by simp
  have hn1 := Blk.new (w.alloc (.cells (critC k nn dy 1).toArray 28)) (critC k nn dy 1).toArray 28
  rw [hz1] at hn1
  have HN := Lib.hid hn1
  clear hz1 hn1
  go_wp2_with (at_builtin; refine wp_appS Tryz.elemC (.tmp 4) (.tmp 6) rfl rfl base v n 1 _ xs rfl ((HO.out.alloc _).alloc _) (w.heap.size + 1) (critC k nn dy 1) rfl rfl (fun i hi => (HN.out.cell i).trans (by simp [List.getD, hi])) (fun u hu => by simp [critC] at hu; rcases hu with rfl | rfl | rfl | rfl | rfl | rfl | rfl <;> rfl) (by omega) (by simp; omega) ?_; intro v2 w2 hv2 hk2 hf2; obtain ⟨g2, cap2, rfl, -⟩ := ownS_slice hv2 (by omega); have hb2 : Blk w2 lb #[v] 24 := (hf2 lb (fun e => by have := HL.out; obtain ⟨_, ⟨h, _⟩ | ⟨g, cap, cur, hv, _, hg, _⟩⟩ := HO.out; (rw [h] at e; cases e); (rw [hv] at e; injection e with e; subst e; exact absurd rfl (HL.out.ne (b' := g) (t' := 28) (cs' := cur) hg (by decide)))) (by simp; omega)).trans ((HL.out.alloc _).alloc _); have l2 : w2.cell? ⟨lb, 0, none⟩ = some v := (hb2.cell 0).trans rfl; have f2 := hb2.free; have HV2 := Lib.hid hv2; have HB2 := Lib.hid hb2; have HK2 := Lib.hid (((Keep.refl (fun k => k = lb ∨ base ≤ k) w).alloc _).alloc _ |>.trans (hk2.mono (fun _ _ h => .inr h))); clear hv2 hk2 hf2 hb2)
  go_end0
  refine ⟨rfl, .slice (some ⟨g2, 0, none⟩) (n + 1) cap2, HB2.out.set 0 _, ?_, HK2.out.at (b := lb) (fun _ => .inl rfl) 0 _⟩
  obtain ⟨hx, ⟨h, _⟩ | ⟨g, cap, cur, hv, hgb, hg, h1, h2, h3, h4⟩⟩ := HV2.out
  · cases h
  · injection hv with ha _ hc
    injection ha with ha
    injection ha with ha
    subst ha
    subst hc
    have hgl : g2 ≠ lb := Ne.symm (HB2.out.ne (b' := g2) (cs' := cur) (t' := 28) hg (by decide))
    exact ⟨hx, .inr ⟨g2, cap2, cur, rfl, hgb, (Below.heap_setCell w2 ⟨lb, 0, none⟩ _ g2 hgl).trans hg, h1, h2, h3, h4⟩⟩
end Go.Proofs.YtlnbikcfjnloaaaGreatDoor

namespace Go.Proofs.YtlnbikcfjnloaaaGreatDoor
set_option linter.unusedVariables false
set_option linter.unusedSimpArgs false
open Go.RowKit

/-- Criteria that stand alone: kind, number, day. -/
def cellsL (L : List (Int × Nat × Int)) : List Value := L.flatMap fun x => critC x.1 x.2.1 x.2.2 1
def dayT (i : Nat) (d : Int) : List (Int × Nat × Int) := if d = 0 then [] else [(4 + (i : Int), 0, d - 719162)]
def numT (k : Int) (n : Nat) : List (Int × Nat × Int) := if n = 0 then [] else [(k, n, 0)]
def dayL : Nat → List Int → List (Int × Nat × Int)
  | _, [] => []
  | i, d :: r => dayT i d ++ dayL (i + 1) r

theorem cellsL_length (L : List (Int × Nat × Int)) : (cellsL L).length = L.length * 7 := by
  induction L with
  | nil => rfl
  | cons x L ih =>
    show (critC x.1 x.2.1 x.2.2 1 ++ cellsL L).length = _
    rw [List.length_append, ih]
    simp [critC]
    omega
theorem cellsL_one (L : List (Int × Nat × Int)) : ∀ u ∈ cellsL L, u.oneCell' = true := by
  intro u hu
  obtain ⟨x, _, hx⟩ := List.mem_flatMap.1 hu
  simp only [critC, List.mem_cons, List.not_mem_nil, or_false] at hx
  rcases hx with rfl | rfl | rfl | rfl | rfl | rfl | rfl <;> rfl
theorem cellsL_snoc (L : List (Int × Nat × Int)) (x : Int × Nat × Int) : cellsL (L ++ [x]) = cellsL L ++ critC x.1 x.2.1 x.2.2 1 := by
  rw [cellsL, cellsL, List.flatMap_append]
  simp
theorem ownS_new (w : World) (base : Nat) (e : TypeId) (xs : List Value) (hb : base ≤ w.heap.size) (hx : xs.length = 7) : (w.alloc (.cells xs.toArray e)).ownsRow base e 7 (.slice (some ⟨w.heap.size, 0, none⟩) 1 1) 1 xs :=
  ⟨by rw [hx], .inr ⟨w.heap.size, 1, xs.toArray, rfl, hb, heap_alloc_new w _, Nat.le_refl _, by decide, by simp [hx], by simp [← hx]⟩⟩

set_option maxRecDepth 100000 in
set_option maxHeartbeats 2000000 in
theorem t_critOf (w : World) (c mp : Nat) (d0 d1 d2 d3 : Int) (lg sm : Nat) (hb : Blk w c #[.pointer none, .pointer none, .int .i64 d0, .int .i64 d1, .int .i64 d2, .int .i64 d3, .map (some mp), .slice none 0 0, .slice none 0 0, .slice none 0 0, .slice none 0 0, .int .u32 lg, .int .u32 sm, .slice none 0 0, .slice none 0 0] 71)
    (hm : w.heap[mp]? = some (.map #[] 0)) (hd : ∀ d ∈ [d0, d1, d2, d3], 0 ≤ d ∧ d ≤ 1000000) (hne : 0 < (dayL 0 [d0, d1, d2, d3] ++ numT 13 lg ++ numT 14 sm).length) :
    Calls Tryz.prog 17 #[.pointer (some ⟨c, 0, none⟩)] w fun e w' => ∃ v L, L = dayL 0 [d0, d1, d2, d3] ++ numT 13 lg ++ numT 14 sm ∧ e = .returned v ∧
      w'.ownsRow w.heap.size 28 7 v (L.length + 1) (critC 1 0 0 (L.length + 1) ++ cellsL L) ∧ Keep (fun _ => False) w w' := by
  have hmf : ∀ (fn : Fn) (first cap : Array Value) (w : World), (Instr.makeFunc fn first cap).run Tryz.prog w = .ok (.func fn first cap) w := fun _ _ _ _ => rfl
  have hL := Blk.new w #[.slice none 0 0] 24
  have hbW := hb.alloc (.cells #[.slice none 0 0] 24)
  have hk0 := (Keep.refl (fun _ => False) w).alloc (.cells #[.slice none 0 0] 24)
  have hmW : (w.alloc (.cells #[.slice none 0 0] 24)).heap[mp]? = some (.map #[] 0) := (hk0.block mp (Array.getElem?_eq_some_iff.1 hm).1 id).trans hm
  have zW : (w.alloc (.cells #[.slice none 0 0] 24)).heap.size = w.heap.size + 1 := by simp
  have HL := Lib.hid hL
  have HB := Lib.hid hbW
  have HK := Lib.hid hk0
  have HM := Lib.hid hmW
  have HZ := Lib.hid zW
  have HD := Lib.hid hd
  have HNE := Lib.hid hne
  clear hne
  have HMP := Lib.hid (show mp < w.heap.size from (Array.getElem?_eq_some_iff.1 hm).1)
  have hcl := hb.lt
  have c0 : w.cell? ⟨c, 0, none⟩ = some (.pointer none) := (hb.cell 0).trans rfl
  have c1 : w.cell? ⟨c, 1, none⟩ = some (.pointer none) := (hb.cell 1).trans rfl
  clear hL hbW hk0 hmW zW hb hm hd
  go_enter Tryz.func17, Tryz.ntmps17
  go_wp2
  clear c0 c1
  generalize w.alloc (.cells #[.slice none 0 0] 24) = W at HL HB HK HM HZ ⊢
  have k2 : ∀ w', Keep (fun _ => False) W w' → w'.cell? ⟨c, 2, none⟩ = some (.int .i64 d0) := fun w' hk => ((HB.out.keep hk id).cell 2).trans rfl
  have k3 : ∀ w', Keep (fun _ => False) W w' → w'.cell? ⟨c, 3, none⟩ = some (.int .i64 d1) := fun w' hk => ((HB.out.keep hk id).cell 3).trans rfl
  have k4 : ∀ w', Keep (fun _ => False) W w' → w'.cell? ⟨c, 4, none⟩ = some (.int .i64 d2) := fun w' hk => ((HB.out.keep hk id).cell 4).trans rfl
  have k5 : ∀ w', Keep (fun _ => False) W w' → w'.cell? ⟨c, 5, none⟩ = some (.int .i64 d3) := fun w' hk => ((HB.out.keep hk id).cell 5).trans rfl
  refine Mix.wp_region_mixc [(0, 0), (1, 0), (2, 0), (3, 0), (4, 0), (5, 0), (6, 0), (7, 0), (8, 0), (9, 0), (10, 0), (11, 0), (12, 0), (13, 0), (14, 0), (15, 0), (18, 0), (16, 1), (17, 0)] (Keep (fun _ => False) W) (by kernel_rfl) (by kernel_rfl) (fun _ _ _ _ h => h) ?_ ?_
  focus exact (Keep.refl (fun _ => False) W).drew
  repeat (first | (refine Mix.mix_pure rfl rfl (fun K hK => ?_); go_big_quiet_op; (first | (refine hK _ ?_; clear hK K) | (refine ⟨_, fun _ _ => rfl, ?_⟩; refine hK _ ?_; clear hK K) | (refine ⟨_, fun w_ h_ => (by simp [go_sem, k2 w_ h_, k3 w_ h_, k4 w_ h_, k5 w_ h_]; rfl), ?_⟩; refine hK _ ?_; clear hK K))) | (refine Mix.mix_free rfl rfl (fun K hK => ?_); go_big_quiet_op; (first | (refine hK _ ?_; clear hK K) | (refine ⟨_, fun _ _ => rfl, ?_⟩; refine hK _ ?_; clear hK K) | (refine ⟨_, fun w_ h_ => (by simp [go_sem, k2 w_ h_, k3 w_ h_, k4 w_ h_, k5 w_ h_]; rfl), ?_⟩; refine hK _ ?_; clear hK K))) | (refine Mix.mix_pure_want rfl rfl (fun K hK => ?_); go_big_quiet_op; (first | (refine hK _ ?_; clear hK K) | (refine ⟨_, fun _ _ => rfl, ?_⟩; refine hK _ ?_; clear hK K) | (refine ⟨_, fun w_ h_ => (by simp [go_sem, k2 w_ h_, k3 w_ h_, k4 w_ h_, k5 w_ h_]; rfl), ?_⟩; refine hK _ ?_; clear hK K))) | (refine Mix.mix_free_want rfl rfl (fun K hK => ?_); go_big_quiet_op; (first | (refine hK _ ?_; clear hK K) | (refine ⟨_, fun _ _ => rfl, ?_⟩; refine hK _ ?_; clear hK K) | (refine ⟨_, fun w_ h_ => (by simp [go_sem, k2 w_ h_, k3 w_ h_, k4 w_ h_, k5 w_ h_]; rfl), ?_⟩; refine hK _ ?_; clear hK K))) | (refine Mix.mix_skip rfl rfl (by decide) ?_; (try simp only [Act.put, List.setIfInBounds_toArray, List.set_cons_zero, List.set_cons_succ])))
  refine Mix.mix_keep rfl rfl (fun K hK => ?_)
  go_wp2
  refine ⟨((Keep.refl (fun _ => False) W).alloc _).drew, ?_⟩
  repeat (first | (refine Mix.mix_pure rfl rfl (fun K hK => ?_); go_big_quiet_op; (first | (refine hK _ ?_; clear hK K) | (refine ⟨_, fun _ _ => rfl, ?_⟩; refine hK _ ?_; clear hK K) | (refine ⟨_, fun w_ h_ => (by simp [go_sem, k2 w_ h_, k3 w_ h_, k4 w_ h_, k5 w_ h_]; rfl), ?_⟩; refine hK _ ?_; clear hK K))) | (refine Mix.mix_free rfl rfl (fun K hK => ?_); go_big_quiet_op; (first | (refine hK _ ?_; clear hK K) | (refine ⟨_, fun _ _ => rfl, ?_⟩; refine hK _ ?_; clear hK K) | (refine ⟨_, fun w_ h_ => (by simp [go_sem, k2 w_ h_, k3 w_ h_, k4 w_ h_, k5 w_ h_]; rfl), ?_⟩; refine hK _ ?_; clear hK K))) | (refine Mix.mix_pure_want rfl rfl (fun K hK => ?_); go_big_quiet_op; (first | (refine hK _ ?_; clear hK K) | (refine ⟨_, fun _ _ => rfl, ?_⟩; refine hK _ ?_; clear hK K) | (refine ⟨_, fun w_ h_ => (by simp [go_sem, k2 w_ h_, k3 w_ h_, k4 w_ h_, k5 w_ h_]; rfl), ?_⟩; refine hK _ ?_; clear hK K))) | (refine Mix.mix_free_want rfl rfl (fun K hK => ?_); go_big_quiet_op; (first | (refine hK _ ?_; clear hK K) | (refine ⟨_, fun _ _ => rfl, ?_⟩; refine hK _ ?_; clear hK K) | (refine ⟨_, fun w_ h_ => (by simp [go_sem, k2 w_ h_, k3 w_ h_, k4 w_ h_, k5 w_ h_]; rfl), ?_⟩; refine hK _ ?_; clear hK K))) | (refine Mix.mix_skip rfl rfl (by decide) ?_; (try simp only [Act.put, List.setIfInBounds_toArray, List.set_cons_zero, List.set_cons_succ])))
  refine Mix.mix_nil ?_
  have hg1 := (Blk.new W #[.int .i64 d0, .int .i64 d1, .int .i64 d2, .int .i64 d3] 67).drew
  have hk1 := ((Keep.refl (fun _ => False) W).alloc (.cells #[.int .i64 d0, .int .i64 d1, .int .i64 d2, .int .i64 d3] 67)).drew
  have hl1 := HL.out.keep hk1 id
  have hz1 : (W.alloc (.cells #[.int .i64 d0, .int .i64 d1, .int .i64 d2, .int .i64 d3] 67)).drew.heap.size = w.heap.size + 2 := by have := HZ.out; simp; omega
  have HG1 := Lib.hid hg1
  have HK1 := Lib.hid hk1
  have HL1 := Lib.hid hl1
  have HZ1 := Lib.hid hz1
  clear hg1 hk1 hl1 hz1 k2 k3 k4 k5
  generalize (W.alloc (.cells #[.int .i64 d0, .int .i64 d1, .int .i64 d2, .int .i64 d3] 67)).drew = W1 at HG1 HK1 HL1 HZ1 ⊢
  go_wp2
  go_loopg [75] 4 (fun k v wr => ∃ i vl, v = .int .i64 (i : Nat) ∧ i + k = 4 ∧ Blk wr w.heap.size #[vl] 24 ∧ wr.ownsRow W1.heap.size 28 7 vl (dayL 0 ([d0, d1, d2, d3].take i)).length (cellsL (dayL 0 ([d0, d1, d2, d3].take i))) ∧ Keep (fun k => k = w.heap.size ∨ W1.heap.size ≤ k) W1 wr)
  case atStart => exact ⟨0, .slice none 0 0, rfl, rfl, HL1.out, World.ownsRow_nil _ _ _ _, Keep.refl _ _⟩
  case round =>
    obtain ⟨i, vl, rfl, hik, hl, ho, hk⟩ := hrel
    have HL := Lib.hid hl
    have HO := Lib.hid ho
    have HKR := Lib.hid hk
    clear hl ho hk
    by_cases hi : i < 4
    · obtain ⟨d, hdd⟩ : ∃ d, d = [d0, d1, d2, d3].getD i 0 := ⟨_, rfl⟩
      have hcell : wr.cell? ⟨W.heap.size, i, none⟩ = some (.int .i64 d) := by
        rw [((HG1.out.keep HKR.out (by have := HZ1.out; have := HZ.out; omega)).cell i), hdd]
        have : i = 0 ∨ i = 1 ∨ i = 2 ∨ i = 3 := by omega
        rcases this with rfl | rfl | rfl | rfl <;> rfl
      have hdr : 0 ≤ d ∧ d ≤ 1000000 := by
        rw [hdd]
        have : i = 0 ∨ i = 1 ∨ i = 2 ∨ i = 3 := by omega
        rcases this with rfl | rfl | rfl | rfl <;> exact HD.out _ (by simp)
      obtain ⟨hdr0, hdr1⟩ := hdr
      have hsn : dayL 0 ([d0, d1, d2, d3].take (i + 1)) = dayL 0 ([d0, d1, d2, d3].take i) ++ dayT i d := by
        rw [hdd]
        have : i = 0 ∨ i = 1 ∨ i = 2 ∨ i = 3 := by omega
        rcases this with rfl | rfl | rfl | rfl <;> simp [dayL]
      have hlen : (dayL 0 ([d0, d1, d2, d3].take i)).length ≤ 4 := by
        have : i = 0 ∨ i = 1 ∨ i = 2 ∨ i = 3 := by omega
        rcases this with rfl | rfl | rfl | rfl <;> simp [dayL, dayT] <;> (repeat' split) <;> simp
      have HSN := Lib.hid hsn
      have HLEN := Lib.hid hlen
      clear hdd hsn hlen
      by_cases hd0 : d = 0
      · have ht : (d == 0) = true := by rw [hd0]; rfl
        have HD0 := Lib.hid hd0
        clear hd0
        go_wp2_with go_in
        go_roundg (gk - 1)
        case measure => omega
        case rel =>
          refine ⟨i + 1, vl, rfl, by omega, HL.out, ?_, HKR.out⟩
          rw [HSN.out, dayT, if_pos HD0.out, List.append_nil]
          exact HO.out
      · have ht : (d == 0) = false := by rw [beq_eq_false_iff_ne]; exact hd0
        have HD0 := Lib.hid hd0
        clear hd0
        go_wp2_with (first
          | (go_at_call 24; refine (t_add _ w.heap.size W1.heap.size vl _ _ HL.out HO.out HKR.out.size (by have := HLEN.out; omega) _ _ _).mono ?_; rintro e w2 ⟨rfl, v2, hl2, ho2, hk2⟩; have HL2 := Lib.hid hl2; have HO2 := Lib.hid ho2; have HK2 := Lib.hid (HKR.out.trans hk2); clear hl2 ho2 hk2)
          | go_in)
        go_roundg (gk - 1)
        case measure => omega
        case rel =>
          refine ⟨i + 1, v2, rfl, by omega, HL2.out, ?_, HK2.out⟩
          rw [HSN.out, dayT, if_neg HD0.out, List.length_append, cellsL, List.flatMap_append]
          simpa [cellsL] using HO2.out
    · have hi4 : i = 4 := by omega
      subst hi4
      obtain ⟨LD, hLD⟩ : ∃ LD, LD = dayL 0 [d0, d1, d2, d3] := ⟨_, rfl⟩
      rw [show [d0, d1, d2, d3].take 4 = [d0, d1, d2, d3] from rfl, ← hLD] at HO
      have hLDn : LD.length ≤ 4 := by
        rw [hLD]
        simp [dayL, dayT] <;> (repeat' split) <;> simp
      have HLD := Lib.hid hLD
      have HLDN := Lib.hid hLDn
      clear hLD hLDn
      have hkW : Keep (fun k => k = w.heap.size ∨ W1.heap.size ≤ k) W wr := (HK1.out.mono (fun _ _ h => absurd h id)).trans HKR.out
      have hnM : ∀ k, k < w.heap.size → ¬ (k = w.heap.size ∨ W1.heap.size ≤ k) := fun k hk h => by have := HZ1.out; omega
      have hbr := HB.out.keep hkW (hnM c hcl)
      have hmr : wr.heap[mp]? = some (.map #[] 0) := (hkW.block mp (by have := (Array.getElem?_eq_some_iff.1 HM.out).1; exact this) (hnM mp HMP.out)).trans HM.out
      have e6 : wr.cell? ⟨c, 6, none⟩ = some (.map (some mp)) := (hbr.cell 6).trans rfl
      have HBR := Lib.hid hbr
      have HMR := Lib.hid hmr
      have HKW := Lib.hid hkW
      have HNM := Lib.hid hnM
      clear hbr hkW hnM
      go_wp2
      rw [run_range_map (P := Tryz.prog) wr 65 9 37 mp #[] 0 (by kernel_rfl) HMR.out]
      have hnx : (Instr.next (.pointer (some ⟨wr.heap.size, 0, none⟩)) false 0).run Tryz.prog (wr.alloc (.mapIter (some mp) 0 #[] 0)) = .ok (.tuple #[.bool false]) (wr.alloc (.mapIter (some mp) 0 #[] 0)) := by
        rcases run_next_map (P := Tryz.prog) wr 0 mp 0 0 #[] #[] 0 HMR.out (by simp) (Nat.le_refl _) with ⟨_, h⟩ | ⟨e, he, _⟩
        · exact h
        · exact absurd he (by simp [leftOf])
      have HNX := Lib.hid hnx
      clear hnx
      have hki := HKR.out.alloc (.mapIter (some mp) 0 #[] 0)
      have hbi := HBR.out.alloc (.mapIter (some mp) 0 #[] 0)
      have hli := HL.out.alloc (.mapIter (some mp) 0 #[] 0)
      have hoi := HO.out.alloc (.mapIter (some mp) 0 #[] 0)
      have HKI := Lib.hid hki
      have HBI := Lib.hid hbi
      have HLI := Lib.hid hli
      have HOI := Lib.hid hoi
      clear hki hbi hli hoi
      go_wp2
      go_loopg [7] 1 (fun k v w2 => k = 1 ∧ v = .slice none 0 0 ∧ w2 = wr.alloc (.mapIter (some mp) 0 #[] 0))
      case atStart => exact ⟨rfl, rfl, rfl⟩
      case round =>
        obtain ⟨rfl, rfl, rfl⟩ := hrel
        go_wp2
        rw [HNX.out]
        go_wp2_with (go_at_call 27; refine (t_sortNil _).mono ?_; rintro e w1 ⟨rfl, rfl⟩)
        go_loopg [108] 1 (fun k v w2 => k = 1 ∧ v = .int .i64 0 ∧ w2 = wr.alloc (.mapIter (some mp) 0 #[] 0))
        case atStart => exact ⟨rfl, rfl, rfl⟩
        case round =>
          obtain ⟨rfl, rfl, rfl⟩ := hrel
          clear HNX HMR
          generalize wr.alloc (.mapIter (some mp) 0 #[] 0) = W2 at HKI HBI HLI HOI ⊢
          have k7 : ∀ w', Keep (fun _ => False) W2 w' → w'.cell? ⟨c, 7, none⟩ = some (.slice none 0 0) := fun w' hk => ((HBI.out.keep hk id).cell 7).trans rfl
          have k8 : ∀ w', Keep (fun _ => False) W2 w' → w'.cell? ⟨c, 8, none⟩ = some (.slice none 0 0) := fun w' hk => ((HBI.out.keep hk id).cell 8).trans rfl
          have k9 : ∀ w', Keep (fun _ => False) W2 w' → w'.cell? ⟨c, 9, none⟩ = some (.slice none 0 0) := fun w' hk => ((HBI.out.keep hk id).cell 9).trans rfl
          have kx : ∀ w', Keep (fun _ => False) W2 w' → w'.cell? ⟨c, 10, none⟩ = some (.slice none 0 0) := fun w' hk => ((HBI.out.keep hk id).cell 10).trans rfl
          go_wp2
          refine Mix.wp_region_mixc [(0, 0), (1, 0), (2, 0), (3, 0), (4, 0), (5, 0), (6, 0), (7, 0), (8, 0), (9, 0), (10, 0), (11, 0), (12, 0), (13, 0), (14, 0), (15, 0), (18, 0), (16, 1), (17, 0)] (Keep (fun _ => False) W2) (by kernel_rfl) (by kernel_rfl) (fun _ _ _ _ h => h) ?_ ?_
          focus exact (Keep.refl (fun _ => False) W2).drew
          repeat (first | (refine Mix.mix_pure rfl rfl (fun K hK => ?_); go_big_quiet_op; (first | (refine hK _ ?_; clear hK K) | (refine ⟨_, fun _ _ => rfl, ?_⟩; refine hK _ ?_; clear hK K) | (refine ⟨_, fun w_ h_ => (by simp [go_sem, k7 w_ h_, k8 w_ h_, k9 w_ h_, kx w_ h_]; rfl), ?_⟩; refine hK _ ?_; clear hK K))) | (refine Mix.mix_free rfl rfl (fun K hK => ?_); go_big_quiet_op; (first | (refine hK _ ?_; clear hK K) | (refine ⟨_, fun _ _ => rfl, ?_⟩; refine hK _ ?_; clear hK K) | (refine ⟨_, fun w_ h_ => (by simp [go_sem, k7 w_ h_, k8 w_ h_, k9 w_ h_, kx w_ h_]; rfl), ?_⟩; refine hK _ ?_; clear hK K))) | (refine Mix.mix_pure_want rfl rfl (fun K hK => ?_); go_big_quiet_op; (first | (refine hK _ ?_; clear hK K) | (refine ⟨_, fun _ _ => rfl, ?_⟩; refine hK _ ?_; clear hK K) | (refine ⟨_, fun w_ h_ => (by simp [go_sem, k7 w_ h_, k8 w_ h_, k9 w_ h_, kx w_ h_]; rfl), ?_⟩; refine hK _ ?_; clear hK K))) | (refine Mix.mix_free_want rfl rfl (fun K hK => ?_); go_big_quiet_op; (first | (refine hK _ ?_; clear hK K) | (refine ⟨_, fun _ _ => rfl, ?_⟩; refine hK _ ?_; clear hK K) | (refine ⟨_, fun w_ h_ => (by simp [go_sem, k7 w_ h_, k8 w_ h_, k9 w_ h_, kx w_ h_]; rfl), ?_⟩; refine hK _ ?_; clear hK K))) | (refine Mix.mix_skip rfl rfl (by decide) ?_; (try simp only [Act.put, List.setIfInBounds_toArray, List.set_cons_zero, List.set_cons_succ])))
          refine Mix.mix_keep rfl rfl (fun K hK => ?_)
          go_wp2
          refine ⟨((Keep.refl (fun _ => False) W2).alloc _).drew, ?_⟩
          repeat (first | (refine Mix.mix_pure rfl rfl (fun K hK => ?_); go_big_quiet_op; (first | (refine hK _ ?_; clear hK K) | (refine ⟨_, fun _ _ => rfl, ?_⟩; refine hK _ ?_; clear hK K) | (refine ⟨_, fun w_ h_ => (by simp [go_sem, k7 w_ h_, k8 w_ h_, k9 w_ h_, kx w_ h_]; rfl), ?_⟩; refine hK _ ?_; clear hK K))) | (refine Mix.mix_free rfl rfl (fun K hK => ?_); go_big_quiet_op; (first | (refine hK _ ?_; clear hK K) | (refine ⟨_, fun _ _ => rfl, ?_⟩; refine hK _ ?_; clear hK K) | (refine ⟨_, fun w_ h_ => (by simp [go_sem, k7 w_ h_, k8 w_ h_, k9 w_ h_, kx w_ h_]; rfl), ?_⟩; refine hK _ ?_; clear hK K))) | (refine Mix.mix_pure_want rfl rfl (fun K hK => ?_); go_big_quiet_op; (first | (refine hK _ ?_; clear hK K) | (refine ⟨_, fun _ _ => rfl, ?_⟩; refine hK _ ?_; clear hK K) | (refine ⟨_, fun w_ h_ => (by simp [go_sem, k7 w_ h_, k8 w_ h_, k9 w_ h_, kx w_ h_]; rfl), ?_⟩; refine hK _ ?_; clear hK K))) | (refine Mix.mix_free_want rfl rfl (fun K hK => ?_); go_big_quiet_op; (first | (refine hK _ ?_; clear hK K) | (refine ⟨_, fun _ _ => rfl, ?_⟩; refine hK _ ?_; clear hK K) | (refine ⟨_, fun w_ h_ => (by simp [go_sem, k7 w_ h_, k8 w_ h_, k9 w_ h_, kx w_ h_]; rfl), ?_⟩; refine hK _ ?_; clear hK K))) | (refine Mix.mix_skip rfl rfl (by decide) ?_; (try simp only [Act.put, List.setIfInBounds_toArray, List.set_cons_zero, List.set_cons_succ])))
          refine Mix.mix_nil ?_
          have hm3 : Keep (fun k => k = w.heap.size ∨ W1.heap.size ≤ k) W2 (W2.alloc (.cells #[.slice none 0 0, .slice none 0 0, .slice none 0 0, .slice none 0 0] 37)).drew := ((Keep.refl _ W2).alloc _).drew
          have hb3 := (HBI.out.alloc (.cells #[.slice none 0 0, .slice none 0 0, .slice none 0 0, .slice none 0 0] 37)).drew
          have hl3 := (HLI.out.alloc (.cells #[.slice none 0 0, .slice none 0 0, .slice none 0 0, .slice none 0 0] 37)).drew
          have ho3 := (HOI.out.alloc (.cells #[.slice none 0 0, .slice none 0 0, .slice none 0 0, .slice none 0 0] 37)).drew
          have hg3 := (Blk.new W2 #[.slice none 0 0, .slice none 0 0, .slice none 0 0, .slice none 0 0] 37).drew
          have HK3 := Lib.hid (HKI.out.trans hm3)
          have HB3 := Lib.hid hb3
          have HL3 := Lib.hid hl3
          have HO3 := Lib.hid ho3
          have HG3 := Lib.hid hg3
          clear hm3 hb3 hl3 ho3 hg3 k7 k8 k9 kx HKI HBI HLI HOI
          generalize (W2.alloc (.cells #[.slice none 0 0, .slice none 0 0, .slice none 0 0, .slice none 0 0] 37)).drew = W3 at HK3 HB3 HL3 HO3 HG3 ⊢
          go_wp2
          go_loopg [148] 4 (fun k v w2 => ∃ i, v = .int .i64 (i : Nat) ∧ i + k = 4 ∧ W3 = w2)
          case atStart => exact ⟨0, rfl, rfl, rfl⟩
          case round =>
            obtain ⟨i, rfl, hik, rfl⟩ := hrel
            by_cases hi : i < 4
            · have hcell : W3.cell? ⟨W2.heap.size, i, none⟩ = some (.slice none 0 0) := by
                rw [HG3.out.cell i]
                have : i = 0 ∨ i = 1 ∨ i = 2 ∨ i = 3 := by omega
                rcases this with rfl | rfl | rfl | rfl <;> rfl
              go_wp2
              go_loopg [155] 1 (fun k v w2 => k = 1 ∧ v = .int .i64 0 ∧ W3 = w2)
              case atStart => exact ⟨rfl, rfl, rfl⟩
              case round =>
                obtain ⟨rfl, rfl, rfl⟩ := hrel
                go_wp2
                go_roundg (gk - 1)
                case measure => omega
                case rel => exact ⟨i + 1, rfl, by omega, rfl⟩
            · have hi4 : i = 4 := by omega
              subst hi4
              have e11 : W3.cell? ⟨c, 11, none⟩ = some (.int .u32 lg) := (HB3.out.cell 11).trans rfl
              have e12 : W3.cell? ⟨c, 12, none⟩ = some (.int .u32 sm) := (HB3.out.cell 12).trans rfl
              rcases Nat.eq_zero_or_pos lg with h1 | h1
              · subst h1
                rcases Nat.eq_zero_or_pos sm with h2 | h2
                · subst h2
                  have e13 : W3.cell? ⟨c, 13, none⟩ = some (.slice none 0 0) := (HB3.out.cell 13).trans rfl
                  have e14 : W3.cell? ⟨c, 14, none⟩ = some (.slice none 0 0) := (HB3.out.cell 14).trans rfl
                  have hLL : LD = dayL 0 [d0, d1, d2, d3] ++ numT 13 0 ++ numT 14 0 := by rw [HLD.out]; simp [numT]
                  have hpos : 0 < (LD).length := by rw [hLL]; exact HNE.out
                  have hsmall : (LD).length < 1000 := by have := HLDN.out; first | omega | (simp only [List.length_append, List.length_cons, List.length_nil]; omega)
                  have ho := HO3.out
                  have hlc := cellsL_length (LD)
                  obtain ⟨n, hn⟩ : ∃ n, n = (LD).length := ⟨_, rfl⟩
                  have HN := Lib.hid hn
                  have HLL := Lib.hid hLL
                  rw [← hn] at hpos hsmall hlc
                  obtain ⟨g, cap, hv, hgb, hglt, hcap, hcells⟩ := ownS_slice (n := n) (by first | exact hn ▸ ho | (simp only [List.length_append] at hn ho; exact hn ▸ ho)) hpos
                  have HC := Lib.hid hcells
                  have HNN := Lib.hid (And.intro hpos (And.intro hsmall hlc))
                  have HGB := Lib.hid (And.intro hgb (And.intro hglt hcap))
                  clear hcells hpos hsmall hLL hgb hglt hcap ho hn hlc
                  go_wp2
                  go_loopg [196] 1 (fun k v w2 => k = 1 ∧ v = .int .i64 0 ∧ W3 = w2)
                  case atStart => exact ⟨rfl, rfl, rfl⟩
                  case round =>
                    obtain ⟨rfl, rfl, rfl⟩ := hrel
                    go_wp2
                    go_loopg [217] 1 (fun k v w2 => k = 1 ∧ v = .int .i64 0 ∧ W3 = w2)
                    case atStart => exact ⟨rfl, rfl, rfl⟩
                    case round =>
                      obtain ⟨rfl, rfl, rfl⟩ := hrel
                      have l0 : W3.cell? ⟨w.heap.size, 0, none⟩ = some (.slice (some ⟨g, 0, none⟩) n cap) := ((HL3.out.cell 0).trans rfl).trans (congrArg some hv)
                      have l1 : ∀ o, (W3.alloc o).cell? ⟨w.heap.size, 0, none⟩ = some (.slice (some ⟨g, 0, none⟩) n cap) := fun o => (((HL3.out.alloc o).cell 0).trans rfl).trans (congrArg some hv)
                      have hw1 : wrap64 ((n : Int) + 1) = (n : Int) + 1 := by unfold wrap64; have := HNN.out; omega
                      have HW := Lib.hid (show w.heap.size ≤ W3.heap.size from Nat.le_of_lt HL3.out.lt)
                      clear hv
                      go_wp2_with (at_builtin; refine wp_appS Tryz.elemC (.tmp 246) (.tmp 247) rfl rfl w.heap.size (.slice (some ⟨W3.heap.size, 0, none⟩) 1 1) 1 _ _ (critC 1 0 0 ((n : Int) + 1)) rfl (ownS_new W3 w.heap.size 28 (critC 1 0 0 ((n : Int) + 1)) HW.out rfl) g (cellsL (LD)) rfl HNN.out.2.2 (fun i hi => by rw [World.cell?_alloc_lt _ _ ⟨g, i, none⟩ HGB.out.2.1]; exact HC.out i (by rw [← HNN.out.2.2]; exact hi)) (cellsL_one _) (by have := HNN.out; omega) (Nat.le_trans HW.out (by simp)) ?_; intro v9 w9 ho9 hk9 _; have HO9 := Lib.hid ho9; have HK9 := Lib.hid hk9; clear ho9 hk9)
                      refine bodyPost_ret (v := v9) (by simp [results, Tryz.results17, go_sem]) rfl ?_
                      refine ⟨v9, LD, HLL.out, rfl, by rw [← HN.out, Nat.add_comm]; exact HO9.out, ((((HK.out.trans HK1.out).trans' HK3.out (fun i hi h => by have := HZ1.out; omega)).alloc _).trans' HK9.out (fun i hi h => by omega))⟩
                · have hgt : decide ((sm : Int) > 0) = true := decide_eq_true (by omega)
                  go_wp2_with (first
                    | (go_at_call 24; refine (t_add _ w.heap.size W1.heap.size vl _ _ HL3.out HO3.out HK3.out.size (by have := HLDN.out; first | omega | (simp only [List.length_append, List.length_cons, List.length_nil]; omega)) _ _ _).mono ?_; rintro e w5 ⟨rfl, v5, hl5, ho5, hk5⟩; have e13 : w5.cell? ⟨c, 13, none⟩ = some (.slice none 0 0) := ((HB3.out.keep hk5 (HNM.out c hcl)).cell 13).trans rfl; have e14 : w5.cell? ⟨c, 14, none⟩ = some (.slice none 0 0) := ((HB3.out.keep hk5 (HNM.out c hcl)).cell 14).trans rfl; have HP5 := Lib.hid (show w5.ownsRow W1.heap.size 28 7 v5 (LD ++ [(14, sm, 0)]).length (cellsL (LD ++ [(14, sm, 0)])) from by rw [cellsL_snoc, List.length_append]; exact ho5); have HL5 := Lib.hid hl5; have HK5 := Lib.hid (HK3.out.trans hk5); have HB5 := Lib.hid (HB3.out.keep hk5 (HNM.out c hcl)); clear hl5 ho5 hk5)
                    | go_in)
                  have hLL : LD ++ [(14, sm, 0)] = dayL 0 [d0, d1, d2, d3] ++ numT 13 0 ++ numT 14 sm := by rw [HLD.out, numT, numT, if_pos rfl, if_neg (by omega), List.append_nil]
                  have hpos : 0 < (LD ++ [(14, sm, 0)]).length := by rw [hLL]; exact HNE.out
                  have hsmall : (LD ++ [(14, sm, 0)]).length < 1000 := by have := HLDN.out; first | omega | (simp only [List.length_append, List.length_cons, List.length_nil]; omega)
                  have ho := HP5.out
                  have hlc := cellsL_length (LD ++ [(14, sm, 0)])
                  obtain ⟨n, hn⟩ : ∃ n, n = (LD ++ [(14, sm, 0)]).length := ⟨_, rfl⟩
                  have HN := Lib.hid hn
                  have HLL := Lib.hid hLL
                  rw [← hn] at hpos hsmall hlc
                  obtain ⟨g, cap, hv, hgb, hglt, hcap, hcells⟩ := ownS_slice (n := n) (by first | exact hn ▸ ho | (simp only [List.length_append] at hn ho; exact hn ▸ ho)) hpos
                  have HC := Lib.hid hcells
                  have HNN := Lib.hid (And.intro hpos (And.intro hsmall hlc))
                  have HGB := Lib.hid (And.intro hgb (And.intro hglt hcap))
                  clear hcells hpos hsmall hLL hgb hglt hcap ho hn hlc
                  go_wp2
                  go_loopg [196] 1 (fun k v w2 => k = 1 ∧ v = .int .i64 0 ∧ w5 = w2)
                  case atStart => exact ⟨rfl, rfl, rfl⟩
                  case round =>
                    obtain ⟨rfl, rfl, rfl⟩ := hrel
                    go_wp2
                    go_loopg [217] 1 (fun k v w2 => k = 1 ∧ v = .int .i64 0 ∧ w5 = w2)
                    case atStart => exact ⟨rfl, rfl, rfl⟩
                    case round =>
                      obtain ⟨rfl, rfl, rfl⟩ := hrel
                      have l0 : w5.cell? ⟨w.heap.size, 0, none⟩ = some (.slice (some ⟨g, 0, none⟩) n cap) := ((HL5.out.cell 0).trans rfl).trans (congrArg some hv)
                      have l1 : ∀ o, (w5.alloc o).cell? ⟨w.heap.size, 0, none⟩ = some (.slice (some ⟨g, 0, none⟩) n cap) := fun o => (((HL5.out.alloc o).cell 0).trans rfl).trans (congrArg some hv)
                      have hw1 : wrap64 ((n : Int) + 1) = (n : Int) + 1 := by unfold wrap64; have := HNN.out; omega
                      have HW := Lib.hid (show w.heap.size ≤ w5.heap.size from Nat.le_of_lt HL5.out.lt)
                      clear hv
                      go_wp2_with (at_builtin; refine wp_appS Tryz.elemC (.tmp 246) (.tmp 247) rfl rfl w.heap.size (.slice (some ⟨w5.heap.size, 0, none⟩) 1 1) 1 _ _ (critC 1 0 0 ((n : Int) + 1)) rfl (ownS_new w5 w.heap.size 28 (critC 1 0 0 ((n : Int) + 1)) HW.out rfl) g (cellsL (LD ++ [(14, sm, 0)])) rfl HNN.out.2.2 (fun i hi => by rw [World.cell?_alloc_lt _ _ ⟨g, i, none⟩ HGB.out.2.1]; exact HC.out i (by rw [← HNN.out.2.2]; exact hi)) (cellsL_one _) (by have := HNN.out; omega) (Nat.le_trans HW.out (by simp)) ?_; intro v9 w9 ho9 hk9 _; have HO9 := Lib.hid ho9; have HK9 := Lib.hid hk9; clear ho9 hk9)
                      refine bodyPost_ret (v := v9) (by simp [results, Tryz.results17, go_sem]) rfl ?_
                      refine ⟨v9, LD ++ [(14, sm, 0)], HLL.out, rfl, by rw [← HN.out, Nat.add_comm]; exact HO9.out, ((((HK.out.trans HK1.out).trans' HK5.out (fun i hi h => by have := HZ1.out; omega)).alloc _).trans' HK9.out (fun i hi h => by omega))⟩
              · have hgt : decide ((lg : Int) > 0) = true := decide_eq_true (by omega)
                clear e12
                rcases Nat.eq_zero_or_pos sm with h2 | h2
                · subst h2
                  go_wp2_with (first
                    | (go_at_call 24; refine (t_add _ w.heap.size W1.heap.size vl _ _ HL3.out HO3.out HK3.out.size (by have := HLDN.out; first | omega | (simp only [List.length_append, List.length_cons, List.length_nil]; omega)) _ _ _).mono ?_; rintro e w4 ⟨rfl, v4, hl4, ho4, hk4⟩; have e12 : w4.cell? ⟨c, 12, none⟩ = some (.int .u32 0) := ((HB3.out.keep hk4 (HNM.out c hcl)).cell 12).trans rfl; have e13 : w4.cell? ⟨c, 13, none⟩ = some (.slice none 0 0) := ((HB3.out.keep hk4 (HNM.out c hcl)).cell 13).trans rfl; have e14 : w4.cell? ⟨c, 14, none⟩ = some (.slice none 0 0) := ((HB3.out.keep hk4 (HNM.out c hcl)).cell 14).trans rfl; have HP4 := Lib.hid (show w4.ownsRow W1.heap.size 28 7 v4 (LD ++ [(13, lg, 0)]).length (cellsL (LD ++ [(13, lg, 0)])) from by rw [cellsL_snoc, List.length_append]; exact ho4); have HL4 := Lib.hid hl4; have HK4 := Lib.hid (HK3.out.trans hk4); have HB4 := Lib.hid (HB3.out.keep hk4 (HNM.out c hcl)); clear hl4 ho4 hk4)
                    | go_in)
                  have hLL : LD ++ [(13, lg, 0)] = dayL 0 [d0, d1, d2, d3] ++ numT 13 lg ++ numT 14 0 := by rw [HLD.out, numT, numT, if_pos rfl, if_neg (by omega), List.append_nil]
                  have hpos : 0 < (LD ++ [(13, lg, 0)]).length := by rw [hLL]; exact HNE.out
                  have hsmall : (LD ++ [(13, lg, 0)]).length < 1000 := by have := HLDN.out; first | omega | (simp only [List.length_append, List.length_cons, List.length_nil]; omega)
                  have ho := HP4.out
                  have hlc := cellsL_length (LD ++ [(13, lg, 0)])
                  obtain ⟨n, hn⟩ : ∃ n, n = (LD ++ [(13, lg, 0)]).length := ⟨_, rfl⟩
                  have HN := Lib.hid hn
                  have HLL := Lib.hid hLL
                  rw [← hn] at hpos hsmall hlc
                  obtain ⟨g, cap, hv, hgb, hglt, hcap, hcells⟩ := ownS_slice (n := n) (by first | exact hn ▸ ho | (simp only [List.length_append] at hn ho; exact hn ▸ ho)) hpos
                  have HC := Lib.hid hcells
                  have HNN := Lib.hid (And.intro hpos (And.intro hsmall hlc))
                  have HGB := Lib.hid (And.intro hgb (And.intro hglt hcap))
                  clear hcells hpos hsmall hLL hgb hglt hcap ho hn hlc
                  go_wp2
                  go_loopg [196] 1 (fun k v w2 => k = 1 ∧ v = .int .i64 0 ∧ w4 = w2)
                  case atStart => exact ⟨rfl, rfl, rfl⟩
                  case round =>
                    obtain ⟨rfl, rfl, rfl⟩ := hrel
                    go_wp2
                    go_loopg [217] 1 (fun k v w2 => k = 1 ∧ v = .int .i64 0 ∧ w4 = w2)
                    case atStart => exact ⟨rfl, rfl, rfl⟩
                    case round =>
                      obtain ⟨rfl, rfl, rfl⟩ := hrel
                      have l0 : w4.cell? ⟨w.heap.size, 0, none⟩ = some (.slice (some ⟨g, 0, none⟩) n cap) := ((HL4.out.cell 0).trans rfl).trans (congrArg some hv)
                      have l1 : ∀ o, (w4.alloc o).cell? ⟨w.heap.size, 0, none⟩ = some (.slice (some ⟨g, 0, none⟩) n cap) := fun o => (((HL4.out.alloc o).cell 0).trans rfl).trans (congrArg some hv)
                      have hw1 : wrap64 ((n : Int) + 1) = (n : Int) + 1 := by unfold wrap64; have := HNN.out; omega
                      have HW := Lib.hid (show w.heap.size ≤ w4.heap.size from Nat.le_of_lt HL4.out.lt)
                      clear hv
                      go_wp2_with (at_builtin; refine wp_appS Tryz.elemC (.tmp 246) (.tmp 247) rfl rfl w.heap.size (.slice (some ⟨w4.heap.size, 0, none⟩) 1 1) 1 _ _ (critC 1 0 0 ((n : Int) + 1)) rfl (ownS_new w4 w.heap.size 28 (critC 1 0 0 ((n : Int) + 1)) HW.out rfl) g (cellsL (LD ++ [(13, lg, 0)])) rfl HNN.out.2.2 (fun i hi => by rw [World.cell?_alloc_lt _ _ ⟨g, i, none⟩ HGB.out.2.1]; exact HC.out i (by rw [← HNN.out.2.2]; exact hi)) (cellsL_one _) (by have := HNN.out; omega) (Nat.le_trans HW.out (by simp)) ?_; intro v9 w9 ho9 hk9 _; have HO9 := Lib.hid ho9; have HK9 := Lib.hid hk9; clear ho9 hk9)
                      refine bodyPost_ret (v := v9) (by simp [results, Tryz.results17, go_sem]) rfl ?_
                      refine ⟨v9, LD ++ [(13, lg, 0)], HLL.out, rfl, by rw [← HN.out, Nat.add_comm]; exact HO9.out, ((((HK.out.trans HK1.out).trans' HK4.out (fun i hi h => by have := HZ1.out; omega)).alloc _).trans' HK9.out (fun i hi h => by omega))⟩
                · have hgt2 : decide ((sm : Int) > 0) = true := decide_eq_true (by omega)
                  go_wp2_with (first
                    | (go_at_call 24; refine (t_add _ w.heap.size W1.heap.size vl _ _ HL3.out HO3.out HK3.out.size (by have := HLDN.out; first | omega | (simp only [List.length_append, List.length_cons, List.length_nil]; omega)) _ _ _).mono ?_; rintro e w4 ⟨rfl, v4, hl4, ho4, hk4⟩; have e12 : w4.cell? ⟨c, 12, none⟩ = some (.int .u32 sm) := ((HB3.out.keep hk4 (HNM.out c hcl)).cell 12).trans rfl; have e13 : w4.cell? ⟨c, 13, none⟩ = some (.slice none 0 0) := ((HB3.out.keep hk4 (HNM.out c hcl)).cell 13).trans rfl; have e14 : w4.cell? ⟨c, 14, none⟩ = some (.slice none 0 0) := ((HB3.out.keep hk4 (HNM.out c hcl)).cell 14).trans rfl; have HP4 := Lib.hid (show w4.ownsRow W1.heap.size 28 7 v4 (LD ++ [(13, lg, 0)]).length (cellsL (LD ++ [(13, lg, 0)])) from by rw [cellsL_snoc, List.length_append]; exact ho4); have HL4 := Lib.hid hl4; have HK4 := Lib.hid (HK3.out.trans hk4); have HB4 := Lib.hid (HB3.out.keep hk4 (HNM.out c hcl)); clear hl4 ho4 hk4)
                    | (go_at_call 24; refine (t_add _ w.heap.size W1.heap.size v4 _ _ HL4.out HP4.out HK4.out.size (by have := HLDN.out; first | omega | (simp only [List.length_append, List.length_cons, List.length_nil]; omega)) _ _ _).mono ?_; rintro e w5 ⟨rfl, v5, hl5, ho5, hk5⟩; have e13 : w5.cell? ⟨c, 13, none⟩ = some (.slice none 0 0) := ((HB4.out.keep hk5 (HNM.out c hcl)).cell 13).trans rfl; have e14 : w5.cell? ⟨c, 14, none⟩ = some (.slice none 0 0) := ((HB4.out.keep hk5 (HNM.out c hcl)).cell 14).trans rfl; have HP5 := Lib.hid (show w5.ownsRow W1.heap.size 28 7 v5 (LD ++ [(13, lg, 0)] ++ [(14, sm, 0)]).length (cellsL (LD ++ [(13, lg, 0)] ++ [(14, sm, 0)])) from by rw [cellsL_snoc, List.length_append]; exact ho5); have HL5 := Lib.hid hl5; have HK5 := Lib.hid (HK4.out.trans hk5); have HB5 := Lib.hid (HB4.out.keep hk5 (HNM.out c hcl)); clear hl5 ho5 hk5)
                    | go_in)
                  have hLL : LD ++ [(13, lg, 0)] ++ [(14, sm, 0)] = dayL 0 [d0, d1, d2, d3] ++ numT 13 lg ++ numT 14 sm := by rw [HLD.out, numT, numT, if_neg (by omega), if_neg (by omega)]
                  have hpos : 0 < (LD ++ [(13, lg, 0)] ++ [(14, sm, 0)]).length := by rw [hLL]; exact HNE.out
                  have hsmall : (LD ++ [(13, lg, 0)] ++ [(14, sm, 0)]).length < 1000 := by have := HLDN.out; first | omega | (simp only [List.length_append, List.length_cons, List.length_nil]; omega)
                  have ho := HP5.out
                  have hlc := cellsL_length (LD ++ [(13, lg, 0)] ++ [(14, sm, 0)])
                  obtain ⟨n, hn⟩ : ∃ n, n = (LD ++ [(13, lg, 0)] ++ [(14, sm, 0)]).length := ⟨_, rfl⟩
                  have HN := Lib.hid hn
                  have HLL := Lib.hid hLL
                  rw [← hn] at hpos hsmall hlc
                  obtain ⟨g, cap, hv, hgb, hglt, hcap, hcells⟩ := ownS_slice (n := n) (by first | exact hn ▸ ho | (simp only [List.length_append] at hn ho; exact hn ▸ ho)) hpos
                  have HC := Lib.hid hcells
                  have HNN := Lib.hid (And.intro hpos (And.intro hsmall hlc))
                  have HGB := Lib.hid (And.intro hgb (And.intro hglt hcap))
                  clear hcells hpos hsmall hLL hgb hglt hcap ho hn hlc
                  go_wp2
                  go_loopg [196] 1 (fun k v w2 => k = 1 ∧ v = .int .i64 0 ∧ w5 = w2)
                  case atStart => exact ⟨rfl, rfl, rfl⟩
                  case round =>
                    obtain ⟨rfl, rfl, rfl⟩ := hrel
                    go_wp2
                    go_loopg [217] 1 (fun k v w2 => k = 1 ∧ v = .int .i64 0 ∧ w5 = w2)
                    case atStart => exact ⟨rfl, rfl, rfl⟩
                    case round =>
                      obtain ⟨rfl, rfl, rfl⟩ := hrel
                      have l0 : w5.cell? ⟨w.heap.size, 0, none⟩ = some (.slice (some ⟨g, 0, none⟩) n cap) := ((HL5.out.cell 0).trans rfl).trans (congrArg some hv)
                      have l1 : ∀ o, (w5.alloc o).cell? ⟨w.heap.size, 0, none⟩ = some (.slice (some ⟨g, 0, none⟩) n cap) := fun o => (((HL5.out.alloc o).cell 0).trans rfl).trans (congrArg some hv)
                      have hw1 : wrap64 ((n : Int) + 1) = (n : Int) + 1 := by unfold wrap64; have := HNN.out; omega
                      have HW := Lib.hid (show w.heap.size ≤ w5.heap.size from Nat.le_of_lt HL5.out.lt)
                      clear hv
                      go_wp2_with (at_builtin; refine wp_appS Tryz.elemC (.tmp 246) (.tmp 247) rfl rfl w.heap.size (.slice (some ⟨w5.heap.size, 0, none⟩) 1 1) 1 _ _ (critC 1 0 0 ((n : Int) + 1)) rfl (ownS_new w5 w.heap.size 28 (critC 1 0 0 ((n : Int) + 1)) HW.out rfl) g (cellsL (LD ++ [(13, lg, 0)] ++ [(14, sm, 0)])) rfl HNN.out.2.2 (fun i hi => by rw [World.cell?_alloc_lt _ _ ⟨g, i, none⟩ HGB.out.2.1]; exact HC.out i (by rw [← HNN.out.2.2]; exact hi)) (cellsL_one _) (by have := HNN.out; omega) (Nat.le_trans HW.out (by simp)) ?_; intro v9 w9 ho9 hk9 _; have HO9 := Lib.hid ho9; have HK9 := Lib.hid hk9; clear ho9 hk9)
                      refine bodyPost_ret (v := v9) (by simp [results, Tryz.results17, go_sem]) rfl ?_
                      refine ⟨v9, LD ++ [(13, lg, 0)] ++ [(14, sm, 0)], HLL.out, rfl, by rw [← HN.out, Nat.add_comm]; exact HO9.out, ((((HK.out.trans HK1.out).trans' HK5.out (fun i hi h => by have := HZ1.out; omega)).alloc _).trans' HK9.out (fun i hi h => by omega))⟩
end Go.Proofs.YtlnbikcfjnloaaaGreatDoor
