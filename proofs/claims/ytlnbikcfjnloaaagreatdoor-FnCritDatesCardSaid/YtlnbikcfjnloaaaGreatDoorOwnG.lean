/- The criteria of days and the walk of FnCritDates, for the proof of FnCritDates. -/
import Derived.Test.YtlnbikcfjnloaaaGreatDoorOwnF
import Derived.Test.YtlnbikcfjnloaaaGreatDoorOwnD
import Derived.Test.YtlnbikcfjnloaaaGreatDoorOwnE
namespace Go.Proofs.YtlnbikcfjnloaaaGreatDoor
set_option linter.unusedVariables false
set_option linter.unusedSimpArgs false
open Go.RowKit

set_option maxRecDepth 100000 in
theorem t_maybe (w : World) (V : List UInt8) : Calls Tryz.prog 43 #[strI V] w fun e w' => e = .returned (.string (bs V)) ∧ Keep (fun _ => False) w w' := by
  have h2 : ∀ (v : Value) (W : World), (Instr.typeAssert (.iface 9 v) 20 9 true).run Tryz.prog W = .ok (.tuple #[v, .bool true]) W := fun v W => by rfl
  unfold strI
  go_enter Tryz.func43, Tryz.ntmps43
  go_wp2
  go_ret
  exact ⟨rfl, Keep.refl _ _⟩
theorem t_isZero (w : World) (x : Int) : Calls Tryz.prog 26 #[.int .i64 x] w fun e w' => e = .returned (.bool (x == 0)) ∧ w = w' := by
  go_enter Tryz.func26, Tryz.ntmps26
  go_wp2
  go_ret
  exact ⟨rfl, rfl⟩
theorem t_dayBefore (w : World) (x y : Int) : Calls Tryz.prog 44 #[.int .i64 x, .int .i64 y] w fun e w' => e = .returned (.bool (decide (x < y))) ∧ w = w' := by
  go_enter Tryz.func44, Tryz.ntmps44
  go_wp2
  go_ret
  exact ⟨rfl, rfl⟩
theorem t_dayAfter (w : World) (x y : Int) : Calls Tryz.prog 46 #[.int .i64 x, .int .i64 y] w fun e w' => e = .returned (.bool (decide (y < x))) ∧ w = w' := by
  go_enter Tryz.func46, Tryz.ntmps46
  go_wp2
  go_ret
  exact ⟨rfl, rfl⟩
def mxD (c t : Int) : Int := if c = 0 ∨ c < t then t else c
def mnD (c t : Int) : Int := if c = 0 ∨ t < c then t else c
/-- What a date is. -/
structure DateOk (y m d : Nat) : Prop where
  y1 : 1000 ≤ y
  y2 : y < 10000
  m1 : 1 ≤ m
  m2 : m ≤ 12
  d1 : 1 ≤ d
  d2 : d ≤ dimN m y
def kSINCE : List UInt8 := [83, 73, 78, 67, 69]
set_option maxRecDepth 100000 in
set_option maxHeartbeats 2000000 in
theorem t_pfSINCE (w : World) (c fg fo n cap : Nat) (y m d t mp lg sm : Nat) (d0 d1 d2 d3 : Int) (hD : DateOk y m d) (ht : dayN y m d = t) (htl : t < 10000000) (hb : Blk w c (critV mp d0 d1 d2 d3 lg sm) 71) (hc0 : w.cell? ⟨fg, fo, none⟩ = some (strI kSINCE)) (hc1 : w.cell? ⟨fg, fo + 1, none⟩ = some (strI (dateT y m d)))
    (hn : 2 ≤ n) (hcap : n ≤ cap) (hm : cap ≤ 9223372036854775807) (hne : fg ≠ c) :
    Calls Tryz.prog 23 #[.pointer (some ⟨c, 0, none⟩), .slice (some ⟨fg, fo, none⟩) n cap, .nilFunc] w fun e w' => (∃ a, e = .returned (.tuple #[.slice a (n - 2) (cap - 2), .nilIface]) ∧ (2 < cap → a = some ⟨fg, fo + 2, none⟩)) ∧
      Blk w' c (critV mp (mxD d0 t) d1 d2 d3 lg sm) 71 ∧ Keep (· = c) w w' := by
  have htl' : ∀ l, (bs l).toList = l := bs_toList
  have hn0 : ((n : Int) == 0) = false := by rw [beq_eq_false_iff_ne]; omega
  have hcap1 : ¬ cap = 1 := by omega
  have h1 : ∀ (v : Value) (W : World), (Instr.typeAssert (.iface 9 v) 20 38 true).run Tryz.prog W = .ok (.tuple #[.slice none 0 0, .bool false]) W := fun v W => by rfl
  have h2 : ∀ (v : Value) (W : World), (Instr.typeAssert (.iface 9 v) 20 9 true).run Tryz.prog W = .ok (.tuple #[v, .bool true]) W := fun v W => by rfl
  have hup : (⟨(Lib.toUpperA (bs kSINCE).data.toList).toArray⟩ : ByteArray) = bs kSINCE := by rw [bs_data, bs_def]; rfl
  have HUP := Lib.hid hup
  have HB := Lib.hid hb
  have HC1 := Lib.hid hc1
  have HDO := Lib.hid hD
  have HT := Lib.hid ht
  clear hb hup hD ht
  have hkd : kSINCE = [83, 73, 78, 67, 69] := rfl
  unfold strI at hc0
  rw [hkd] at hc0 HUP
  clear hkd
  have hcase : d0 = 0 ∨ (d0 ≠ 0 ∧ d0 < t) ∨ (d0 ≠ 0 ∧ ¬ d0 < t) := by omega
  rcases hcase with h0 | ⟨h0, hx⟩ | ⟨h0, hx⟩
  all_goals
    have HH := Lib.hid h0
    first
      | (have hz : (d0 == 0) = true := by rw [h0]; rfl)
      | (have hz : (d0 == 0) = false := by rw [beq_eq_false_iff_ne]; exact h0)
    clear h0
    go_enter Tryz.func23, Tryz.ntmps23
    go_wp2_with (first
      | (go_at_call 37; refine (Tryz.strings_ToUpper_ascii (bs [83, 73, 78, 67, 69]) _ (by rw [bs_size]; decide) (by rw [bs_data]; intro j b hj; have := List.mem_of_getElem? hj; simp at this; rcases this with rfl | rfl | rfl | rfl | rfl | rfl <;> decide)).mono ?_; rintro e w1 ⟨rfl, hb1⟩; rw [HUP.out]; have hk1 := Keep.of_below (M := fun _ => False) hb1; have hc1' : w1.cell? ⟨fg, fo + 1, none⟩ = some (strI (dateT y m d)) := (World.cell?_of_block (a := ⟨fg, fo + 1, none⟩) (hk1.block fg (cell_lt HC1.out) id)).trans HC1.out; have HC1' := Lib.hid hc1'; have HB1 := Lib.hid (HB.out.keep hk1 id); have HK1 := Lib.hid hk1; clear hb1 hk1 hc1')
      | (go_at_call 39; refine (t_pop _ fg (fo + 1) (n - 1) (cap - 1) _ HC1'.out (by omega) (by omega) (by omega)).mono ?_; rintro e w2 ⟨⟨a2, rfl, ha2⟩, nd, rfl⟩; have HA2 := Lib.hid ha2; clear ha2)
      | (go_at_call 43; refine (t_maybe _ (dateT y m d)).mono ?_; rintro e w3 ⟨rfl, hk3⟩; have HK3 := Lib.hid hk3; clear hk3)
      | (go_at_call 42; refine (t_parseDay y m d HDO.out.y1 HDO.out.y2 HDO.out.m1 HDO.out.m2 HDO.out.d1 HDO.out.d2 _).mono ?_; rw [HT.out]; rintro e w4 ⟨rfl, hk4⟩; have hb4 := ((HB1.out.drewN nd).keep HK3.out id).keep hk4 id; have e2 : w4.cell? ⟨c, 2, none⟩ = some (.int .i64 d0) := (hb4.cell 2).trans rfl; have e3 : w4.cell? ⟨c, 3, none⟩ = some (.int .i64 d1) := (hb4.cell 3).trans rfl; have e4 : w4.cell? ⟨c, 4, none⟩ = some (.int .i64 d2) := (hb4.cell 4).trans rfl; have e5 : w4.cell? ⟨c, 5, none⟩ = some (.int .i64 d3) := (hb4.cell 5).trans rfl;  have ef := hb4.free; have HB4 := Lib.hid hb4; have HK4 := Lib.hid (((HK1.out.drewN nd).trans HK3.out).trans hk4); clear hk4 hb4)
      | (go_at_call 26; refine (t_isZero _ _).mono ?_; rintro e w5 ⟨rfl, rfl⟩)
      | (go_at_call 46; refine (t_dayAfter _ _ _).mono ?_; rintro e w6 ⟨rfl, rfl⟩))
    go_ret2
    refine ⟨⟨a2, rfl, fun h => HA2.out (by omega)⟩, ?_, ?_⟩
    · have h0 := HH.out
      first
        | (rw [show mxD d0 t = t from if_pos (by omega)]; exact HB4.out.set 2 _)
        | (rw [show mxD d0 t = d0 from if_neg (by omega)]; exact HB4.out)
    · first
        | exact (HK4.out.mono (N := (· = c)) (fun _ _ h => absurd h id)).at (b := c) (fun _ => rfl) _ _
        | exact HK4.out.mono (fun _ _ h => absurd h id)
def kBEFORE : List UInt8 := [66, 69, 70, 79, 82, 69]
set_option maxRecDepth 100000 in
set_option maxHeartbeats 2000000 in
theorem t_pfBEFORE (w : World) (c fg fo n cap : Nat) (y m d t mp lg sm : Nat) (d0 d1 d2 d3 : Int) (hD : DateOk y m d) (ht : dayN y m d = t) (htl : t < 10000000) (hb : Blk w c (critV mp d0 d1 d2 d3 lg sm) 71) (hc0 : w.cell? ⟨fg, fo, none⟩ = some (strI kBEFORE)) (hc1 : w.cell? ⟨fg, fo + 1, none⟩ = some (strI (dateT y m d)))
    (hn : 2 ≤ n) (hcap : n ≤ cap) (hm : cap ≤ 9223372036854775807) (hne : fg ≠ c) :
    Calls Tryz.prog 23 #[.pointer (some ⟨c, 0, none⟩), .slice (some ⟨fg, fo, none⟩) n cap, .nilFunc] w fun e w' => (∃ a, e = .returned (.tuple #[.slice a (n - 2) (cap - 2), .nilIface]) ∧ (2 < cap → a = some ⟨fg, fo + 2, none⟩)) ∧
      Blk w' c (critV mp d0 (mnD d1 t) d2 d3 lg sm) 71 ∧ Keep (· = c) w w' := by
  have htl' : ∀ l, (bs l).toList = l := bs_toList
  have hn0 : ((n : Int) == 0) = false := by rw [beq_eq_false_iff_ne]; omega
  have hcap1 : ¬ cap = 1 := by omega
  have h1 : ∀ (v : Value) (W : World), (Instr.typeAssert (.iface 9 v) 20 38 true).run Tryz.prog W = .ok (.tuple #[.slice none 0 0, .bool false]) W := fun v W => by rfl
  have h2 : ∀ (v : Value) (W : World), (Instr.typeAssert (.iface 9 v) 20 9 true).run Tryz.prog W = .ok (.tuple #[v, .bool true]) W := fun v W => by rfl
  have hup : (⟨(Lib.toUpperA (bs kBEFORE).data.toList).toArray⟩ : ByteArray) = bs kBEFORE := by rw [bs_data, bs_def]; rfl
  have HUP := Lib.hid hup
  have HB := Lib.hid hb
  have HC1 := Lib.hid hc1
  have HDO := Lib.hid hD
  have HT := Lib.hid ht
  clear hb hup hD ht
  have hkd : kBEFORE = [66, 69, 70, 79, 82, 69] := rfl
  unfold strI at hc0
  rw [hkd] at hc0 HUP
  clear hkd
  have hcase : d1 = 0 ∨ (d1 ≠ 0 ∧ t < d1) ∨ (d1 ≠ 0 ∧ ¬ t < d1) := by omega
  rcases hcase with h0 | ⟨h0, hx⟩ | ⟨h0, hx⟩
  all_goals
    have HH := Lib.hid h0
    first
      | (have hz : (d1 == 0) = true := by rw [h0]; rfl)
      | (have hz : (d1 == 0) = false := by rw [beq_eq_false_iff_ne]; exact h0)
    clear h0
    go_enter Tryz.func23, Tryz.ntmps23
    go_wp2_with (first
      | (go_at_call 37; refine (Tryz.strings_ToUpper_ascii (bs [66, 69, 70, 79, 82, 69]) _ (by rw [bs_size]; decide) (by rw [bs_data]; intro j b hj; have := List.mem_of_getElem? hj; simp at this; rcases this with rfl | rfl | rfl | rfl | rfl | rfl | rfl <;> decide)).mono ?_; rintro e w1 ⟨rfl, hb1⟩; rw [HUP.out]; have hk1 := Keep.of_below (M := fun _ => False) hb1; have hc1' : w1.cell? ⟨fg, fo + 1, none⟩ = some (strI (dateT y m d)) := (World.cell?_of_block (a := ⟨fg, fo + 1, none⟩) (hk1.block fg (cell_lt HC1.out) id)).trans HC1.out; have HC1' := Lib.hid hc1'; have HB1 := Lib.hid (HB.out.keep hk1 id); have HK1 := Lib.hid hk1; clear hb1 hk1 hc1')
      | (go_at_call 39; refine (t_pop _ fg (fo + 1) (n - 1) (cap - 1) _ HC1'.out (by omega) (by omega) (by omega)).mono ?_; rintro e w2 ⟨⟨a2, rfl, ha2⟩, nd, rfl⟩; have HA2 := Lib.hid ha2; clear ha2)
      | (go_at_call 43; refine (t_maybe _ (dateT y m d)).mono ?_; rintro e w3 ⟨rfl, hk3⟩; have HK3 := Lib.hid hk3; clear hk3)
      | (go_at_call 42; refine (t_parseDay y m d HDO.out.y1 HDO.out.y2 HDO.out.m1 HDO.out.m2 HDO.out.d1 HDO.out.d2 _).mono ?_; rw [HT.out]; rintro e w4 ⟨rfl, hk4⟩; have hb4 := ((HB1.out.drewN nd).keep HK3.out id).keep hk4 id; have e2 : w4.cell? ⟨c, 2, none⟩ = some (.int .i64 d0) := (hb4.cell 2).trans rfl; have e3 : w4.cell? ⟨c, 3, none⟩ = some (.int .i64 d1) := (hb4.cell 3).trans rfl; have e4 : w4.cell? ⟨c, 4, none⟩ = some (.int .i64 d2) := (hb4.cell 4).trans rfl; have e5 : w4.cell? ⟨c, 5, none⟩ = some (.int .i64 d3) := (hb4.cell 5).trans rfl;  have ef := hb4.free; have HB4 := Lib.hid hb4; have HK4 := Lib.hid (((HK1.out.drewN nd).trans HK3.out).trans hk4); clear hk4 hb4)
      | (go_at_call 26; refine (t_isZero _ _).mono ?_; rintro e w5 ⟨rfl, rfl⟩)
      | (go_at_call 44; refine (t_dayBefore _ _ _).mono ?_; rintro e w6 ⟨rfl, rfl⟩))
    go_ret2
    refine ⟨⟨a2, rfl, fun h => HA2.out (by omega)⟩, ?_, ?_⟩
    · have h0 := HH.out
      first
        | (rw [show mnD d1 t = t from if_pos (by omega)]; exact HB4.out.set 3 _)
        | (rw [show mnD d1 t = d1 from if_neg (by omega)]; exact HB4.out)
    · first
        | exact (HK4.out.mono (N := (· = c)) (fun _ _ h => absurd h id)).at (b := c) (fun _ => rfl) _ _
        | exact HK4.out.mono (fun _ _ h => absurd h id)
def kSENTSINCE : List UInt8 := [83, 69, 78, 84, 83, 73, 78, 67, 69]
set_option maxRecDepth 100000 in
set_option maxHeartbeats 2000000 in
theorem t_pfSENTSINCE (w : World) (c fg fo n cap : Nat) (y m d t mp lg sm : Nat) (d0 d1 d2 d3 : Int) (hD : DateOk y m d) (ht : dayN y m d = t) (htl : t < 10000000) (hb : Blk w c (critV mp d0 d1 d2 d3 lg sm) 71) (hc0 : w.cell? ⟨fg, fo, none⟩ = some (strI kSENTSINCE)) (hc1 : w.cell? ⟨fg, fo + 1, none⟩ = some (strI (dateT y m d)))
    (hn : 2 ≤ n) (hcap : n ≤ cap) (hm : cap ≤ 9223372036854775807) (hne : fg ≠ c) :
    Calls Tryz.prog 23 #[.pointer (some ⟨c, 0, none⟩), .slice (some ⟨fg, fo, none⟩) n cap, .nilFunc] w fun e w' => (∃ a, e = .returned (.tuple #[.slice a (n - 2) (cap - 2), .nilIface]) ∧ (2 < cap → a = some ⟨fg, fo + 2, none⟩)) ∧
      Blk w' c (critV mp d0 d1 (mxD d2 t) d3 lg sm) 71 ∧ Keep (· = c) w w' := by
  have htl' : ∀ l, (bs l).toList = l := bs_toList
  have hn0 : ((n : Int) == 0) = false := by rw [beq_eq_false_iff_ne]; omega
  have hcap1 : ¬ cap = 1 := by omega
  have h1 : ∀ (v : Value) (W : World), (Instr.typeAssert (.iface 9 v) 20 38 true).run Tryz.prog W = .ok (.tuple #[.slice none 0 0, .bool false]) W := fun v W => by rfl
  have h2 : ∀ (v : Value) (W : World), (Instr.typeAssert (.iface 9 v) 20 9 true).run Tryz.prog W = .ok (.tuple #[v, .bool true]) W := fun v W => by rfl
  have hup : (⟨(Lib.toUpperA (bs kSENTSINCE).data.toList).toArray⟩ : ByteArray) = bs kSENTSINCE := by rw [bs_data, bs_def]; rfl
  have HUP := Lib.hid hup
  have HB := Lib.hid hb
  have HC1 := Lib.hid hc1
  have HDO := Lib.hid hD
  have HT := Lib.hid ht
  clear hb hup hD ht
  have hkd : kSENTSINCE = [83, 69, 78, 84, 83, 73, 78, 67, 69] := rfl
  unfold strI at hc0
  rw [hkd] at hc0 HUP
  clear hkd
  have hcase : d2 = 0 ∨ (d2 ≠ 0 ∧ d2 < t) ∨ (d2 ≠ 0 ∧ ¬ d2 < t) := by omega
  rcases hcase with h0 | ⟨h0, hx⟩ | ⟨h0, hx⟩
  all_goals
    have HH := Lib.hid h0
    first
      | (have hz : (d2 == 0) = true := by rw [h0]; rfl)
      | (have hz : (d2 == 0) = false := by rw [beq_eq_false_iff_ne]; exact h0)
    clear h0
    go_enter Tryz.func23, Tryz.ntmps23
    go_wp2_with (first
      | (go_at_call 37; refine (Tryz.strings_ToUpper_ascii (bs [83, 69, 78, 84, 83, 73, 78, 67, 69]) _ (by rw [bs_size]; decide) (by rw [bs_data]; intro j b hj; have := List.mem_of_getElem? hj; simp at this; rcases this with rfl | rfl | rfl | rfl | rfl | rfl | rfl | rfl | rfl | rfl <;> decide)).mono ?_; rintro e w1 ⟨rfl, hb1⟩; rw [HUP.out]; have hk1 := Keep.of_below (M := fun _ => False) hb1; have hc1' : w1.cell? ⟨fg, fo + 1, none⟩ = some (strI (dateT y m d)) := (World.cell?_of_block (a := ⟨fg, fo + 1, none⟩) (hk1.block fg (cell_lt HC1.out) id)).trans HC1.out; have HC1' := Lib.hid hc1'; have HB1 := Lib.hid (HB.out.keep hk1 id); have HK1 := Lib.hid hk1; clear hb1 hk1 hc1')
      | (go_at_call 39; refine (t_pop _ fg (fo + 1) (n - 1) (cap - 1) _ HC1'.out (by omega) (by omega) (by omega)).mono ?_; rintro e w2 ⟨⟨a2, rfl, ha2⟩, nd, rfl⟩; have HA2 := Lib.hid ha2; clear ha2)
      | (go_at_call 43; refine (t_maybe _ (dateT y m d)).mono ?_; rintro e w3 ⟨rfl, hk3⟩; have HK3 := Lib.hid hk3; clear hk3)
      | (go_at_call 42; refine (t_parseDay y m d HDO.out.y1 HDO.out.y2 HDO.out.m1 HDO.out.m2 HDO.out.d1 HDO.out.d2 _).mono ?_; rw [HT.out]; rintro e w4 ⟨rfl, hk4⟩; have hb4 := ((HB1.out.drewN nd).keep HK3.out id).keep hk4 id; have e2 : w4.cell? ⟨c, 2, none⟩ = some (.int .i64 d0) := (hb4.cell 2).trans rfl; have e3 : w4.cell? ⟨c, 3, none⟩ = some (.int .i64 d1) := (hb4.cell 3).trans rfl; have e4 : w4.cell? ⟨c, 4, none⟩ = some (.int .i64 d2) := (hb4.cell 4).trans rfl; have e5 : w4.cell? ⟨c, 5, none⟩ = some (.int .i64 d3) := (hb4.cell 5).trans rfl;  have ef := hb4.free; have HB4 := Lib.hid hb4; have HK4 := Lib.hid (((HK1.out.drewN nd).trans HK3.out).trans hk4); clear hk4 hb4)
      | (go_at_call 26; refine (t_isZero _ _).mono ?_; rintro e w5 ⟨rfl, rfl⟩)
      | (go_at_call 46; refine (t_dayAfter _ _ _).mono ?_; rintro e w6 ⟨rfl, rfl⟩))
    go_ret2
    refine ⟨⟨a2, rfl, fun h => HA2.out (by omega)⟩, ?_, ?_⟩
    · have h0 := HH.out
      first
        | (rw [show mxD d2 t = t from if_pos (by omega)]; exact HB4.out.set 4 _)
        | (rw [show mxD d2 t = d2 from if_neg (by omega)]; exact HB4.out)
    · first
        | exact (HK4.out.mono (N := (· = c)) (fun _ _ h => absurd h id)).at (b := c) (fun _ => rfl) _ _
        | exact HK4.out.mono (fun _ _ h => absurd h id)
def kSENTBEFORE : List UInt8 := [83, 69, 78, 84, 66, 69, 70, 79, 82, 69]
set_option maxRecDepth 100000 in
set_option maxHeartbeats 2000000 in
theorem t_pfSENTBEFORE (w : World) (c fg fo n cap : Nat) (y m d t mp lg sm : Nat) (d0 d1 d2 d3 : Int) (hD : DateOk y m d) (ht : dayN y m d = t) (htl : t < 10000000) (hb : Blk w c (critV mp d0 d1 d2 d3 lg sm) 71) (hc0 : w.cell? ⟨fg, fo, none⟩ = some (strI kSENTBEFORE)) (hc1 : w.cell? ⟨fg, fo + 1, none⟩ = some (strI (dateT y m d)))
    (hn : 2 ≤ n) (hcap : n ≤ cap) (hm : cap ≤ 9223372036854775807) (hne : fg ≠ c) :
    Calls Tryz.prog 23 #[.pointer (some ⟨c, 0, none⟩), .slice (some ⟨fg, fo, none⟩) n cap, .nilFunc] w fun e w' => (∃ a, e = .returned (.tuple #[.slice a (n - 2) (cap - 2), .nilIface]) ∧ (2 < cap → a = some ⟨fg, fo + 2, none⟩)) ∧
      Blk w' c (critV mp d0 d1 d2 (mnD d3 t) lg sm) 71 ∧ Keep (· = c) w w' := by
  have htl' : ∀ l, (bs l).toList = l := bs_toList
  have hn0 : ((n : Int) == 0) = false := by rw [beq_eq_false_iff_ne]; omega
  have hcap1 : ¬ cap = 1 := by omega
  have h1 : ∀ (v : Value) (W : World), (Instr.typeAssert (.iface 9 v) 20 38 true).run Tryz.prog W = .ok (.tuple #[.slice none 0 0, .bool false]) W := fun v W => by rfl
  have h2 : ∀ (v : Value) (W : World), (Instr.typeAssert (.iface 9 v) 20 9 true).run Tryz.prog W = .ok (.tuple #[v, .bool true]) W := fun v W => by rfl
  have hup : (⟨(Lib.toUpperA (bs kSENTBEFORE).data.toList).toArray⟩ : ByteArray) = bs kSENTBEFORE := by rw [bs_data, bs_def]; rfl
  have HUP := Lib.hid hup
  have HB := Lib.hid hb
  have HC1 := Lib.hid hc1
  have HDO := Lib.hid hD
  have HT := Lib.hid ht
  clear hb hup hD ht
  have hkd : kSENTBEFORE = [83, 69, 78, 84, 66, 69, 70, 79, 82, 69] := rfl
  unfold strI at hc0
  rw [hkd] at hc0 HUP
  clear hkd
  have hcase : d3 = 0 ∨ (d3 ≠ 0 ∧ t < d3) ∨ (d3 ≠ 0 ∧ ¬ t < d3) := by omega
  rcases hcase with h0 | ⟨h0, hx⟩ | ⟨h0, hx⟩
  all_goals
    have HH := Lib.hid h0
    first
      | (have hz : (d3 == 0) = true := by rw [h0]; rfl)
      | (have hz : (d3 == 0) = false := by rw [beq_eq_false_iff_ne]; exact h0)
    clear h0
    go_enter Tryz.func23, Tryz.ntmps23
    go_wp2_with (first
      | (go_at_call 37; refine (Tryz.strings_ToUpper_ascii (bs [83, 69, 78, 84, 66, 69, 70, 79, 82, 69]) _ (by rw [bs_size]; decide) (by rw [bs_data]; intro j b hj; have := List.mem_of_getElem? hj; simp at this; rcases this with rfl | rfl | rfl | rfl | rfl | rfl | rfl | rfl | rfl | rfl | rfl <;> decide)).mono ?_; rintro e w1 ⟨rfl, hb1⟩; rw [HUP.out]; have hk1 := Keep.of_below (M := fun _ => False) hb1; have hc1' : w1.cell? ⟨fg, fo + 1, none⟩ = some (strI (dateT y m d)) := (World.cell?_of_block (a := ⟨fg, fo + 1, none⟩) (hk1.block fg (cell_lt HC1.out) id)).trans HC1.out; have HC1' := Lib.hid hc1'; have HB1 := Lib.hid (HB.out.keep hk1 id); have HK1 := Lib.hid hk1; clear hb1 hk1 hc1')
      | (go_at_call 39; refine (t_pop _ fg (fo + 1) (n - 1) (cap - 1) _ HC1'.out (by omega) (by omega) (by omega)).mono ?_; rintro e w2 ⟨⟨a2, rfl, ha2⟩, nd, rfl⟩; have HA2 := Lib.hid ha2; clear ha2)
      | (go_at_call 43; refine (t_maybe _ (dateT y m d)).mono ?_; rintro e w3 ⟨rfl, hk3⟩; have HK3 := Lib.hid hk3; clear hk3)
      | (go_at_call 42; refine (t_parseDay y m d HDO.out.y1 HDO.out.y2 HDO.out.m1 HDO.out.m2 HDO.out.d1 HDO.out.d2 _).mono ?_; rw [HT.out]; rintro e w4 ⟨rfl, hk4⟩; have hb4 := ((HB1.out.drewN nd).keep HK3.out id).keep hk4 id; have e2 : w4.cell? ⟨c, 2, none⟩ = some (.int .i64 d0) := (hb4.cell 2).trans rfl; have e3 : w4.cell? ⟨c, 3, none⟩ = some (.int .i64 d1) := (hb4.cell 3).trans rfl; have e4 : w4.cell? ⟨c, 4, none⟩ = some (.int .i64 d2) := (hb4.cell 4).trans rfl; have e5 : w4.cell? ⟨c, 5, none⟩ = some (.int .i64 d3) := (hb4.cell 5).trans rfl;  have ef := hb4.free; have HB4 := Lib.hid hb4; have HK4 := Lib.hid (((HK1.out.drewN nd).trans HK3.out).trans hk4); clear hk4 hb4)
      | (go_at_call 26; refine (t_isZero _ _).mono ?_; rintro e w5 ⟨rfl, rfl⟩)
      | (go_at_call 44; refine (t_dayBefore _ _ _).mono ?_; rintro e w6 ⟨rfl, rfl⟩))
    go_ret2
    refine ⟨⟨a2, rfl, fun h => HA2.out (by omega)⟩, ?_, ?_⟩
    · have h0 := HH.out
      first
        | (rw [show mnD d3 t = t from if_pos (by omega)]; exact HB4.out.set 5 _)
        | (rw [show mnD d3 t = d3 from if_neg (by omega)]; exact HB4.out)
    · first
        | exact (HK4.out.mono (N := (· = c)) (fun _ _ h => absurd h id)).at (b := c) (fun _ => rfl) _ _
        | exact HK4.out.mono (fun _ _ h => absurd h id)
def kON : List UInt8 := [79, 78]
set_option maxRecDepth 100000 in
set_option maxHeartbeats 2000000 in
theorem t_pfON (w : World) (c fg fo n cap : Nat) (y m d t mp lg sm : Nat) (d0 d1 d2 d3 : Int) (hD : DateOk y m d) (ht : dayN y m d = t) (htl : t < 10000000) (hb : Blk w c (critV mp d0 d1 d2 d3 lg sm) 71) (hc0 : w.cell? ⟨fg, fo, none⟩ = some (strI kON)) (hc1 : w.cell? ⟨fg, fo + 1, none⟩ = some (strI (dateT y m d)))
    (hn : 2 ≤ n) (hcap : n ≤ cap) (hm : cap ≤ 9223372036854775807) (hne : fg ≠ c) :
    Calls Tryz.prog 23 #[.pointer (some ⟨c, 0, none⟩), .slice (some ⟨fg, fo, none⟩) n cap, .nilFunc] w fun e w' => (∃ a, e = .returned (.tuple #[.slice a (n - 2) (cap - 2), .nilIface]) ∧ (2 < cap → a = some ⟨fg, fo + 2, none⟩)) ∧
      Blk w' c (critV mp t (t + 1) d2 d3 lg sm) 71 ∧ Keep (· = c) w w' := by
  have htl' : ∀ l, (bs l).toList = l := bs_toList
  have hn0 : ((n : Int) == 0) = false := by rw [beq_eq_false_iff_ne]; omega
  have hcap1 : ¬ cap = 1 := by omega
  have h1 : ∀ (v : Value) (W : World), (Instr.typeAssert (.iface 9 v) 20 38 true).run Tryz.prog W = .ok (.tuple #[.slice none 0 0, .bool false]) W := fun v W => by rfl
  have h2 : ∀ (v : Value) (W : World), (Instr.typeAssert (.iface 9 v) 20 9 true).run Tryz.prog W = .ok (.tuple #[v, .bool true]) W := fun v W => by rfl
  have hup : (⟨(Lib.toUpperA (bs kON).data.toList).toArray⟩ : ByteArray) = bs kON := by rw [bs_data, bs_def]; rfl
  have HUP := Lib.hid hup
  have HB := Lib.hid hb
  have HC1 := Lib.hid hc1
  have HDO := Lib.hid hD
  have HT := Lib.hid ht
  clear hb hup hD ht
  have hkd : kON = [79, 78] := rfl
  unfold strI at hc0
  rw [hkd] at hc0 HUP
  clear hkd
  have hsum : IntKind.i64.wrap ((t : Int) + 1) = (t : Int) + 1 := IntWalk.i64_in _ (by omega)
  go_enter Tryz.func23, Tryz.ntmps23
  go_wp2_with (first
    | (go_at_call 37; refine (Tryz.strings_ToUpper_ascii (bs [79, 78]) _ (by rw [bs_size]; decide) (by rw [bs_data]; intro j b hj; have := List.mem_of_getElem? hj; simp at this; rcases this with rfl | rfl | rfl <;> decide)).mono ?_; rintro e w1 ⟨rfl, hb1⟩; rw [HUP.out]; have hk1 := Keep.of_below (M := fun _ => False) hb1; have hc1' : w1.cell? ⟨fg, fo + 1, none⟩ = some (strI (dateT y m d)) := (World.cell?_of_block (a := ⟨fg, fo + 1, none⟩) (hk1.block fg (cell_lt HC1.out) id)).trans HC1.out; have HC1' := Lib.hid hc1'; have HB1 := Lib.hid (HB.out.keep hk1 id); have HK1 := Lib.hid hk1; clear hb1 hk1 hc1')
    | (go_at_call 39; refine (t_pop _ fg (fo + 1) (n - 1) (cap - 1) _ HC1'.out (by omega) (by omega) (by omega)).mono ?_; rintro e w2 ⟨⟨a2, rfl, ha2⟩, nd, rfl⟩; have HA2 := Lib.hid ha2; clear ha2)
    | (go_at_call 43; refine (t_maybe _ (dateT y m d)).mono ?_; rintro e w3 ⟨rfl, hk3⟩; have HK3 := Lib.hid hk3; clear hk3)
    | (go_at_call 42; refine (t_parseDay y m d HDO.out.y1 HDO.out.y2 HDO.out.m1 HDO.out.m2 HDO.out.d1 HDO.out.d2 _).mono ?_; rw [HT.out]; rintro e w4 ⟨rfl, hk4⟩; have hb4 := ((HB1.out.drewN nd).keep HK3.out id).keep hk4 id; have e2 : w4.cell? ⟨c, 2, none⟩ = some (.int .i64 d0) := (hb4.cell 2).trans rfl; have e3 : w4.cell? ⟨c, 3, none⟩ = some (.int .i64 d1) := (hb4.cell 3).trans rfl; have e4 : w4.cell? ⟨c, 4, none⟩ = some (.int .i64 d2) := (hb4.cell 4).trans rfl; have e5 : w4.cell? ⟨c, 5, none⟩ = some (.int .i64 d3) := (hb4.cell 5).trans rfl;  have ef := hb4.free; have HB4 := Lib.hid hb4; have HK4 := Lib.hid (((HK1.out.drewN nd).trans HK3.out).trans hk4); clear hk4 hb4))
  go_ret2
  refine ⟨⟨a2, rfl, fun h => HA2.out (by omega)⟩, (HB4.out.set 2 _).set 3 _, ?_⟩
  exact ((HK4.out.mono (N := (· = c)) (fun _ _ h => absurd h id)).at (b := c) (fun _ => rfl) _ _).at (b := c) (fun _ => rfl) _ _
def kSENTON : List UInt8 := [83, 69, 78, 84, 79, 78]
set_option maxRecDepth 100000 in
set_option maxHeartbeats 2000000 in
theorem t_pfSENTON (w : World) (c fg fo n cap : Nat) (y m d t mp lg sm : Nat) (d0 d1 d2 d3 : Int) (hD : DateOk y m d) (ht : dayN y m d = t) (htl : t < 10000000) (hb : Blk w c (critV mp d0 d1 d2 d3 lg sm) 71) (hc0 : w.cell? ⟨fg, fo, none⟩ = some (strI kSENTON)) (hc1 : w.cell? ⟨fg, fo + 1, none⟩ = some (strI (dateT y m d)))
    (hn : 2 ≤ n) (hcap : n ≤ cap) (hm : cap ≤ 9223372036854775807) (hne : fg ≠ c) :
    Calls Tryz.prog 23 #[.pointer (some ⟨c, 0, none⟩), .slice (some ⟨fg, fo, none⟩) n cap, .nilFunc] w fun e w' => (∃ a, e = .returned (.tuple #[.slice a (n - 2) (cap - 2), .nilIface]) ∧ (2 < cap → a = some ⟨fg, fo + 2, none⟩)) ∧
      Blk w' c (critV mp d0 d1 t (t + 1) lg sm) 71 ∧ Keep (· = c) w w' := by
  have htl' : ∀ l, (bs l).toList = l := bs_toList
  have hn0 : ((n : Int) == 0) = false := by rw [beq_eq_false_iff_ne]; omega
  have hcap1 : ¬ cap = 1 := by omega
  have h1 : ∀ (v : Value) (W : World), (Instr.typeAssert (.iface 9 v) 20 38 true).run Tryz.prog W = .ok (.tuple #[.slice none 0 0, .bool false]) W := fun v W => by rfl
  have h2 : ∀ (v : Value) (W : World), (Instr.typeAssert (.iface 9 v) 20 9 true).run Tryz.prog W = .ok (.tuple #[v, .bool true]) W := fun v W => by rfl
  have hup : (⟨(Lib.toUpperA (bs kSENTON).data.toList).toArray⟩ : ByteArray) = bs kSENTON := by rw [bs_data, bs_def]; rfl
  have HUP := Lib.hid hup
  have HB := Lib.hid hb
  have HC1 := Lib.hid hc1
  have HDO := Lib.hid hD
  have HT := Lib.hid ht
  clear hb hup hD ht
  have hkd : kSENTON = [83, 69, 78, 84, 79, 78] := rfl
  unfold strI at hc0
  rw [hkd] at hc0 HUP
  clear hkd
  have hsum : IntKind.i64.wrap ((t : Int) + 1) = (t : Int) + 1 := IntWalk.i64_in _ (by omega)
  go_enter Tryz.func23, Tryz.ntmps23
  go_wp2_with (first
    | (go_at_call 37; refine (Tryz.strings_ToUpper_ascii (bs [83, 69, 78, 84, 79, 78]) _ (by rw [bs_size]; decide) (by rw [bs_data]; intro j b hj; have := List.mem_of_getElem? hj; simp at this; rcases this with rfl | rfl | rfl | rfl | rfl | rfl | rfl <;> decide)).mono ?_; rintro e w1 ⟨rfl, hb1⟩; rw [HUP.out]; have hk1 := Keep.of_below (M := fun _ => False) hb1; have hc1' : w1.cell? ⟨fg, fo + 1, none⟩ = some (strI (dateT y m d)) := (World.cell?_of_block (a := ⟨fg, fo + 1, none⟩) (hk1.block fg (cell_lt HC1.out) id)).trans HC1.out; have HC1' := Lib.hid hc1'; have HB1 := Lib.hid (HB.out.keep hk1 id); have HK1 := Lib.hid hk1; clear hb1 hk1 hc1')
    | (go_at_call 39; refine (t_pop _ fg (fo + 1) (n - 1) (cap - 1) _ HC1'.out (by omega) (by omega) (by omega)).mono ?_; rintro e w2 ⟨⟨a2, rfl, ha2⟩, nd, rfl⟩; have HA2 := Lib.hid ha2; clear ha2)
    | (go_at_call 43; refine (t_maybe _ (dateT y m d)).mono ?_; rintro e w3 ⟨rfl, hk3⟩; have HK3 := Lib.hid hk3; clear hk3)
    | (go_at_call 42; refine (t_parseDay y m d HDO.out.y1 HDO.out.y2 HDO.out.m1 HDO.out.m2 HDO.out.d1 HDO.out.d2 _).mono ?_; rw [HT.out]; rintro e w4 ⟨rfl, hk4⟩; have hb4 := ((HB1.out.drewN nd).keep HK3.out id).keep hk4 id; have e2 : w4.cell? ⟨c, 2, none⟩ = some (.int .i64 d0) := (hb4.cell 2).trans rfl; have e3 : w4.cell? ⟨c, 3, none⟩ = some (.int .i64 d1) := (hb4.cell 3).trans rfl; have e4 : w4.cell? ⟨c, 4, none⟩ = some (.int .i64 d2) := (hb4.cell 4).trans rfl; have e5 : w4.cell? ⟨c, 5, none⟩ = some (.int .i64 d3) := (hb4.cell 5).trans rfl;  have ef := hb4.free; have HB4 := Lib.hid hb4; have HK4 := Lib.hid (((HK1.out.drewN nd).trans HK3.out).trans hk4); clear hk4 hb4))
  go_ret2
  refine ⟨⟨a2, rfl, fun h => HA2.out (by omega)⟩, (HB4.out.set 4 _).set 5 _, ?_⟩
  exact ((HK4.out.mono (N := (· = c)) (fun _ _ h => absurd h id)).at (b := c) (fun _ => rfl) _ _).at (b := c) (fun _ => rfl) _ _
end Go.Proofs.YtlnbikcfjnloaaaGreatDoor

namespace Go.Proofs.YtlnbikcfjnloaaaGreatDoor
set_option linter.unusedVariables false
set_option linter.unusedSimpArgs false
open Go.RowKit

attribute [local irreducible] civ dayN dig
/-- The text of a day. -/
def dTx (n : Nat) : List UInt8 := dateT (civ n).1 (civ n).2.1 (civ n).2.2
theorem date_of (n : Nat) (h : n < 48000) : ∃ y m d, civ n = (y, m, d) ∧ dTx n = dateT y m d ∧ DateOk y m d ∧ dayN y m d = n + 719162 := by
  obtain ⟨y, m, d, hc, h1, h2, h3, h4, h5, h6, h7⟩ := civ_fact n h
  exact ⟨y, m, d, hc, by rw [dTx, hc], ⟨by omega, by omega, h3, h4, h5, h6⟩, h7⟩
attribute [irreducible] dTx
theorem t_date (n : Nat) (h : n < 48000) (w : World) : Calls Tryz.prog 5 #[.int .i64 n] w fun e w' => e = .returned (.string (bs (dTx n))) ∧ Keep (fun _ => False) w w' := by
  obtain ⟨y, m, d, hc, ht, hd, _⟩ := date_of n h
  rw [ht]
  exact t_date9 n h y m d hc hd.y2 hd.m1 hd.m2 (Nat.le_trans hd.d2 (dim_le _ _)) w
theorem dTx_len (n : Nat) (h : n < 48000) : 0 < (dTx n).length ∧ (dTx n).length ≤ 20 := by
  obtain ⟨y, m, d, _, ht, hd, _⟩ := date_of n h
  have h1 := dig_len y 4 (by omega) (by have := hd.y2; omega)
  have h2 := dig_len d 2 (by omega) (by have := Nat.le_trans hd.d2 (dim_le _ _); omega)
  have h3 := mon_len _ hd.m1 hd.m2
  rw [ht]
  simp only [dateT, List.length_append, List.length_cons, List.length_nil]
  omega
theorem mon_ch (m : Nat) (h1 : 1 ≤ m) (h2 : m ≤ 12) : ∀ x ∈ mon m, 65 ≤ x.toNat ∧ x.toNat ≤ 90 ∨ 97 ≤ x.toNat ∧ x.toNat ≤ 122 := by
  have key : ((List.range 12).all fun m => (mon (m + 1)).all fun x => decide (65 ≤ x.toNat ∧ x.toNat ≤ 90 ∨ 97 ≤ x.toNat ∧ x.toNat ≤ 122)) = true := by decide +kernel
  intro x hx
  have := List.all_eq_true.1 key (m - 1) (List.mem_range.2 (by omega))
  rw [show m - 1 + 1 = m from by omega] at this
  exact of_decide_eq_true (List.all_eq_true.1 this x hx)
theorem dTx_atom (n : Nat) (h : n < 48000) : AtomOk (dTx n) := by
  obtain ⟨y, m, d, _, ht, hd, _⟩ := date_of n h
  obtain ⟨l1, l2⟩ := dTx_len n h
  rw [ht] at l1 l2 ⊢
  have hx : ∀ x ∈ dateT y m d, (48 ≤ x.toNat ∧ x.toNat ≤ 57) ∨ x.toNat = 45 ∨ (65 ≤ x.toNat ∧ x.toNat ≤ 90) ∨ (97 ≤ x.toNat ∧ x.toNat ≤ 122) := by
    intro x hx
    simp only [dateT, List.mem_append, List.mem_singleton] at hx
    rcases hx with ((((h | rfl) | h) | rfl) | h)
    · exact .inl (dig_mem _ x h)
    · exact .inr (.inl rfl)
    · rcases mon_ch _ hd.m1 hd.m2 x h with h | h
      · exact .inr (.inr (.inl h))
      · exact .inr (.inr (.inr h))
    · exact .inr (.inl rfl)
    · exact .inl (dig_mem _ x h)
  refine atomOk_of _ l1 (by omega) (fun x h => ?_) ?_
  · have := hx x h
    unfold AtomCh
    omega
  · intro e
    have hm : (45 : UInt8) ∈ dateT y m d := by simp [dateT]
    rw [e] at hm
    revert hm
    decide
def vD (i : Nat) (x : Int) (j : Nat) : Int := if i = j then x else 0
theorem pfOk_SINCE (c fg mp n lg sm : Nat) (hn : n < 48000) (d0 d1 d2 d3 : Int) (t : Nat) (ht : t = n + 719162) : PfOk c fg kSINCE (dTx n) (critV mp d0 d1 d2 d3 lg sm) (critV mp (mxD d0 t) d1 d2 d3 lg sm) := by
  intro w fo k cap hb h0 h1 hk hc hcm hne
  obtain ⟨y, m, d, _, hT, hd, he⟩ := date_of n hn
  rw [hT] at h1
  exact t_pfSINCE w c fg fo k cap y m d t mp lg sm d0 d1 d2 d3 hd (he.trans ht.symm) (by omega) hb h0 h1 hk hc hcm hne
theorem atom_SINCE : AtomOk kSINCE := atomOk_of _ (by decide) (by decide) (by intro x hx; simp [kSINCE] at hx; rcases hx with rfl | rfl | rfl | rfl | rfl <;> (unfold AtomCh; decide)) (by decide)
theorem txt_SINCE (X Y : List UInt8) : [83, 73, 78, 67, 69, 32] ++ X ++ [32] ++ [83, 73, 78, 67, 69, 32] ++ Y = joinS (flatF [(kSINCE, X), (kSINCE, Y)]) := by simp [joinS, flatF, kSINCE]
set_option maxRecDepth 100000 in
theorem crit_SINCE (w : World) (a b : Nat) (ha : a ≤ 46900) (hb : b ≤ 46900) (hF : First w) (hE : ∃ v, w.cell? ⟨17, 0, none⟩ = some v) :
    Calls Tryz.prog 7 #[.string (bs ([83, 73, 78, 67, 69, 32] ++ dTx a ++ [32] ++ [83, 73, 78, 67, 69, 32] ++ dTx b))] w fun e w' => ∃ v, e = .returned (.tuple #[v, .bool true]) ∧ w'.ownsRow w.heap.size 28 7 v 2 (critC 1 0 0 2 ++ critC 4 0 ((max a b : Nat) : Int) 1) ∧ Keep (fun _ => False) w w' := by
  obtain ⟨A, hA⟩ : ∃ A, A = a + 719162 := ⟨_, rfl⟩
  obtain ⟨B, hB⟩ : ∃ B, B = b + 719162 := ⟨_, rfl⟩
  have hmx : mxD (mxD 0 (A : Int)) (B : Int) = ((max A B : Nat) : Int) := by
    rw [show mxD 0 (A : Int) = (A : Int) from if_pos (.inl rfl)]
    unfold mxD
    split <;> omega
  have hL : dayL 0 [((max A B : Nat) : Int), 0, 0, 0] ++ numT 13 0 ++ numT 14 0 = [(4, 0, ((max a b : Nat) : Int))] := by
    simp only [dayL, dayT, numT]
    rw [if_neg (show ¬ ((max A B : Nat) : Int) = 0 by omega)]
    simp
    try omega
  refine (t_CritOf w ([83, 73, 78, 67, 69, 32] ++ dTx a ++ [32] ++ [83, 73, 78, 67, 69, 32] ++ dTx b) [(kSINCE, dTx a), (kSINCE, dTx b)] ((max A B : Nat) : Int) 0 0 0 0 0 ?_ ?_ (by simp) (by simp) ?_ (fun c fg mp => ⟨_, pfOk_SINCE _ _ _ a _ _ (by omega) _ _ _ _ A hA, _, pfOk_SINCE _ _ _ b _ _ (by omega) _ _ _ _ B hB, by rw [hmx]; rfl⟩) hF hE ?_ ?_).mono ?_
  · exact txt_SINCE _ _
  · intro x hx
    simp only [flatF, List.mem_cons, List.not_mem_nil, or_false] at hx
    rcases hx with rfl | rfl | rfl | rfl
    · exact atom_SINCE
    · exact dTx_atom a (by omega)
    · exact atom_SINCE
    · exact dTx_atom b (by omega)
  · have := (dTx_len a (by omega)).2; have := (dTx_len b (by omega)).2
    simp only [List.length_append, List.length_cons, List.length_nil]
    omega
  · intro d hd
    simp only [List.mem_cons, List.not_mem_nil, or_false] at hd
    rcases hd with rfl | rfl | rfl | rfl <;> omega
  · rw [hL]
    simp
  · rintro e w' ⟨v, L, rfl, rfl, ho, hk⟩
    rw [hL] at ho
    exact ⟨v, rfl, ho, hk⟩
theorem pfOk_BEFORE (c fg mp n lg sm : Nat) (hn : n < 48000) (d0 d1 d2 d3 : Int) (t : Nat) (ht : t = n + 719162) : PfOk c fg kBEFORE (dTx n) (critV mp d0 d1 d2 d3 lg sm) (critV mp d0 (mnD d1 t) d2 d3 lg sm) := by
  intro w fo k cap hb h0 h1 hk hc hcm hne
  obtain ⟨y, m, d, _, hT, hd, he⟩ := date_of n hn
  rw [hT] at h1
  exact t_pfBEFORE w c fg fo k cap y m d t mp lg sm d0 d1 d2 d3 hd (he.trans ht.symm) (by omega) hb h0 h1 hk hc hcm hne
theorem atom_BEFORE : AtomOk kBEFORE := atomOk_of _ (by decide) (by decide) (by intro x hx; simp [kBEFORE] at hx; rcases hx with rfl | rfl | rfl | rfl | rfl | rfl <;> (unfold AtomCh; decide)) (by decide)
theorem txt_BEFORE (X Y : List UInt8) : [66, 69, 70, 79, 82, 69, 32] ++ X ++ [32] ++ [66, 69, 70, 79, 82, 69, 32] ++ Y = joinS (flatF [(kBEFORE, X), (kBEFORE, Y)]) := by simp [joinS, flatF, kBEFORE]
set_option maxRecDepth 100000 in
theorem crit_BEFORE (w : World) (a b : Nat) (ha : a ≤ 46900) (hb : b ≤ 46900) (hF : First w) (hE : ∃ v, w.cell? ⟨17, 0, none⟩ = some v) :
    Calls Tryz.prog 7 #[.string (bs ([66, 69, 70, 79, 82, 69, 32] ++ dTx a ++ [32] ++ [66, 69, 70, 79, 82, 69, 32] ++ dTx b))] w fun e w' => ∃ v, e = .returned (.tuple #[v, .bool true]) ∧ w'.ownsRow w.heap.size 28 7 v 2 (critC 1 0 0 2 ++ critC 5 0 ((min a b : Nat) : Int) 1) ∧ Keep (fun _ => False) w w' := by
  obtain ⟨A, hA⟩ : ∃ A, A = a + 719162 := ⟨_, rfl⟩
  obtain ⟨B, hB⟩ : ∃ B, B = b + 719162 := ⟨_, rfl⟩
  have hmx : mnD (mnD 0 (A : Int)) (B : Int) = ((min A B : Nat) : Int) := by
    rw [show mnD 0 (A : Int) = (A : Int) from if_pos (.inl rfl)]
    unfold mnD
    split <;> omega
  have hL : dayL 0 [0, ((min A B : Nat) : Int), 0, 0] ++ numT 13 0 ++ numT 14 0 = [(5, 0, ((min a b : Nat) : Int))] := by
    simp only [dayL, dayT, numT]
    rw [if_neg (show ¬ ((min A B : Nat) : Int) = 0 by omega)]
    simp
    try omega
  refine (t_CritOf w ([66, 69, 70, 79, 82, 69, 32] ++ dTx a ++ [32] ++ [66, 69, 70, 79, 82, 69, 32] ++ dTx b) [(kBEFORE, dTx a), (kBEFORE, dTx b)] 0 ((min A B : Nat) : Int) 0 0 0 0 ?_ ?_ (by simp) (by simp) ?_ (fun c fg mp => ⟨_, pfOk_BEFORE _ _ _ a _ _ (by omega) _ _ _ _ A hA, _, pfOk_BEFORE _ _ _ b _ _ (by omega) _ _ _ _ B hB, by rw [hmx]; rfl⟩) hF hE ?_ ?_).mono ?_
  · exact txt_BEFORE _ _
  · intro x hx
    simp only [flatF, List.mem_cons, List.not_mem_nil, or_false] at hx
    rcases hx with rfl | rfl | rfl | rfl
    · exact atom_BEFORE
    · exact dTx_atom a (by omega)
    · exact atom_BEFORE
    · exact dTx_atom b (by omega)
  · have := (dTx_len a (by omega)).2; have := (dTx_len b (by omega)).2
    simp only [List.length_append, List.length_cons, List.length_nil]
    omega
  · intro d hd
    simp only [List.mem_cons, List.not_mem_nil, or_false] at hd
    rcases hd with rfl | rfl | rfl | rfl <;> omega
  · rw [hL]
    simp
  · rintro e w' ⟨v, L, rfl, rfl, ho, hk⟩
    rw [hL] at ho
    exact ⟨v, rfl, ho, hk⟩
theorem pfOk_SENTSINCE (c fg mp n lg sm : Nat) (hn : n < 48000) (d0 d1 d2 d3 : Int) (t : Nat) (ht : t = n + 719162) : PfOk c fg kSENTSINCE (dTx n) (critV mp d0 d1 d2 d3 lg sm) (critV mp d0 d1 (mxD d2 t) d3 lg sm) := by
  intro w fo k cap hb h0 h1 hk hc hcm hne
  obtain ⟨y, m, d, _, hT, hd, he⟩ := date_of n hn
  rw [hT] at h1
  exact t_pfSENTSINCE w c fg fo k cap y m d t mp lg sm d0 d1 d2 d3 hd (he.trans ht.symm) (by omega) hb h0 h1 hk hc hcm hne
theorem atom_SENTSINCE : AtomOk kSENTSINCE := atomOk_of _ (by decide) (by decide) (by intro x hx; simp [kSENTSINCE] at hx; rcases hx with rfl | rfl | rfl | rfl | rfl | rfl | rfl | rfl | rfl <;> (unfold AtomCh; decide)) (by decide)
theorem txt_SENTSINCE (X Y : List UInt8) : [83, 69, 78, 84, 83, 73, 78, 67, 69, 32] ++ X ++ [32] ++ [83, 69, 78, 84, 83, 73, 78, 67, 69, 32] ++ Y = joinS (flatF [(kSENTSINCE, X), (kSENTSINCE, Y)]) := by simp [joinS, flatF, kSENTSINCE]
set_option maxRecDepth 100000 in
theorem crit_SENTSINCE (w : World) (a b : Nat) (ha : a ≤ 46900) (hb : b ≤ 46900) (hF : First w) (hE : ∃ v, w.cell? ⟨17, 0, none⟩ = some v) :
    Calls Tryz.prog 7 #[.string (bs ([83, 69, 78, 84, 83, 73, 78, 67, 69, 32] ++ dTx a ++ [32] ++ [83, 69, 78, 84, 83, 73, 78, 67, 69, 32] ++ dTx b))] w fun e w' => ∃ v, e = .returned (.tuple #[v, .bool true]) ∧ w'.ownsRow w.heap.size 28 7 v 2 (critC 1 0 0 2 ++ critC 6 0 ((max a b : Nat) : Int) 1) ∧ Keep (fun _ => False) w w' := by
  obtain ⟨A, hA⟩ : ∃ A, A = a + 719162 := ⟨_, rfl⟩
  obtain ⟨B, hB⟩ : ∃ B, B = b + 719162 := ⟨_, rfl⟩
  have hmx : mxD (mxD 0 (A : Int)) (B : Int) = ((max A B : Nat) : Int) := by
    rw [show mxD 0 (A : Int) = (A : Int) from if_pos (.inl rfl)]
    unfold mxD
    split <;> omega
  have hL : dayL 0 [0, 0, ((max A B : Nat) : Int), 0] ++ numT 13 0 ++ numT 14 0 = [(6, 0, ((max a b : Nat) : Int))] := by
    simp only [dayL, dayT, numT]
    rw [if_neg (show ¬ ((max A B : Nat) : Int) = 0 by omega)]
    simp
    try omega
  refine (t_CritOf w ([83, 69, 78, 84, 83, 73, 78, 67, 69, 32] ++ dTx a ++ [32] ++ [83, 69, 78, 84, 83, 73, 78, 67, 69, 32] ++ dTx b) [(kSENTSINCE, dTx a), (kSENTSINCE, dTx b)] 0 0 ((max A B : Nat) : Int) 0 0 0 ?_ ?_ (by simp) (by simp) ?_ (fun c fg mp => ⟨_, pfOk_SENTSINCE _ _ _ a _ _ (by omega) _ _ _ _ A hA, _, pfOk_SENTSINCE _ _ _ b _ _ (by omega) _ _ _ _ B hB, by rw [hmx]; rfl⟩) hF hE ?_ ?_).mono ?_
  · exact txt_SENTSINCE _ _
  · intro x hx
    simp only [flatF, List.mem_cons, List.not_mem_nil, or_false] at hx
    rcases hx with rfl | rfl | rfl | rfl
    · exact atom_SENTSINCE
    · exact dTx_atom a (by omega)
    · exact atom_SENTSINCE
    · exact dTx_atom b (by omega)
  · have := (dTx_len a (by omega)).2; have := (dTx_len b (by omega)).2
    simp only [List.length_append, List.length_cons, List.length_nil]
    omega
  · intro d hd
    simp only [List.mem_cons, List.not_mem_nil, or_false] at hd
    rcases hd with rfl | rfl | rfl | rfl <;> omega
  · rw [hL]
    simp
  · rintro e w' ⟨v, L, rfl, rfl, ho, hk⟩
    rw [hL] at ho
    exact ⟨v, rfl, ho, hk⟩
theorem pfOk_SENTBEFORE (c fg mp n lg sm : Nat) (hn : n < 48000) (d0 d1 d2 d3 : Int) (t : Nat) (ht : t = n + 719162) : PfOk c fg kSENTBEFORE (dTx n) (critV mp d0 d1 d2 d3 lg sm) (critV mp d0 d1 d2 (mnD d3 t) lg sm) := by
  intro w fo k cap hb h0 h1 hk hc hcm hne
  obtain ⟨y, m, d, _, hT, hd, he⟩ := date_of n hn
  rw [hT] at h1
  exact t_pfSENTBEFORE w c fg fo k cap y m d t mp lg sm d0 d1 d2 d3 hd (he.trans ht.symm) (by omega) hb h0 h1 hk hc hcm hne
theorem atom_SENTBEFORE : AtomOk kSENTBEFORE := atomOk_of _ (by decide) (by decide) (by intro x hx; simp [kSENTBEFORE] at hx; rcases hx with rfl | rfl | rfl | rfl | rfl | rfl | rfl | rfl | rfl | rfl <;> (unfold AtomCh; decide)) (by decide)
theorem txt_SENTBEFORE (X Y : List UInt8) : [83, 69, 78, 84, 66, 69, 70, 79, 82, 69, 32] ++ X ++ [32] ++ [83, 69, 78, 84, 66, 69, 70, 79, 82, 69, 32] ++ Y = joinS (flatF [(kSENTBEFORE, X), (kSENTBEFORE, Y)]) := by simp [joinS, flatF, kSENTBEFORE]
set_option maxRecDepth 100000 in
theorem crit_SENTBEFORE (w : World) (a b : Nat) (ha : a ≤ 46900) (hb : b ≤ 46900) (hF : First w) (hE : ∃ v, w.cell? ⟨17, 0, none⟩ = some v) :
    Calls Tryz.prog 7 #[.string (bs ([83, 69, 78, 84, 66, 69, 70, 79, 82, 69, 32] ++ dTx a ++ [32] ++ [83, 69, 78, 84, 66, 69, 70, 79, 82, 69, 32] ++ dTx b))] w fun e w' => ∃ v, e = .returned (.tuple #[v, .bool true]) ∧ w'.ownsRow w.heap.size 28 7 v 2 (critC 1 0 0 2 ++ critC 7 0 ((min a b : Nat) : Int) 1) ∧ Keep (fun _ => False) w w' := by
  obtain ⟨A, hA⟩ : ∃ A, A = a + 719162 := ⟨_, rfl⟩
  obtain ⟨B, hB⟩ : ∃ B, B = b + 719162 := ⟨_, rfl⟩
  have hmx : mnD (mnD 0 (A : Int)) (B : Int) = ((min A B : Nat) : Int) := by
    rw [show mnD 0 (A : Int) = (A : Int) from if_pos (.inl rfl)]
    unfold mnD
    split <;> omega
  have hL : dayL 0 [0, 0, 0, ((min A B : Nat) : Int)] ++ numT 13 0 ++ numT 14 0 = [(7, 0, ((min a b : Nat) : Int))] := by
    simp only [dayL, dayT, numT]
    rw [if_neg (show ¬ ((min A B : Nat) : Int) = 0 by omega)]
    simp
    try omega
  refine (t_CritOf w ([83, 69, 78, 84, 66, 69, 70, 79, 82, 69, 32] ++ dTx a ++ [32] ++ [83, 69, 78, 84, 66, 69, 70, 79, 82, 69, 32] ++ dTx b) [(kSENTBEFORE, dTx a), (kSENTBEFORE, dTx b)] 0 0 0 ((min A B : Nat) : Int) 0 0 ?_ ?_ (by simp) (by simp) ?_ (fun c fg mp => ⟨_, pfOk_SENTBEFORE _ _ _ a _ _ (by omega) _ _ _ _ A hA, _, pfOk_SENTBEFORE _ _ _ b _ _ (by omega) _ _ _ _ B hB, by rw [hmx]; rfl⟩) hF hE ?_ ?_).mono ?_
  · exact txt_SENTBEFORE _ _
  · intro x hx
    simp only [flatF, List.mem_cons, List.not_mem_nil, or_false] at hx
    rcases hx with rfl | rfl | rfl | rfl
    · exact atom_SENTBEFORE
    · exact dTx_atom a (by omega)
    · exact atom_SENTBEFORE
    · exact dTx_atom b (by omega)
  · have := (dTx_len a (by omega)).2; have := (dTx_len b (by omega)).2
    simp only [List.length_append, List.length_cons, List.length_nil]
    omega
  · intro d hd
    simp only [List.mem_cons, List.not_mem_nil, or_false] at hd
    rcases hd with rfl | rfl | rfl | rfl <;> omega
  · rw [hL]
    simp
  · rintro e w' ⟨v, L, rfl, rfl, ho, hk⟩
    rw [hL] at ho
    exact ⟨v, rfl, ho, hk⟩
theorem pfOk_ON (c fg mp n lg sm : Nat) (hn : n < 48000) (d0 d1 d2 d3 : Int) (t : Nat) (ht : t = n + 719162) : PfOk c fg kON (dTx n) (critV mp d0 d1 d2 d3 lg sm) (critV mp t (t + 1) d2 d3 lg sm) := by
  intro w fo k cap hb h0 h1 hk hc hcm hne
  obtain ⟨y, m, d, _, hT, hd, he⟩ := date_of n hn
  rw [hT] at h1
  exact t_pfON w c fg fo k cap y m d t mp lg sm d0 d1 d2 d3 hd (he.trans ht.symm) (by omega) hb h0 h1 hk hc hcm hne
theorem atom_ON : AtomOk kON := atomOk_of _ (by decide) (by decide) (by intro x hx; simp [kON] at hx; rcases hx with rfl | rfl <;> (unfold AtomCh; decide)) (by decide)
theorem txt_ON (X : List UInt8) : [79, 78, 32] ++ X = joinS (flatF [(kON, X)]) := by simp [joinS, flatF, kON]
set_option maxRecDepth 100000 in
theorem crit_ON (w : World) (a : Nat) (ha : a ≤ 46900) (hF : First w) (hE : ∃ v, w.cell? ⟨17, 0, none⟩ = some v) :
    Calls Tryz.prog 7 #[.string (bs ([79, 78, 32] ++ dTx a))] w fun e w' => ∃ v, e = .returned (.tuple #[v, .bool true]) ∧ w'.ownsRow w.heap.size 28 7 v 3 (critC 1 0 0 3 ++ (critC 4 0 a 1 ++ critC 5 0 ((a : Int) + 1) 1)) ∧ Keep (fun _ => False) w w' := by
  obtain ⟨A, hA⟩ : ∃ A, A = a + 719162 := ⟨_, rfl⟩
  have hL : dayL 0 [(A : Int), ((A : Int) + 1), 0, 0] ++ numT 13 0 ++ numT 14 0 = [(4, 0, (a : Int)), (5, 0, (a : Int) + 1)] := by
    simp only [dayL, dayT, numT]
    rw [if_neg (show ¬ (A : Int) = 0 by omega), if_neg (show ¬ ((A : Int) + 1) = 0 by omega)]
    simp
    try omega
  refine (t_CritOf w ([79, 78, 32] ++ dTx a) [(kON, dTx a)] (A : Int) ((A : Int) + 1) 0 0 0 0 ?_ ?_ (by simp) (by simp) ?_ (fun c fg mp => ⟨_, pfOk_ON _ _ _ a _ _ (by omega) _ _ _ _ A hA, rfl⟩) hF hE ?_ ?_).mono ?_
  · exact txt_ON _
  · intro x hx
    simp only [flatF, List.mem_cons, List.not_mem_nil, or_false] at hx
    rcases hx with rfl | rfl
    · exact atom_ON
    · exact dTx_atom a (by omega)
  · have := (dTx_len a (by omega)).2
    simp only [List.length_append, List.length_cons, List.length_nil]
    omega
  · intro d hd
    simp only [List.mem_cons, List.not_mem_nil, or_false] at hd
    rcases hd with rfl | rfl | rfl | rfl <;> omega
  · rw [hL]
    simp
  · rintro e w' ⟨v, L, rfl, rfl, ho, hk⟩
    rw [hL] at ho
    exact ⟨v, rfl, ho, hk⟩
theorem pfOk_SENTON (c fg mp n lg sm : Nat) (hn : n < 48000) (d0 d1 d2 d3 : Int) (t : Nat) (ht : t = n + 719162) : PfOk c fg kSENTON (dTx n) (critV mp d0 d1 d2 d3 lg sm) (critV mp d0 d1 t (t + 1) lg sm) := by
  intro w fo k cap hb h0 h1 hk hc hcm hne
  obtain ⟨y, m, d, _, hT, hd, he⟩ := date_of n hn
  rw [hT] at h1
  exact t_pfSENTON w c fg fo k cap y m d t mp lg sm d0 d1 d2 d3 hd (he.trans ht.symm) (by omega) hb h0 h1 hk hc hcm hne
theorem atom_SENTON : AtomOk kSENTON := atomOk_of _ (by decide) (by decide) (by intro x hx; simp [kSENTON] at hx; rcases hx with rfl | rfl | rfl | rfl | rfl | rfl <;> (unfold AtomCh; decide)) (by decide)
theorem txt_SENTON (X : List UInt8) : [83, 69, 78, 84, 79, 78, 32] ++ X = joinS (flatF [(kSENTON, X)]) := by simp [joinS, flatF, kSENTON]
set_option maxRecDepth 100000 in
theorem crit_SENTON (w : World) (a : Nat) (ha : a ≤ 46900) (hF : First w) (hE : ∃ v, w.cell? ⟨17, 0, none⟩ = some v) :
    Calls Tryz.prog 7 #[.string (bs ([83, 69, 78, 84, 79, 78, 32] ++ dTx a))] w fun e w' => ∃ v, e = .returned (.tuple #[v, .bool true]) ∧ w'.ownsRow w.heap.size 28 7 v 3 (critC 1 0 0 3 ++ (critC 6 0 a 1 ++ critC 7 0 ((a : Int) + 1) 1)) ∧ Keep (fun _ => False) w w' := by
  obtain ⟨A, hA⟩ : ∃ A, A = a + 719162 := ⟨_, rfl⟩
  have hL : dayL 0 [0, 0, (A : Int), ((A : Int) + 1)] ++ numT 13 0 ++ numT 14 0 = [(6, 0, (a : Int)), (7, 0, (a : Int) + 1)] := by
    simp only [dayL, dayT, numT]
    rw [if_neg (show ¬ (A : Int) = 0 by omega), if_neg (show ¬ ((A : Int) + 1) = 0 by omega)]
    simp
    try omega
  refine (t_CritOf w ([83, 69, 78, 84, 79, 78, 32] ++ dTx a) [(kSENTON, dTx a)] 0 0 (A : Int) ((A : Int) + 1) 0 0 ?_ ?_ (by simp) (by simp) ?_ (fun c fg mp => ⟨_, pfOk_SENTON _ _ _ a _ _ (by omega) _ _ _ _ A hA, rfl⟩) hF hE ?_ ?_).mono ?_
  · exact txt_SENTON _
  · intro x hx
    simp only [flatF, List.mem_cons, List.not_mem_nil, or_false] at hx
    rcases hx with rfl | rfl
    · exact atom_SENTON
    · exact dTx_atom a (by omega)
  · have := (dTx_len a (by omega)).2
    simp only [List.length_append, List.length_cons, List.length_nil]
    omega
  · intro d hd
    simp only [List.mem_cons, List.not_mem_nil, or_false] at hd
    rcases hd with rfl | rfl | rfl | rfl <;> omega
  · rw [hL]
    simp
  · rintro e w' ⟨v, L, rfl, rfl, ho, hk⟩
    rw [hL] at ho
    exact ⟨v, rfl, ho, hk⟩
end Go.Proofs.YtlnbikcfjnloaaaGreatDoor

namespace Go.Proofs.YtlnbikcfjnloaaaGreatDoor
set_option linter.unusedVariables false
set_option linter.unusedSimpArgs false
open Go.RowKit

theorem getD_at (l : List Value) (i : Nat) (hi : i < l.length) : l.toArray[i]? = some (l.getD i default) := by
  simp [List.getD, hi]
set_option maxRecDepth 100000 in
/-- 'one': CAll ahead of criteria. -/
theorem t_one (w : World) (g n cap : Nat) (news : List Value) (hl : news.length = n * 7) (hn : n < 100) (hu : ∀ i, i < news.length → w.cell? ⟨g, i, none⟩ = some (news.getD i default)) (h1 : ∀ u ∈ news, u.oneCell' = true) (m : Nat) (hm : 1 + n = m) :
    Calls Tryz.prog 6 #[.slice (some ⟨g, 0, none⟩) n cap] w fun e w' => ∃ v, e = .returned v ∧ w'.ownsRow w.heap.size 28 7 v m (critC 1 0 0 (m : Int) ++ news) ∧ Keep (fun _ => False) w w' := by
  have hgl : 0 < n → g < w.heap.size := fun h => cell_lt (hu 0 (by omega))
  have HU := Lib.hid hu
  have HL := Lib.hid hl
  have H1 := Lib.hid h1
  clear hu hl h1
  go_enter Tryz.func6, Tryz.ntmps6
  go_wp2_with (at_builtin; refine wp_appS Tryz.elemC (.tmp 7) (.tmp 8) rfl rfl w.heap.size (.slice (some ⟨w.heap.size, 0, none⟩) 1 1) 1 n cap (critC 1 0 0 (1 + (n : Int))) rfl (ownS_new w w.heap.size 28 (critC 1 0 0 (1 + (n : Int))) (Nat.le_refl _) rfl) g news rfl HL.out (fun i hi => by rw [World.cell?_alloc_lt _ _ ⟨g, i, none⟩ (hgl (by have := HL.out; omega))]; exact HU.out i hi) H1.out (by omega) (by simp) ?_; intro v9 w9 ho9 hk9 _; have HO9 := Lib.hid ho9; have HK9 := Lib.hid hk9; clear ho9 hk9)
  go_ret
  have ho := HO9.out
  rw [hm, show (1 + (n : Int)) = (m : Int) from by omega] at ho
  refine ⟨v9, rfl, ho, ?_⟩
  exact ((Keep.refl (fun _ => False) w).alloc _).trans' HK9.out (fun i hi h => absurd h (by omega))

set_option maxRecDepth 100000 in
set_option maxHeartbeats 2000000 in
theorem t_dates (w : World) (a b : Nat) (sent : Bool) (ha : a < 65536) (hb : b < 65536) (hF : First w) (hE : ∃ v, w.cell? ⟨17, 0, none⟩ = some v) :
    Calls Tryz.prog 3 #[.int .u16 a, .int .u16 b, .bool sent] w fun e w' => e = .returned (.bool true) ∧ Keep (fun _ => False) w w' := by
  by_cases ha1 : 46900 < a
  · have hx : (46900 : Int) < (a : Int) := by omega
    clear hF hE
    go_enter Tryz.func3, Tryz.ntmps3
    go_wp2
    exact bodyPost_ret (v := .bool true) (by simp [results, Tryz.results3, go_sem]) rfl ⟨rfl, Keep.refl _ _⟩
  have hx : ¬ (46900 : Int) < (a : Int) := by omega
  by_cases hb1 : 46900 < b
  · have hy : (46900 : Int) < (b : Int) := by omega
    clear hF hE
    go_enter Tryz.func3, Tryz.ntmps3
    go_wp2
    exact bodyPost_ret (v := .bool true) (by simp [results, Tryz.results3, go_sem]) rfl ⟨rfl, Keep.refl _ _⟩
  have hy : ¬ (46900 : Int) < (b : Int) := by omega
  by_cases hab : a = b
  · subst hab
    clear hF hE
    go_enter Tryz.func3, Tryz.ntmps3
    go_wp2
    exact bodyPost_ret (v := .bool true) (by simp [results, Tryz.results3, go_sem]) rfl ⟨rfl, Keep.refl _ _⟩
  have hz : ((a : Int) == (b : Int)) = false := by rw [beq_eq_false_iff_ne]; omega
  have HF := Lib.hid hF
  have HE := Lib.hid hE
  clear hF hE
  have hsz : ∀ l, (bs l).size = l.length := bs_size
  have hla := dTx_len a (by omega)
  have hlb := dTx_len b (by omega)
  obtain ⟨vE, hvE⟩ := HE.out
  have hlE : 17 < w.heap.size := cell_lt hvE
  have hlF : 11 < w.heap.size := cell_lt (HF.out 0 (by omega))
  have hFE : ∀ W, Keep (fun _ => False) w W → First W ∧ ∃ v, W.cell? ⟨17, 0, none⟩ = some v := fun W h => ⟨fun x hx => (h.cellOf hlF id).trans (HF.out x hx), vE, (h.cellOf hlE id).trans hvE⟩
  have HFE := Lib.hid hFE
  clear hFE hvE hlE hlF
  cases sent
  · obtain ⟨T1, hT1⟩ : ∃ T, T = [83, 73, 78, 67, 69, 32] ++ dTx a ++ [32] ++ [83, 73, 78, 67, 69, 32] ++ dTx b := ⟨_, rfl⟩
    have e1 : (⟨#[83, 73, 78, 67, 69, 32]⟩ ++ bs (dTx a) ++ ⟨#[32]⟩ ++ ⟨#[83, 73, 78, 67, 69, 32]⟩ ++ bs (dTx b) : ByteArray) = bs T1 := by rw [hT1, ← bs_def [83, 73, 78, 67, 69, 32], ← bs_def [32], bs_app, bs_app, bs_app, bs_app]
    have E1 := Lib.hid e1
    have C1 := Lib.hid (fun W (hk : Keep (fun _ => False) w W) => (crit_SINCE W a b (by omega) (by omega) (HFE.out W hk).1 (HFE.out W hk).2))
    rw [← hT1] at C1
    clear hT1 e1
    obtain ⟨T2, hT2⟩ : ∃ T, T = [66, 69, 70, 79, 82, 69, 32] ++ dTx a ++ [32] ++ [66, 69, 70, 79, 82, 69, 32] ++ dTx b := ⟨_, rfl⟩
    have e2 : (⟨#[66, 69, 70, 79, 82, 69, 32]⟩ ++ bs (dTx a) ++ ⟨#[32]⟩ ++ ⟨#[66, 69, 70, 79, 82, 69, 32]⟩ ++ bs (dTx b) : ByteArray) = bs T2 := by rw [hT2, ← bs_def [66, 69, 70, 79, 82, 69, 32], ← bs_def [32], bs_app, bs_app, bs_app, bs_app]
    have E2 := Lib.hid e2
    have C2 := Lib.hid (fun W (hk : Keep (fun _ => False) w W) => (crit_BEFORE W a b (by omega) (by omega) (HFE.out W hk).1 (HFE.out W hk).2))
    rw [← hT2] at C2
    clear hT2 e2
    obtain ⟨T3, hT3⟩ : ∃ T, T = [79, 78, 32] ++ dTx a := ⟨_, rfl⟩
    have e3 : (⟨#[79, 78, 32]⟩ ++ bs (dTx a) : ByteArray) = bs T3 := by rw [hT3, ← bs_def [79, 78, 32], bs_app]
    have E3 := Lib.hid e3
    have C3 := Lib.hid (fun W (hk : Keep (fun _ => False) w W) => (crit_ON W a (by omega) (HFE.out W hk).1 (HFE.out W hk).2))
    rw [← hT3] at C3
    clear hT3 e3
    go_enter Tryz.func3, Tryz.ntmps3
    go_wp2_with (fail)
    refine (t_date a (by omega) _).mono ?_
    rintro e w1 ⟨rfl, hk1⟩
    have HK1 := Lib.hid hk1
    clear hk1
    go_wp2_with (fail)
    refine (t_date b (by omega) _).mono ?_
    rintro e w2 ⟨rfl, hk2⟩
    have HK2 := Lib.hid (HK1.out.trans hk2)
    clear hk2
    go_wp2_with (fail)
    rw [E1.out]
    refine (C1.out w2 HK2.out).mono ?_
    rintro e w3 ⟨v, rfl, ho, hk⟩
    obtain ⟨g1, cap1, rfl, -, hg, hcap, hc⟩ := ownS_slice ho (by decide)
    have HC1 := Lib.hid (And.intro hg (And.intro hcap hc))
    have HQ3 := Lib.hid hk
    have HK3 := Lib.hid (HK2.out.trans hk)
    clear ho hk hg hcap hc
    go_wp2_with (fail)
    rw [E2.out]
    refine (C2.out w3 HK3.out).mono ?_
    rintro e w4 ⟨v, rfl, ho, hk⟩
    obtain ⟨g2, cap2, rfl, -, hg, hcap, hc⟩ := ownS_slice ho (by decide)
    have HC2 := Lib.hid (And.intro hg (And.intro hcap hc))
    have HQ4 := Lib.hid hk
    have HK4 := Lib.hid (HK3.out.trans hk)
    clear ho hk hg hcap hc
    go_wp2_with (fail)
    rw [E3.out]
    refine (C3.out w4 HK4.out).mono ?_
    rintro e w5 ⟨v, rfl, ho, hk⟩
    obtain ⟨g3, cap3, rfl, -, hg, hcap, hc⟩ := ownS_slice ho (by decide)
    have HC3 := Lib.hid (And.intro hg (And.intro hcap hc))
    have HQ5 := Lib.hid hk
    have HK5 := Lib.hid (HK4.out.trans hk)
    clear ho hk hg hcap hc
    have D3 := Lib.hid HC3.out
    have D2 := Lib.hid (show g2 < w5.heap.size ∧ 2 ≤ cap2 ∧ ∀ i, i < 2 * 7 → w5.cell? ⟨g2, i, none⟩ = some ((critC 1 0 0 2 ++ critC 5 0 ((min a b : Nat) : Int) 1).getD i default) from ⟨Nat.lt_of_lt_of_le HC2.out.1 HQ5.out.size, HC2.out.2.1, fun i hi => (HQ5.out.cellOf HC2.out.1 id).trans (HC2.out.2.2 i hi)⟩)
    have D1 := Lib.hid (show g1 < w5.heap.size ∧ 2 ≤ cap1 ∧ ∀ i, i < 2 * 7 → w5.cell? ⟨g1, i, none⟩ = some ((critC 1 0 0 2 ++ critC 4 0 ((max a b : Nat) : Int) 1).getD i default) from ⟨Nat.lt_of_lt_of_le HC1.out.1 (HQ4.out.trans HQ5.out).size, HC1.out.2.1, fun i hi => ((HQ4.out.trans HQ5.out).cellOf HC1.out.1 id).trans (HC1.out.2.2 i hi)⟩)
    have HR5 := Lib.hid (Keep.refl (fun _ => False) w5)
    have hI1 : max (a : Int) b = ((max a b : Nat) : Int) := by omega
    have hI2 : min (a : Int) b = ((min a b : Nat) : Int) := by omega
    have HI := Lib.hid (And.intro hI1 hI2)
    clear hI1 hI2
    go_wp2_with (fail)
    rw [HI.out.1]
    have hn := Blk.new w5 (critC 4 0 ((max a b : Nat) : Int) 1).toArray 28
    refine (t_one (w5.alloc (.cells (critC 4 0 ((max a b : Nat) : Int) 1).toArray 28)) w5.heap.size 1 1 (critC 4 0 ((max a b : Nat) : Int) 1) rfl (by decide) (fun i hi => ?_) (fun u hu => ?_) 2 rfl).mono ?_
    · rw [hn.cell i]
      exact getD_at _ i hi
    · simp only [critC, List.mem_append, List.mem_cons, List.not_mem_nil, or_false] at hu
      rcases hu with rfl | rfl | rfl | rfl | rfl | rfl | rfl <;> rfl
    rintro e w6 ⟨v, rfl, ho, hk⟩
    obtain ⟨g4, cap4, rfl, -, hg, hcap, hc⟩ := ownS_slice ho (by decide)
    have HC4 := Lib.hid (And.intro hg (And.intro hcap hc))
    have HR6 := Lib.hid ((HR5.out.alloc (.cells (critC 4 0 ((max a b : Nat) : Int) 1).toArray 28)).trans hk)
    clear ho hk hg hcap hc hn
    go_wp2_with (fail)
    refine (t_same w6 [(1, 0, 0, 2), (4, 0, ((max a b : Nat) : Int), 1)] 2 g1 g4 cap1 cap4 rfl (by decide) D1.out.2.1 HC4.out.2.1 (Nat.lt_of_lt_of_le D1.out.1 HR6.out.size) HC4.out.1 (fun i hi => ?_) (fun i hi => ?_)).mono ?_
    · rw [HR6.out.cellOf D1.out.1 id, D1.out.2.2 i (by omega)]
      rfl
    · rw [HC4.out.2.2 i (by omega)]
      rfl
    rintro e w7 ⟨rfl, hk⟩
    have HR7 := Lib.hid (HR6.out.trans hk)
    clear hk
    go_wp2_with (fail)
    rw [HI.out.2]
    have hn := Blk.new w7 (critC 5 0 ((min a b : Nat) : Int) 1).toArray 28
    refine (t_one (w7.alloc (.cells (critC 5 0 ((min a b : Nat) : Int) 1).toArray 28)) w7.heap.size 1 1 (critC 5 0 ((min a b : Nat) : Int) 1) rfl (by decide) (fun i hi => ?_) (fun u hu => ?_) 2 rfl).mono ?_
    · rw [hn.cell i]
      exact getD_at _ i hi
    · simp only [critC, List.mem_append, List.mem_cons, List.not_mem_nil, or_false] at hu
      rcases hu with rfl | rfl | rfl | rfl | rfl | rfl | rfl <;> rfl
    rintro e w8 ⟨v, rfl, ho, hk⟩
    obtain ⟨g5, cap5, rfl, -, hg, hcap, hc⟩ := ownS_slice ho (by decide)
    have HC5 := Lib.hid (And.intro hg (And.intro hcap hc))
    have HR8 := Lib.hid ((HR7.out.alloc (.cells (critC 5 0 ((min a b : Nat) : Int) 1).toArray 28)).trans hk)
    clear ho hk hg hcap hc hn
    go_wp2_with (fail)
    refine (t_same w8 [(1, 0, 0, 2), (5, 0, ((min a b : Nat) : Int), 1)] 2 g2 g5 cap2 cap5 rfl (by decide) D2.out.2.1 HC5.out.2.1 (Nat.lt_of_lt_of_le D2.out.1 HR8.out.size) HC5.out.1 (fun i hi => ?_) (fun i hi => ?_)).mono ?_
    · rw [HR8.out.cellOf D2.out.1 id, D2.out.2.2 i (by omega)]
      rfl
    · rw [HC5.out.2.2 i (by omega)]
      rfl
    rintro e w9 ⟨rfl, hk⟩
    have HR9 := Lib.hid (HR8.out.trans hk)
    clear hk
    go_wp2_with (fail)
    have hn := Blk.new w9 ((critC 4 0 (a : Int) 1 ++ critC 5 0 ((a : Int) + 1) 1)).toArray 28
    refine (t_one (w9.alloc (.cells ((critC 4 0 (a : Int) 1 ++ critC 5 0 ((a : Int) + 1) 1)).toArray 28)) w9.heap.size 2 2 ((critC 4 0 (a : Int) 1 ++ critC 5 0 ((a : Int) + 1) 1)) rfl (by decide) (fun i hi => ?_) (fun u hu => ?_) 3 rfl).mono ?_
    · rw [hn.cell i]
      exact getD_at _ i hi
    · simp only [critC, List.mem_append, List.mem_cons, List.not_mem_nil, or_false] at hu
      rcases hu with (rfl | rfl | rfl | rfl | rfl | rfl | rfl) | (rfl | rfl | rfl | rfl | rfl | rfl | rfl) <;> rfl
    rintro e w10 ⟨v, rfl, ho, hk⟩
    obtain ⟨g6, cap6, rfl, -, hg, hcap, hc⟩ := ownS_slice ho (by decide)
    have HC6 := Lib.hid (And.intro hg (And.intro hcap hc))
    have HR10 := Lib.hid ((HR9.out.alloc (.cells ((critC 4 0 (a : Int) 1 ++ critC 5 0 ((a : Int) + 1) 1)).toArray 28)).trans hk)
    clear ho hk hg hcap hc hn
    go_wp2_with (fail)
    refine (t_same w10 [(1, 0, 0, 3), (4, 0, (a : Int), 1), (5, 0, (a : Int) + 1, 1)] 3 g3 g6 cap3 cap6 rfl (by decide) D3.out.2.1 HC6.out.2.1 (Nat.lt_of_lt_of_le D3.out.1 HR10.out.size) HC6.out.1 (fun i hi => ?_) (fun i hi => ?_)).mono ?_
    · rw [HR10.out.cellOf D3.out.1 id, D3.out.2.2 i (by omega)]
      rfl
    · rw [HC6.out.2.2 i (by omega)]
      rfl
    rintro e w11 ⟨rfl, hk⟩
    have HR11 := Lib.hid (HR10.out.trans hk)
    clear hk
    go_wp2
    exact bodyPost_ret (v := .bool true) (by simp [results, Tryz.results3, go_sem]) rfl ⟨rfl, HK5.out.trans HR11.out⟩
  · obtain ⟨T1, hT1⟩ : ∃ T, T = [83, 69, 78, 84, 83, 73, 78, 67, 69, 32] ++ dTx a ++ [32] ++ [83, 69, 78, 84, 83, 73, 78, 67, 69, 32] ++ dTx b := ⟨_, rfl⟩
    have e1 : (⟨#[83, 69, 78, 84, 83, 73, 78, 67, 69, 32]⟩ ++ bs (dTx a) ++ ⟨#[32]⟩ ++ ⟨#[83, 69, 78, 84, 83, 73, 78, 67, 69, 32]⟩ ++ bs (dTx b) : ByteArray) = bs T1 := by rw [hT1, ← bs_def [83, 69, 78, 84, 83, 73, 78, 67, 69, 32], ← bs_def [32], bs_app, bs_app, bs_app, bs_app]
    have E1 := Lib.hid e1
    have C1 := Lib.hid (fun W (hk : Keep (fun _ => False) w W) => (crit_SENTSINCE W a b (by omega) (by omega) (HFE.out W hk).1 (HFE.out W hk).2))
    rw [← hT1] at C1
    clear hT1 e1
    obtain ⟨T2, hT2⟩ : ∃ T, T = [83, 69, 78, 84, 66, 69, 70, 79, 82, 69, 32] ++ dTx a ++ [32] ++ [83, 69, 78, 84, 66, 69, 70, 79, 82, 69, 32] ++ dTx b := ⟨_, rfl⟩
    have e2 : (⟨#[83, 69, 78, 84, 66, 69, 70, 79, 82, 69, 32]⟩ ++ bs (dTx a) ++ ⟨#[32]⟩ ++ ⟨#[83, 69, 78, 84, 66, 69, 70, 79, 82, 69, 32]⟩ ++ bs (dTx b) : ByteArray) = bs T2 := by rw [hT2, ← bs_def [83, 69, 78, 84, 66, 69, 70, 79, 82, 69, 32], ← bs_def [32], bs_app, bs_app, bs_app, bs_app]
    have E2 := Lib.hid e2
    have C2 := Lib.hid (fun W (hk : Keep (fun _ => False) w W) => (crit_SENTBEFORE W a b (by omega) (by omega) (HFE.out W hk).1 (HFE.out W hk).2))
    rw [← hT2] at C2
    clear hT2 e2
    obtain ⟨T3, hT3⟩ : ∃ T, T = [83, 69, 78, 84, 79, 78, 32] ++ dTx a := ⟨_, rfl⟩
    have e3 : (⟨#[83, 69, 78, 84, 79, 78, 32]⟩ ++ bs (dTx a) : ByteArray) = bs T3 := by rw [hT3, ← bs_def [83, 69, 78, 84, 79, 78, 32], bs_app]
    have E3 := Lib.hid e3
    have C3 := Lib.hid (fun W (hk : Keep (fun _ => False) w W) => (crit_SENTON W a (by omega) (HFE.out W hk).1 (HFE.out W hk).2))
    rw [← hT3] at C3
    clear hT3 e3
    go_enter Tryz.func3, Tryz.ntmps3
    go_wp2_with (fail)
    refine (t_date a (by omega) _).mono ?_
    rintro e w1 ⟨rfl, hk1⟩
    have HK1 := Lib.hid hk1
    clear hk1
    go_wp2_with (fail)
    refine (t_date b (by omega) _).mono ?_
    rintro e w2 ⟨rfl, hk2⟩
    have HK2 := Lib.hid (HK1.out.trans hk2)
    clear hk2
    go_wp2_with (fail)
    rw [E1.out]
    refine (C1.out w2 HK2.out).mono ?_
    rintro e w3 ⟨v, rfl, ho, hk⟩
    obtain ⟨g1, cap1, rfl, -, hg, hcap, hc⟩ := ownS_slice ho (by decide)
    have HC1 := Lib.hid (And.intro hg (And.intro hcap hc))
    have HQ3 := Lib.hid hk
    have HK3 := Lib.hid (HK2.out.trans hk)
    clear ho hk hg hcap hc
    go_wp2_with (fail)
    rw [E2.out]
    refine (C2.out w3 HK3.out).mono ?_
    rintro e w4 ⟨v, rfl, ho, hk⟩
    obtain ⟨g2, cap2, rfl, -, hg, hcap, hc⟩ := ownS_slice ho (by decide)
    have HC2 := Lib.hid (And.intro hg (And.intro hcap hc))
    have HQ4 := Lib.hid hk
    have HK4 := Lib.hid (HK3.out.trans hk)
    clear ho hk hg hcap hc
    go_wp2_with (fail)
    rw [E3.out]
    refine (C3.out w4 HK4.out).mono ?_
    rintro e w5 ⟨v, rfl, ho, hk⟩
    obtain ⟨g3, cap3, rfl, -, hg, hcap, hc⟩ := ownS_slice ho (by decide)
    have HC3 := Lib.hid (And.intro hg (And.intro hcap hc))
    have HQ5 := Lib.hid hk
    have HK5 := Lib.hid (HK4.out.trans hk)
    clear ho hk hg hcap hc
    have D3 := Lib.hid HC3.out
    have D2 := Lib.hid (show g2 < w5.heap.size ∧ 2 ≤ cap2 ∧ ∀ i, i < 2 * 7 → w5.cell? ⟨g2, i, none⟩ = some ((critC 1 0 0 2 ++ critC 7 0 ((min a b : Nat) : Int) 1).getD i default) from ⟨Nat.lt_of_lt_of_le HC2.out.1 HQ5.out.size, HC2.out.2.1, fun i hi => (HQ5.out.cellOf HC2.out.1 id).trans (HC2.out.2.2 i hi)⟩)
    have D1 := Lib.hid (show g1 < w5.heap.size ∧ 2 ≤ cap1 ∧ ∀ i, i < 2 * 7 → w5.cell? ⟨g1, i, none⟩ = some ((critC 1 0 0 2 ++ critC 6 0 ((max a b : Nat) : Int) 1).getD i default) from ⟨Nat.lt_of_lt_of_le HC1.out.1 (HQ4.out.trans HQ5.out).size, HC1.out.2.1, fun i hi => ((HQ4.out.trans HQ5.out).cellOf HC1.out.1 id).trans (HC1.out.2.2 i hi)⟩)
    have HR5 := Lib.hid (Keep.refl (fun _ => False) w5)
    have hI1 : max (a : Int) b = ((max a b : Nat) : Int) := by omega
    have hI2 : min (a : Int) b = ((min a b : Nat) : Int) := by omega
    have HI := Lib.hid (And.intro hI1 hI2)
    clear hI1 hI2
    go_wp2_with (fail)
    rw [HI.out.1]
    have hn := Blk.new w5 (critC 6 0 ((max a b : Nat) : Int) 1).toArray 28
    refine (t_one (w5.alloc (.cells (critC 6 0 ((max a b : Nat) : Int) 1).toArray 28)) w5.heap.size 1 1 (critC 6 0 ((max a b : Nat) : Int) 1) rfl (by decide) (fun i hi => ?_) (fun u hu => ?_) 2 rfl).mono ?_
    · rw [hn.cell i]
      exact getD_at _ i hi
    · simp only [critC, List.mem_append, List.mem_cons, List.not_mem_nil, or_false] at hu
      rcases hu with rfl | rfl | rfl | rfl | rfl | rfl | rfl <;> rfl
    rintro e w6 ⟨v, rfl, ho, hk⟩
    obtain ⟨g4, cap4, rfl, -, hg, hcap, hc⟩ := ownS_slice ho (by decide)
    have HC4 := Lib.hid (And.intro hg (And.intro hcap hc))
    have HR6 := Lib.hid ((HR5.out.alloc (.cells (critC 6 0 ((max a b : Nat) : Int) 1).toArray 28)).trans hk)
    clear ho hk hg hcap hc hn
    go_wp2_with (fail)
    refine (t_same w6 [(1, 0, 0, 2), (6, 0, ((max a b : Nat) : Int), 1)] 2 g1 g4 cap1 cap4 rfl (by decide) D1.out.2.1 HC4.out.2.1 (Nat.lt_of_lt_of_le D1.out.1 HR6.out.size) HC4.out.1 (fun i hi => ?_) (fun i hi => ?_)).mono ?_
    · rw [HR6.out.cellOf D1.out.1 id, D1.out.2.2 i (by omega)]
      rfl
    · rw [HC4.out.2.2 i (by omega)]
      rfl
    rintro e w7 ⟨rfl, hk⟩
    have HR7 := Lib.hid (HR6.out.trans hk)
    clear hk
    go_wp2_with (fail)
    rw [HI.out.2]
    have hn := Blk.new w7 (critC 7 0 ((min a b : Nat) : Int) 1).toArray 28
    refine (t_one (w7.alloc (.cells (critC 7 0 ((min a b : Nat) : Int) 1).toArray 28)) w7.heap.size 1 1 (critC 7 0 ((min a b : Nat) : Int) 1) rfl (by decide) (fun i hi => ?_) (fun u hu => ?_) 2 rfl).mono ?_
    · rw [hn.cell i]
      exact getD_at _ i hi
    · simp only [critC, List.mem_append, List.mem_cons, List.not_mem_nil, or_false] at hu
      rcases hu with rfl | rfl | rfl | rfl | rfl | rfl | rfl <;> rfl
    rintro e w8 ⟨v, rfl, ho, hk⟩
    obtain ⟨g5, cap5, rfl, -, hg, hcap, hc⟩ := ownS_slice ho (by decide)
    have HC5 := Lib.hid (And.intro hg (And.intro hcap hc))
    have HR8 := Lib.hid ((HR7.out.alloc (.cells (critC 7 0 ((min a b : Nat) : Int) 1).toArray 28)).trans hk)
    clear ho hk hg hcap hc hn
    go_wp2_with (fail)
    refine (t_same w8 [(1, 0, 0, 2), (7, 0, ((min a b : Nat) : Int), 1)] 2 g2 g5 cap2 cap5 rfl (by decide) D2.out.2.1 HC5.out.2.1 (Nat.lt_of_lt_of_le D2.out.1 HR8.out.size) HC5.out.1 (fun i hi => ?_) (fun i hi => ?_)).mono ?_
    · rw [HR8.out.cellOf D2.out.1 id, D2.out.2.2 i (by omega)]
      rfl
    · rw [HC5.out.2.2 i (by omega)]
      rfl
    rintro e w9 ⟨rfl, hk⟩
    have HR9 := Lib.hid (HR8.out.trans hk)
    clear hk
    go_wp2_with (fail)
    have hn := Blk.new w9 ((critC 6 0 (a : Int) 1 ++ critC 7 0 ((a : Int) + 1) 1)).toArray 28
    refine (t_one (w9.alloc (.cells ((critC 6 0 (a : Int) 1 ++ critC 7 0 ((a : Int) + 1) 1)).toArray 28)) w9.heap.size 2 2 ((critC 6 0 (a : Int) 1 ++ critC 7 0 ((a : Int) + 1) 1)) rfl (by decide) (fun i hi => ?_) (fun u hu => ?_) 3 rfl).mono ?_
    · rw [hn.cell i]
      exact getD_at _ i hi
    · simp only [critC, List.mem_append, List.mem_cons, List.not_mem_nil, or_false] at hu
      rcases hu with (rfl | rfl | rfl | rfl | rfl | rfl | rfl) | (rfl | rfl | rfl | rfl | rfl | rfl | rfl) <;> rfl
    rintro e w10 ⟨v, rfl, ho, hk⟩
    obtain ⟨g6, cap6, rfl, -, hg, hcap, hc⟩ := ownS_slice ho (by decide)
    have HC6 := Lib.hid (And.intro hg (And.intro hcap hc))
    have HR10 := Lib.hid ((HR9.out.alloc (.cells ((critC 6 0 (a : Int) 1 ++ critC 7 0 ((a : Int) + 1) 1)).toArray 28)).trans hk)
    clear ho hk hg hcap hc hn
    go_wp2_with (fail)
    refine (t_same w10 [(1, 0, 0, 3), (6, 0, (a : Int), 1), (7, 0, (a : Int) + 1, 1)] 3 g3 g6 cap3 cap6 rfl (by decide) D3.out.2.1 HC6.out.2.1 (Nat.lt_of_lt_of_le D3.out.1 HR10.out.size) HC6.out.1 (fun i hi => ?_) (fun i hi => ?_)).mono ?_
    · rw [HR10.out.cellOf D3.out.1 id, D3.out.2.2 i (by omega)]
      rfl
    · rw [HC6.out.2.2 i (by omega)]
      rfl
    rintro e w11 ⟨rfl, hk⟩
    have HR11 := Lib.hid (HR10.out.trans hk)
    clear hk
    go_wp2
    exact bodyPost_ret (v := .bool true) (by simp [results, Tryz.results3, go_sem]) rfl ⟨rfl, HK5.out.trans HR11.out⟩
end Go.Proofs.YtlnbikcfjnloaaaGreatDoor
