/- FnSection answers true for every section and both letters' cases, and leaves its argument as it was: the tied card; the listed variables hold what the program's text lays. -/
import Derived.Test.YtanombfdfpfcoaaGreatDoorOwnF
import Derived.Test.YtanombfdfpfcoaaGreatDoorRows
import Derived.Test.YtanombfdfpfcoaaGreatDoorCards
import Derived.Test.YtanombfdfpfcoaaGreatDoorTie
import Derived.WalkKit
import Derived.ProofKit
import Derived.OpenShut
import Derived.SliceStrings
import Derived.Lib.SmallJoins
import Derived.Lib.LaidTab
import Derived.Stop.LaidErr
import Derived.PinnedBridge
import Derived.Lay
import Derived.LaidOnce
import Derived.SevenTiedAt
namespace Go.Proofs.YtanombfdfpfcoaaGreatDoor
set_option linter.unusedVariables false
set_option linter.unusedSimpArgs false
open Go.RowKit Go.Proofs.YtanombfdfpfcoaaGreatDoorW.PrintWords Go.Proofs.YtanombfdfpfcoaaGreatDoor.PFnSection

/-- A number as a cell. -/
def zI (n : Int) : Value := .int .i64 n
theorem Arg.up {B B2 : Nat} {w : World} {a : Option Addr} {n : Nat} {xs : List Value} (h : Arg B w a n xs) (hB : B ≤ B2) : Arg B2 w a n xs :=
  ⟨h.1, fun hn => let ⟨b, o, ha, hb, hc⟩ := h.2 hn; ⟨b, o, ha, Nat.lt_of_lt_of_le hb hB, hc⟩⟩
theorem Arg.ints {B : Nat} {w : World} {a : Option Addr} {n : Nat} {xs : List Int} (h : Arg B w a n (xs.map zI)) (hn : n ≤ 9223372036854775807) : Kd.C (Kd.int .i64) w a n xs := by
  refine Kd.C_of_reads (d := (0 : Int)) (h1 := fun _ => rfl) ⟨by simpa using h.1, hn, fun hp => ?_⟩
  obtain ⟨b, o, ha, _, hc⟩ := h.2 hp
  refine ⟨⟨b, o, none⟩, ha, fun j hj => ?_⟩
  have hx : j < xs.length := by have := h.1; rw [List.length_map] at this; omega
  rw [Go.WideShapes.add_plain, hc j hj]
  simp [List.getD, hx, zI]
theorem Arg.strs {B : Nat} {w : World} {a : Option Addr} {n : Nat} {xs : List (List UInt8)} (h : Arg B w a n (xs.map strV)) (hn : n ≤ 9223372036854775807) : Kd.C Kd.string w a n (xs.map bs) := by
  refine Kd.C_of_reads (d := ByteArray.empty) (h1 := fun _ => rfl) ⟨by simpa using h.1, hn, fun hp => ?_⟩
  obtain ⟨b, o, ha, _, hc⟩ := h.2 hp
  refine ⟨⟨b, o, none⟩, ha, fun j hj => ?_⟩
  have hx : j < xs.length := by have := h.1; rw [List.length_map] at this; omega
  rw [Go.WideShapes.add_plain, hc j hj]
  simp [List.getD, hx, strV]
/-- A row of the call's own as an argument. -/
theorem arg_of_own {w : World} {base : Nat} {e : TypeId} {v : Value} {n : Nat} {xs : List Value} (h : w.ownsRow base e 1 v n xs) :
    ∃ a c, v = .slice a n c ∧ n ≤ c ∧ Arg w.heap.size w a n xs := by
  by_cases hn : 0 < n
  · obtain ⟨g, cap, hv, _, hg, hl, hc, hcell, _⟩ := ownsRow_cells h hn
    exact ⟨_, cap, hv, hc, hl, fun _ => ⟨g, 0, rfl, hg, fun i hi => by rw [Nat.zero_add]; exact hcell i hi⟩⟩
  · obtain rfl : n = 0 := by omega
    obtain ⟨hl, ⟨hv, _⟩ | ⟨g, cap, cur, hv, _, hg, h1, _⟩⟩ := h
    · exact ⟨none, 0, hv, Nat.le_refl _, by simpa using hl, fun h => absurd h (Nat.lt_irrefl _)⟩
    · exact ⟨_, cap, hv, h1, by simpa using hl, fun h => absurd h (Nat.lt_irrefl _)⟩

section
variable {w : World} {B : Nat} {l0 : List Int} {part : List UInt8} {fs : List (List UInt8)} {nt pk : Bool} {l5 : List Int} {a0 a2 a5 : Option Addr} {c0 c2 c5 : Nat}
theorem t_fits8 {k : Nat} {b : Bool} (hb : laws_zzFits8.f k l0 (bs part) (fs.map bs) nt pk l5 = some b) (w : World) (h0 : Arg B w a0 l0.length (l0.map zI)) (h2 : Arg B w a2 fs.length (fs.map strV)) (h5 : Arg B w a5 l5.length (l5.map zI))
    (m0 : l0.length < 9223372036854775808) (m2 : fs.length < 9223372036854775808) (m5 : l5.length < 9223372036854775808) (hc0 : l0.length ≤ c0) (hc2 : fs.length ≤ c2) (hc5 : l5.length ≤ c5) :
    Calls Tryz.prog 4 #[.agg #[.slice a0 l0.length c0, .string (bs part), .slice a2 fs.length c2, .bool nt, .bool pk, .slice a5 l5.length c5]] w fun e w' => e = .returned (.bool b) ∧ Keep (fun _ => False) w w' := by
  have hm : (fs.map bs).length = fs.length := List.length_map _
  have h := laws_zzFits8.calls k a0 c0 l0 (bs part) a2 c2 (fs.map bs) nt pk a5 c5 l5 b w (h0.ints (by omega)) hc0 (by rw [hm]; exact h2.strs (by omega)) (by rw [hm]; exact hc2) (h5.ints (by omega)) hc5 hb
  rw [hm] at h
  exact h.mono fun e w' ⟨he, hb⟩ => ⟨he, Keep.of_below hb⟩
theorem t_right9 {k : Nat} {b : Bool} (hb : spec_SectionRight.f k l0 (bs part) (fs.map bs) nt pk l5 = some b) (w : World) (h0 : Arg B w a0 l0.length (l0.map zI)) (h2 : Arg B w a2 fs.length (fs.map strV)) (h5 : Arg B w a5 l5.length (l5.map zI))
    (m0 : l0.length < 9223372036854775808) (m2 : fs.length < 9223372036854775808) (m5 : l5.length < 9223372036854775808) (hc0 : l0.length ≤ c0) (hc2 : fs.length ≤ c2) (hc5 : l5.length ≤ c5) :
    Calls Tryz.prog 5 #[.agg #[.slice a0 l0.length c0, .string (bs part), .slice a2 fs.length c2, .bool nt, .bool pk, .slice a5 l5.length c5]] w fun e w' => e = .returned (.bool b) ∧ Keep (fun _ => False) w w' := by
  have hm : (fs.map bs).length = fs.length := List.length_map _
  have h := spec_SectionRight.calls k a0 c0 l0 (bs part) a2 c2 (fs.map bs) nt pk a5 c5 l5 b w (h0.ints (by omega)) hc0 (by rw [hm]; exact h2.strs (by omega)) (by rw [hm]; exact hc2) (h5.ints (by omega)) hc5 hb
  rw [hm] at h
  exact h.mono fun e w' ⟨he, hb⟩ => ⟨he, Keep.of_below hb⟩
theorem t_same9 {B' : Nat} {a0' a2' a5' : Option Addr} {c0' c2' c5' : Nat} (w : World) (h0 : Arg B w a0 l0.length (l0.map zI)) (h2 : Arg B w a2 fs.length (fs.map strV)) (h5 : Arg B w a5 l5.length (l5.map zI))
    (h0' : Arg B' w a0' l0.length (l0.map zI)) (h2' : Arg B' w a2' fs.length (fs.map strV)) (h5' : Arg B' w a5' l5.length (l5.map zI))
    (m0 : l0.length < 9223372036854775808) (m2 : fs.length < 9223372036854775808) (m5 : l5.length < 9223372036854775808) (hc0 : l0.length ≤ c0) (hc2 : fs.length ≤ c2) (hc5 : l5.length ≤ c5) (hc0' : l0.length ≤ c0') (hc2' : fs.length ≤ c2') (hc5' : l5.length ≤ c5') :
    Calls Tryz.prog 10 #[.agg #[.slice a0 l0.length c0, .string (bs part), .slice a2 fs.length c2, .bool nt, .bool pk, .slice a5 l5.length c5], .agg #[.slice a0' l0.length c0', .string (bs part), .slice a2' fs.length c2', .bool nt, .bool pk, .slice a5' l5.length c5']] w fun e w' => e = .returned (.bool true) ∧ Keep (fun _ => False) w w' := by
  have hm : (fs.map bs).length = fs.length := List.length_map _
  obtain ⟨k, hb⟩ := same9 l0 (bs part) (fs.map bs) nt pk l5 m0 (by rw [hm]; exact m2) m5
  have h := laws_sameSection9.calls k a0 c0 l0 (bs part) a2 c2 (fs.map bs) nt pk a5 c5 l5 a0' c0' l0 (bs part) a2' c2' (fs.map bs) nt pk a5' c5' l5 true w (h0.ints (by omega)) hc0 (by rw [hm]; exact h2.strs (by omega)) (by rw [hm]; exact hc2) (h5.ints (by omega)) hc5
    (h0'.ints (by omega)) hc0' (by rw [hm]; exact h2'.strs (by omega)) (by rw [hm]; exact hc2') (h5'.ints (by omega)) hc5' hb
  rw [hm] at h
  exact h.mono fun e w' ⟨he, hb⟩ => ⟨he, Keep.of_below hb⟩
end
end Go.Proofs.YtanombfdfpfcoaaGreatDoor

namespace Go.Proofs.YtanombfdfpfcoaaGreatDoor
set_option linter.unusedVariables false
set_option linter.unusedSimpArgs false
open Go.RowKit Go.Proofs.YtanombfdfpfcoaaGreatDoorW.PrintWords Go.Proofs.YtanombfdfpfcoaaGreatDoor.PFnSection

/-- The numbers of a path as integers. -/
def toI (l : List Nat) : List Int := l.map fun n : Nat => (n : Int)
theorem toI_len (l : List Nat) : (toI l).length = l.length := List.length_map _
theorem toI_cells (l : List Nat) : (toI l).map zI = l.map nI := by rw [toI, List.map_map]; rfl

theorem Blk.six {w : World} {b : Nat} {t : TypeId} {v0 v1 v2 v3 v4 v5 : Value} (h : Blk w b #[v0, v1, v2, v3, v4, v5] t) :
    w.cell? ⟨b, 0, none⟩ = some v0 ∧ w.cell? ⟨b, 1, none⟩ = some v1 ∧ w.cell? ⟨b, 2, none⟩ = some v2 ∧ w.cell? ⟨b, 3, none⟩ = some v3 ∧ w.cell? ⟨b, 4, none⟩ = some v4 ∧ w.cell? ⟨b, 5, none⟩ = some v5 :=
  ⟨h.cell 0, h.cell 1, h.cell 2, h.cell 3, h.cell 4, h.cell 5⟩

set_option maxRecDepth 100000 in
set_option maxHeartbeats 2000000 in
theorem t_fn (w : World) (sm : Bool) (path : List Nat) (part : List UInt8) (fs : List (List UInt8)) (nt pk : Bool) (o : Option (Nat × Nat)) (a0 a2 a5 : Option Addr) (c0 c2 c5 : Nat) (R : Right path part fs nt o)
    (h0 : Arg w.heap.size w a0 path.length (path.map nI)) (h2 : Arg w.heap.size w a2 fs.length (fs.map strV)) (h5 : Arg w.heap.size w a5 (partI o).length ((partI o).map nI)) (hc0 : path.length ≤ c0) (hc2 : fs.length ≤ c2) (hc5 : (partI o).length ≤ c5) (hpow : Pow w)
    {k8 k9 : Nat} (h8 : laws_zzFits8.f k8 (toI path) (bs part) (fs.map bs) nt pk (toI (partI o)) = some true) (h9 : spec_SectionRight.f k9 (toI path) (bs part) (fs.map bs) nt pk (toI (partI o)) = some true) :
    Calls Tryz.prog 3 #[.agg #[.slice a0 path.length c0, .string (bs part), .slice a2 fs.length c2, .bool nt, .bool pk, .slice a5 (partI o).length c5], .bool sm] w fun e w' => e = .returned (.bool true) ∧ Keep (fun _ => False) w w' := by
  have htl : ∀ l, (bs l).toList = l := bs_toList
  have e52 : (partI o).length ≤ 2 := by cases o with | none => decide | some ab => exact Nat.le_refl 2
  obtain ⟨⟨M⟩, hlow⟩ := mid_cases R
  have hml := midT_len path part fs nt R.pl (fun p hp => (R.ph p hp).2) R.fl R.f40 R.part10
  have hpl := R.pl
  have hfl := R.fl
  have hsl : (secT path part fs nt pk o).length < 100000 := by
    have h1 : (preT pk).length ≤ 9 := by cases pk <;> decide
    have h2 : (sufT o).length ≤ 17 := by
      cases o with
      | none => simp [sufT]
      | some ab =>
        obtain ⟨a, b⟩ := ab
        have ha := dig_len7 a (R.oo a b rfl).1
        have hb := dig_len7 b (R.oo a b rfl).2
        simp only [sufT, List.length_append, List.length_cons, List.length_nil]
        omega
    simp only [secT, List.length_append, List.length_cons]
    omega
  have hme : ∀ (l : List UInt8), ∀ b, b ∈ l → b ∈ l := fun _ _ h => h
  clear hme
  have c8 := fun (w1 : World) (k : Keep (fun _ => False) w w1) => t_fits8 (a0 := a0) (a2 := a2) (a5 := a5) (c0 := c0) (c2 := c2) (c5 := c5) (B := w.heap.size) h8 w1 (by rw [toI_len, toI_cells]; exact h0.keep k (Nat.le_refl _) (fun _ _ => id)) (h2.keep k (Nat.le_refl _) (fun _ _ => id)) (by rw [toI_len, toI_cells]; exact h5.keep k (Nat.le_refl _) (fun _ _ => id)) (by rw [toI_len]; omega) (by omega) (by rw [toI_len]; omega) (by rw [toI_len]; exact hc0) hc2 (by rw [toI_len]; exact hc5)
  have c9 := fun (w1 : World) (k : Keep (fun _ => False) w w1) => t_right9 (a0 := a0) (a2 := a2) (a5 := a5) (c0 := c0) (c2 := c2) (c5 := c5) (B := w.heap.size) h9 w1 (by rw [toI_len, toI_cells]; exact h0.keep k (Nat.le_refl _) (fun _ _ => id)) (h2.keep k (Nat.le_refl _) (fun _ _ => id)) (by rw [toI_len, toI_cells]; exact h5.keep k (Nat.le_refl _) (fun _ _ => id)) (by rw [toI_len]; omega) (by omega) (by rw [toI_len]; omega) (by rw [toI_len]; exact hc0) hc2 (by rw [toI_len]; exact hc5)
  simp only [toI_len] at c8 c9
  have cs := fun (w1 : World) (k : Keep (fun _ => False) w w1) => t_sectext w1 w.heap.size path part fs nt pk o a0 a2 a5 c0 c2 c5 R k.size (h0.keep k (Nat.le_refl _) (fun _ _ => id)) (h2.keep k (Nat.le_refl _) (fun _ _ => id)) (h5.keep k (Nat.le_refl _) (fun _ _ => id)) hc2 (hpow.keep k (fun _ _ => id))
  have ct := fun (w1 : World) (k : Keep (fun _ => False) w w1) => t_text9 w1 path part fs nt pk o a0 a2 a5 c0 c2 c5 R ((h0.keep k (Nat.le_refl _) (fun _ _ => id)).up k.size) ((h2.keep k (Nat.le_refl _) (fun _ _ => id)).up k.size) ((h5.keep k (Nat.le_refl _) (fun _ _ => id)).up k.size)
  have csm := fun (w1 : World) => t_smaller w1 (secT path part fs nt pk o) hsl
  have co1 := fun (w1 : World) => t_sectionOf w1 pk _ path part fs nt M o R.oo (secT path part fs nt pk o) rfl
  have co2 : fs = [] → ∀ w1 : World, Calls Tryz.prog 9 #[.string (bs (smallGo false (secT path part fs nt pk o)))] w1 fun e w' => ∃ pv fv tv, e = .returned (.tuple #[.agg #[pv, .string (bs part), fv, .bool nt, .bool pk, tv], .bool true]) ∧
      w'.ownsRow w1.heap.size 3 1 pv path.length (path.map nI) ∧ w'.ownsRow w1.heap.size 9 1 fv fs.length (fs.map strV) ∧ w'.ownsRow w1.heap.size 3 1 tv (partI o).length ((partI o).map nI) ∧ Keep (fun _ => False) w1 w' := by
    intro hf w1
    obtain ⟨hU, ⟨M2⟩⟩ := hlow hf
    exact t_sectionOf w1 pk _ path part fs nt M2 o R.oo _ (small_text pk _ o hU)
  have cm := fun (w1 : World) (k : Keep (fun _ => False) w w1) (a0' a2' a5' : Option Addr) (c0' c2' c5' : Nat) (h0' : Arg w1.heap.size w1 a0' path.length (path.map nI)) (h2' : Arg w1.heap.size w1 a2' fs.length (fs.map strV)) (h5' : Arg w1.heap.size w1 a5' (partI o).length ((partI o).map nI)) (hc0' : path.length ≤ c0') (hc2' : fs.length ≤ c2') (hc5' : (partI o).length ≤ c5') =>
    t_same9 (part := part) (nt := nt) (pk := pk) (a0 := a0) (a2 := a2) (a5 := a5) (c0 := c0) (c2 := c2) (c5 := c5) (a0' := a0') (a2' := a2') (a5' := a5') (c0' := c0') (c2' := c2') (c5' := c5') (B := w.heap.size) (B' := w1.heap.size) (l0 := toI path) (fs := fs) (l5 := toI (partI o)) w1 (by rw [toI_len, toI_cells]; exact h0.keep k (Nat.le_refl _) (fun _ _ => id)) (h2.keep k (Nat.le_refl _) (fun _ _ => id)) (by rw [toI_len, toI_cells]; exact h5.keep k (Nat.le_refl _) (fun _ _ => id))
      (by rw [toI_len, toI_cells]; exact h0') h2' (by rw [toI_len, toI_cells]; exact h5') (by rw [toI_len]; omega) (by omega) (by rw [toI_len]; omega) (by rw [toI_len]; exact hc0) hc2 (by rw [toI_len]; exact hc5) (by rw [toI_len]; exact hc0') hc2' (by rw [toI_len]; exact hc5')
  simp only [toI_len] at cm
  have C8 := Lib.hid c8
  have C9 := Lib.hid c9
  have CS := Lib.hid cs
  have CT := Lib.hid ct
  have CSM := Lib.hid csm
  have CO1 := Lib.hid co1
  have CO2 := Lib.hid co2
  have CM := Lib.hid cm
  clear c8 c9 cs ct csm co1 co2 cm hlow h0 h2 h5 hpow h8 h9 R hml
  obtain ⟨T, hT⟩ : ∃ T, T = secT path part fs nt pk o := ⟨_, rfl⟩
  rw [← hT] at CS CT CSM CO1 CO2 hsl
  clear hT M
  have hB0 : Blk (w.alloc (.cells #[.slice a0 path.length c0, .string (bs part), .slice a2 fs.length c2, .bool nt, .bool pk, .slice a5 (partI o).length c5] 25)) w.heap.size #[.slice a0 path.length c0, .string (bs part), .slice a2 fs.length c2, .bool nt, .bool pk, .slice a5 (partI o).length c5] 25 := Blk.new w _ _
  have hK0 : Keep (fun _ => False) w (w.alloc (.cells #[.slice a0 path.length c0, .string (bs part), .slice a2 fs.length c2, .bool nt, .bool pk, .slice a5 (partI o).length c5] 25)) := (Keep.refl _ w).alloc _
  have HB := Lib.hid hB0
  have HK := Lib.hid hK0
  clear hB0 hK0
  cases sm with
  | false =>
    go_enter Tryz.func3, Tryz.ntmps3
    go_wp2_with (first
      | (go_at_call 4; refine (C8.out _ HK.out).mono ?_; rintro e w1 ⟨rfl, hk⟩; have HB1 := Lib.hid (HB.out.keep hk id); have HK1 := Lib.hid (HK.out.trans hk); clear hk; obtain ⟨d0, d1, d2, d3, d4, d5⟩ := HB1.out.six)
      | (go_at_call 5; refine (C9.out _ HK1.out).mono ?_; rintro e w2 ⟨rfl, hk⟩; clear d0 d1 d2 d3 d4 d5; have HB2 := Lib.hid (HB1.out.keep hk id); have HK2 := Lib.hid (HK1.out.trans hk); clear hk; obtain ⟨d0, d1, d2, d3, d4, d5⟩ := HB2.out.six)
      | (go_at_call 6; refine (CS.out _ HK2.out).mono ?_; rintro e w3 ⟨rfl, hk⟩; clear d0 d1 d2 d3 d4 d5; have HB3 := Lib.hid (HB2.out.keep hk id); have HK3 := Lib.hid (HK2.out.trans hk); clear hk; obtain ⟨d0, d1, d2, d3, d4, d5⟩ := HB3.out.six)
      | (go_at_call 7; refine (CT.out _ HK3.out).mono ?_; rintro e w4 ⟨rfl, hk⟩; clear d0 d1 d2 d3 d4 d5; have HB4 := Lib.hid (HB3.out.keep hk id); have HK4 := Lib.hid (HK3.out.trans hk); clear hk; obtain ⟨d0, d1, d2, d3, d4, d5⟩ := HB4.out.six)
      | (go_at_call 9; refine (CO1.out _).mono ?_; rintro e w5 ⟨pv, fv, tv, rfl, hp, hf, ht, hk⟩; clear d0 d1 d2 d3 d4 d5; have HB5 := Lib.hid (HB4.out.keep hk id); have HK5 := Lib.hid (HK4.out.trans hk); clear hk; obtain ⟨d0, d1, d2, d3, d4, d5⟩ := HB5.out.six; have hz : w.heap.size < w5.heap.size := HB5.out.lt; obtain ⟨pa, pc, rfl, hpc, hpA⟩ := arg_of_own hp; obtain ⟨fa, fc, rfl, hfc, hfA⟩ := arg_of_own hf; obtain ⟨ta, tc, rfl, htc, htA⟩ := arg_of_own ht; have HP := Lib.hid hpA; have HF := Lib.hid hfA; have HT := Lib.hid htA; clear hp hf ht hpA hfA htA)
      | (go_at_call 10; refine (CM.out _ (HK5.out.alloc _) pa fa ta pc fc tc ((HP.out.keep ((Keep.refl (fun _ => False) w5).alloc _) (Nat.le_refl _) (fun _ _ => id)).up (by simp)) ((HF.out.keep ((Keep.refl (fun _ => False) w5).alloc _) (Nat.le_refl _) (fun _ _ => id)).up (by simp)) ((HT.out.keep ((Keep.refl (fun _ => False) w5).alloc _) (Nat.le_refl _) (fun _ _ => id)).up (by simp)) hpc hfc htc).mono ?_; rintro e w6 ⟨rfl, hk⟩; have HK6 := Lib.hid ((HK5.out.alloc _).trans hk); clear hk))
    go_ret
    exact ⟨rfl, HK6.out⟩
  | true =>
    by_cases hfe : fs = []
    · have hq : ((fs.length : Int) == 0) = true := by rw [hfe]; rfl
      have HFE := Lib.hid hfe
      clear hfe
      go_enter Tryz.func3, Tryz.ntmps3
      go_wp2_with (first
        | (go_at_call 4; refine (C8.out _ HK.out).mono ?_; rintro e w1 ⟨rfl, hk⟩; have HB1 := Lib.hid (HB.out.keep hk id); have HK1 := Lib.hid (HK.out.trans hk); clear hk; obtain ⟨d0, d1, d2, d3, d4, d5⟩ := HB1.out.six)
        | (go_at_call 5; refine (C9.out _ HK1.out).mono ?_; rintro e w2 ⟨rfl, hk⟩; clear d0 d1 d2 d3 d4 d5; have HB2 := Lib.hid (HB1.out.keep hk id); have HK2 := Lib.hid (HK1.out.trans hk); clear hk; obtain ⟨d0, d1, d2, d3, d4, d5⟩ := HB2.out.six)
        | (go_at_call 6; refine (CS.out _ HK2.out).mono ?_; rintro e w3 ⟨rfl, hk⟩; clear d0 d1 d2 d3 d4 d5; have HB3 := Lib.hid (HB2.out.keep hk id); have HK3 := Lib.hid (HK2.out.trans hk); clear hk; obtain ⟨d0, d1, d2, d3, d4, d5⟩ := HB3.out.six)
        | (go_at_call 7; refine (CT.out _ HK3.out).mono ?_; rintro e w4 ⟨rfl, hk⟩; clear d0 d1 d2 d3 d4 d5; have HB4 := Lib.hid (HB3.out.keep hk id); have HK4 := Lib.hid (HK3.out.trans hk); clear hk; obtain ⟨d0, d1, d2, d3, d4, d5⟩ := HB4.out.six)
        | (go_at_call 8; refine (CSM.out _).mono ?_; rintro e w4b ⟨rfl, hk⟩; clear d0 d1 d2 d3 d4 d5; have HB4b := Lib.hid (HB4.out.keep hk id); have HK4b := Lib.hid (HK4.out.trans hk); clear hk; obtain ⟨d0, d1, d2, d3, d4, d5⟩ := HB4b.out.six)
        | (go_at_call 9; refine (CO2.out HFE.out _).mono ?_; rintro e w5 ⟨pv, fv, tv, rfl, hp, hf, ht, hk⟩; clear d0 d1 d2 d3 d4 d5; have HB5 := Lib.hid (HB4b.out.keep hk id); have HK5 := Lib.hid (HK4b.out.trans hk); clear hk; obtain ⟨d0, d1, d2, d3, d4, d5⟩ := HB5.out.six; have hz : w.heap.size < w5.heap.size := HB5.out.lt; obtain ⟨pa, pc, rfl, hpc, hpA⟩ := arg_of_own hp; obtain ⟨fa, fc, rfl, hfc, hfA⟩ := arg_of_own hf; obtain ⟨ta, tc, rfl, htc, htA⟩ := arg_of_own ht; have HP := Lib.hid hpA; have HF := Lib.hid hfA; have HT := Lib.hid htA; clear hp hf ht hpA hfA htA)
        | (go_at_call 10; refine (CM.out _ (HK5.out.alloc _) pa fa ta pc fc tc ((HP.out.keep ((Keep.refl (fun _ => False) w5).alloc _) (Nat.le_refl _) (fun _ _ => id)).up (by simp)) ((HF.out.keep ((Keep.refl (fun _ => False) w5).alloc _) (Nat.le_refl _) (fun _ _ => id)).up (by simp)) ((HT.out.keep ((Keep.refl (fun _ => False) w5).alloc _) (Nat.le_refl _) (fun _ _ => id)).up (by simp)) hpc hfc htc).mono ?_; rintro e w6 ⟨rfl, hk⟩; have HK6 := Lib.hid ((HK5.out.alloc _).trans hk); clear hk))
      go_ret
      exact ⟨rfl, HK6.out⟩
    · have hq : ((fs.length : Int) == 0) = false := by
        rw [beq_eq_false_iff_ne]
        intro h
        exact hfe (List.eq_nil_of_length_eq_zero (by omega))
      clear hfe
      go_enter Tryz.func3, Tryz.ntmps3
      go_wp2_with (first
        | (go_at_call 4; refine (C8.out _ HK.out).mono ?_; rintro e w1 ⟨rfl, hk⟩; have HB1 := Lib.hid (HB.out.keep hk id); have HK1 := Lib.hid (HK.out.trans hk); clear hk; obtain ⟨d0, d1, d2, d3, d4, d5⟩ := HB1.out.six)
        | (go_at_call 5; refine (C9.out _ HK1.out).mono ?_; rintro e w2 ⟨rfl, hk⟩; clear d0 d1 d2 d3 d4 d5; have HB2 := Lib.hid (HB1.out.keep hk id); have HK2 := Lib.hid (HK1.out.trans hk); clear hk; obtain ⟨d0, d1, d2, d3, d4, d5⟩ := HB2.out.six)
        | (go_at_call 6; refine (CS.out _ HK2.out).mono ?_; rintro e w3 ⟨rfl, hk⟩; clear d0 d1 d2 d3 d4 d5; have HB3 := Lib.hid (HB2.out.keep hk id); have HK3 := Lib.hid (HK2.out.trans hk); clear hk; obtain ⟨d0, d1, d2, d3, d4, d5⟩ := HB3.out.six)
        | (go_at_call 7; refine (CT.out _ HK3.out).mono ?_; rintro e w4 ⟨rfl, hk⟩; clear d0 d1 d2 d3 d4 d5; have HB4 := Lib.hid (HB3.out.keep hk id); have HK4 := Lib.hid (HK3.out.trans hk); clear hk; obtain ⟨d0, d1, d2, d3, d4, d5⟩ := HB4.out.six)
        | (go_at_call 9; refine (CO1.out _).mono ?_; rintro e w5 ⟨pv, fv, tv, rfl, hp, hf, ht, hk⟩; clear d0 d1 d2 d3 d4 d5; have HB5 := Lib.hid (HB4.out.keep hk id); have HK5 := Lib.hid (HK4.out.trans hk); clear hk; obtain ⟨d0, d1, d2, d3, d4, d5⟩ := HB5.out.six; have hz : w.heap.size < w5.heap.size := HB5.out.lt; obtain ⟨pa, pc, rfl, hpc, hpA⟩ := arg_of_own hp; obtain ⟨fa, fc, rfl, hfc, hfA⟩ := arg_of_own hf; obtain ⟨ta, tc, rfl, htc, htA⟩ := arg_of_own ht; have HP := Lib.hid hpA; have HF := Lib.hid hfA; have HT := Lib.hid htA; clear hp hf ht hpA hfA htA)
        | (go_at_call 10; refine (CM.out _ (HK5.out.alloc _) pa fa ta pc fc tc ((HP.out.keep ((Keep.refl (fun _ => False) w5).alloc _) (Nat.le_refl _) (fun _ _ => id)).up (by simp)) ((HF.out.keep ((Keep.refl (fun _ => False) w5).alloc _) (Nat.le_refl _) (fun _ _ => id)).up (by simp)) ((HT.out.keep ((Keep.refl (fun _ => False) w5).alloc _) (Nat.le_refl _) (fun _ _ => id)).up (by simp)) hpc hfc htc).mono ?_; rintro e w6 ⟨rfl, hk⟩; have HK6 := Lib.hid ((HK5.out.alloc _).trans hk); clear hk))
      go_ret
      exact ⟨rfl, HK6.out⟩
end Go.Proofs.YtanombfdfpfcoaaGreatDoor

namespace Go.Proofs.YtanombfdfpfcoaaGreatDoor
set_option linter.unusedVariables false
set_option linter.unusedSimpArgs false
open Go.RowKit Go.Proofs.YtanombfdfpfcoaaGreatDoorW.PrintWords Go.Proofs.YtanombfdfpfcoaaGreatDoor.PFnSection

set_option maxRecDepth 100000 in
set_option maxHeartbeats 1000000 in
theorem t_fn_any (w : World) (sm : Bool) (l0 : List Int) (part : List UInt8) (fs : List (List UInt8)) (nt pk : Bool) (l5 : List Int) (a0 a2 a5 : Option Addr) (c0 c2 c5 : Nat)
    (h0 : Arg w.heap.size w a0 l0.length (l0.map zI)) (h2 : Arg w.heap.size w a2 fs.length (fs.map strV)) (h5 : Arg w.heap.size w a5 l5.length (l5.map zI)) (hc0 : l0.length ≤ c0) (hc2 : fs.length ≤ c2) (hc5 : l5.length ≤ c5) (hpow : Pow w)
    (hf : ∀ f ∈ fs, f.length < 9223372036854775808) (m0 : l0.length < 9223372036854775808) (m2 : fs.length < 9223372036854775808) (m5 : l5.length < 9223372036854775808) :
    Calls Tryz.prog 3 #[.agg #[.slice a0 l0.length c0, .string (bs part), .slice a2 fs.length c2, .bool nt, .bool pk, .slice a5 l5.length c5], .bool sm] w fun e w' => e = .returned (.bool true) ∧ Keep (fun _ => False) w w' := by
  obtain ⟨b8, k8, h8⟩ := fits8 l0 (bs part) (fs.map bs) nt pk l5 (by rw [List.length_map]; exact m2)
  obtain ⟨b9, k9, h9, hR⟩ := right9 l0 part fs nt pk l5 hf m0 m2 m5
  have hB0 : Blk (w.alloc (.cells #[.slice a0 l0.length c0, .string (bs part), .slice a2 fs.length c2, .bool nt, .bool pk, .slice a5 l5.length c5] 25)) w.heap.size #[.slice a0 l0.length c0, .string (bs part), .slice a2 fs.length c2, .bool nt, .bool pk, .slice a5 l5.length c5] 25 := Blk.new w _ _
  have hK0 : Keep (fun _ => False) w (w.alloc (.cells #[.slice a0 l0.length c0, .string (bs part), .slice a2 fs.length c2, .bool nt, .bool pk, .slice a5 l5.length c5] 25)) := (Keep.refl _ w).alloc _
  have c8 := fun (w1 : World) (k : Keep (fun _ => False) w w1) => t_fits8 (a0 := a0) (a2 := a2) (a5 := a5) (c0 := c0) (c2 := c2) (c5 := c5) (B := w.heap.size) h8 w1 (h0.keep k (Nat.le_refl _) (fun _ _ => id)) (h2.keep k (Nat.le_refl _) (fun _ _ => id)) (h5.keep k (Nat.le_refl _) (fun _ _ => id)) m0 m2 m5 hc0 hc2 hc5
  have c9 := fun (w1 : World) (k : Keep (fun _ => False) w w1) => t_right9 (a0 := a0) (a2 := a2) (a5 := a5) (c0 := c0) (c2 := c2) (c5 := c5) (B := w.heap.size) h9 w1 (h0.keep k (Nat.le_refl _) (fun _ _ => id)) (h2.keep k (Nat.le_refl _) (fun _ _ => id)) (h5.keep k (Nat.le_refl _) (fun _ _ => id)) m0 m2 m5 hc0 hc2 hc5
  cases b8 with
  | false =>
    have C8 := Lib.hid c8
    have HK := Lib.hid hK0
    clear hB0 hK0 c8 c9 h0 h2 h5 hpow hf h8 h9 hR
    go_enter Tryz.func3, Tryz.ntmps3
    go_wp2_with (go_at_call 4; refine (C8.out _ HK.out).mono ?_; rintro e w1 ⟨rfl, hk⟩; have HK1 := Lib.hid (HK.out.trans hk); clear hk)
    go_ret
    exact ⟨rfl, HK1.out⟩
  | true =>
    cases b9 with
    | false =>
      have C8 := Lib.hid c8
      have C9 := Lib.hid c9
      have HB := Lib.hid hB0
      have HK := Lib.hid hK0
      clear hB0 hK0 c8 c9 h0 h2 h5 hpow hf h8 h9 hR
      go_enter Tryz.func3, Tryz.ntmps3
      go_wp2_with (first
        | (go_at_call 4; refine (C8.out _ HK.out).mono ?_; rintro e w1 ⟨rfl, hk⟩; have HB1 := Lib.hid (HB.out.keep hk id); have HK1 := Lib.hid (HK.out.trans hk); clear hk; obtain ⟨d0, d1, d2, d3, d4, d5⟩ := HB1.out.six)
        | (go_at_call 5; refine (C9.out _ HK1.out).mono ?_; rintro e w2 ⟨rfl, hk⟩; have HK2 := Lib.hid (HK1.out.trans hk); clear hk))
      go_ret
      exact ⟨rfl, HK2.out⟩
    | true =>
      obtain ⟨path, o, rfl, rfl, R, _⟩ := right_of l0 part fs nt l5 (hR rfl)
      have e0 : (path.map (fun n : Nat => (n : Int))).length = path.length := List.length_map _
      have e5 : ((partI o).map (fun n : Nat => (n : Int))).length = (partI o).length := List.length_map _
      have q0 : (path.map (fun n : Nat => (n : Int))).map zI = path.map nI := toI_cells path
      have q5 : ((partI o).map (fun n : Nat => (n : Int))).map zI = (partI o).map nI := toI_cells (partI o)
      rw [e0, q0] at h0
      rw [e5, q5] at h5
      rw [e0] at hc0 ⊢
      rw [e5] at hc5 ⊢
      exact t_fn w sm path part fs nt pk o a0 a2 a5 c0 c2 c5 R h0 h2 h5 hc0 hc2 hc5 hpow h8 h9
end Go.Proofs.YtanombfdfpfcoaaGreatDoor

namespace Go.Proofs.YtanombfdfpfcoaaGreatDoor
set_option linter.unusedVariables false
set_option linter.unusedSimpArgs false
open Go.RowKit Go.ChangeShapes Go.WideShapes Go.ChangeAt Go.Joins Go.Deep
open Go.ChangeMaps (open_string shut_string)

section
variable {H : Type} {enc : TypeId × Value → H} {P : Program} {w : World} {base : Nat} {spare : Nat → Bool} {held : Bool}
theorem array6 {α : Type} {cs : Array α} (h : cs.size = 6) : ∃ c0 c1 c2 c3 c4 c5, cs = #[c0, c1, c2, c3, c4, c5] := by
  obtain ⟨l⟩ := cs
  match l, h with
  | [c0, c1, c2, c3, c4, c5], _ => exact ⟨c0, c1, c2, c3, c4, c5, rfl⟩
theorem trod_struct6 {t : TypeId} {f0 f1 f2 f3 f4 f5 : Field} {fuel : Nat} {cs : List Value} {x : DataW H × List MemPlace} (ht : P.underlying t = some (.struct #[f0, f1, f2, f3, f4, f5])) (h : DataW.trod enc P w base spare held fuel t cs = some x) :
    ∃ y0 y1 y2 y3 y4 y5 n, x.1 = .agg [y0.1, y1.1, y2.1, y3.1, y4.1, y5.1] ∧ DataW.trod enc P w base spare held n f0.type ((cs.drop f0.offset).take (P.cellsOf f0.type)) = some y0 ∧
      DataW.trod enc P w base spare held n f1.type ((cs.drop f1.offset).take (P.cellsOf f1.type)) = some y1 ∧ DataW.trod enc P w base spare held n f2.type ((cs.drop f2.offset).take (P.cellsOf f2.type)) = some y2 ∧
      DataW.trod enc P w base spare held n f3.type ((cs.drop f3.offset).take (P.cellsOf f3.type)) = some y3 ∧ DataW.trod enc P w base spare held n f4.type ((cs.drop f4.offset).take (P.cellsOf f4.type)) = some y4 ∧
      DataW.trod enc P w base spare held n f5.type ((cs.drop f5.offset).take (P.cellsOf f5.type)) = some y5 := by
  obtain ⟨xs, n, _, rfl, hl, hlen, hf⟩ := DataW.trod_struct ht h
  match xs, hlen with
  | [y0, y1, y2, y3, y4, y5], _ => exact ⟨y0, y1, y2, y3, y4, y5, n, by simp, by simpa using hf 0 f0 rfl, by simpa using hf 1 f1 rfl, by simpa using hf 2 f2 rfl, by simpa using hf 3 f3 rfl, by simpa using hf 4 f4 rfl, by simpa using hf 5 f5 rfl⟩
/-- A struct of six one-cell fields, by value, opened. -/
theorem open_agg6 {r : Reach} {b0 : Nat} {t : TypeId} {f0 f1 f2 f3 f4 f5 : Field} {v : Value} {d : DataW H} {p : List MemPlace} (hs : P.underlying t = some (.struct #[f0, f1, f2, f3, f4, f5])) (hone : oneCellFields P #[f0, f1, f2, f3, f4, f5] = true) (hC : P.cellsOf t = 6)
    (hv : Value.okWide P w r b0 t v) (h : DataW.Trod enc P w base spare held t v d p) :
    ∃ (v0 v1 v2 v3 v4 v5 : Value) (y0 y1 y2 y3 y4 y5 : DataW H × List MemPlace) (n : Nat), v = .agg #[v0, v1, v2, v3, v4, v5] ∧
      DataW.trod enc P w base spare held n f0.type [v0] = some y0 ∧ DataW.trod enc P w base spare held n f1.type [v1] = some y1 ∧ DataW.trod enc P w base spare held n f2.type [v2] = some y2 ∧
      DataW.trod enc P w base spare held n f3.type [v3] = some y3 ∧ DataW.trod enc P w base spare held n f4.type [v4] = some y4 ∧ DataW.trod enc P w base spare held n f5.type [v5] = some y5 := by
  obtain ⟨cs, rfl, hsz⟩ := okWide_struct hs hv
  obtain ⟨c0, c1, c2, c3, c4, c5, rfl⟩ := array6 (hsz.trans hC)
  obtain ⟨fuel, hf⟩ := h
  obtain ⟨y0, y1, y2, y3, y4, y5, n, _, h0, h1, h2, h3, h4, h5⟩ := trod_struct6 hs hf
  obtain ⟨o0, k0⟩ := hone_of hone 0 f0 rfl
  obtain ⟨o1, k1⟩ := hone_of hone 1 f1 rfl
  obtain ⟨o2, k2⟩ := hone_of hone 2 f2 rfl
  obtain ⟨o3, k3⟩ := hone_of hone 3 f3 rfl
  obtain ⟨o4, k4⟩ := hone_of hone 4 f4 rfl
  obtain ⟨o5, k5⟩ := hone_of hone 5 f5 rfl
  exact ⟨c0, c1, c2, c3, c4, c5, y0, y1, y2, y3, y4, y5, n, rfl, by simpa [Value.cells, o0, k0] using h0, by simpa [Value.cells, o1, k1] using h1, by simpa [Value.cells, o2, k2] using h2, by simpa [Value.cells, o3, k3] using h3, by simpa [Value.cells, o4, k4] using h4, by simpa [Value.cells, o5, k5] using h5⟩
/-- A slice of numbers that came in, as a walk reads it. -/
theorem arg_ints {t e : TypeId} {n : Nat} {v : Value} {y : DataW H × List MemPlace} (ht : P.underlying t = some (.slice e)) (he : P.underlying e = some (.int .i64)) (hc : P.cellsOf e = 1) (h : DataW.trod enc P w 0 (fun _ => true) held n t [v] = some y) :
    ∃ (a : Option Addr) (c : Nat) (xs : List Int), v = .slice a xs.length c ∧ xs.length ≤ c ∧ xs.length < 9223372036854775808 ∧ Arg w.heap.size w a xs.length (xs.map zI) := by
  rcases open_ints ht he hc h with ⟨hcs, _⟩ | ⟨a, len, cap, zs, hcs, _, hl, hm, hz, _, hcell, _⟩
  · exact ⟨none, 0, [], by simpa using hcs, Nat.le_refl _, by decide, rfl, fun h => absurd h (Nat.lt_irrefl _)⟩
  · have hz2 : zs.length = cap := by simpa using hz
    have hlen : (zs.take len).length = len := by rw [List.length_take]; omega
    refine ⟨some a, cap, zs.take len, by rw [hlen]; simpa using hcs, by rw [hlen]; exact hl, by rw [hlen]; unfold maxLen at hm; omega, by rw [List.length_map], fun hp => ?_⟩
    rw [hlen] at hp ⊢
    obtain ⟨b, off, rfl, hc2⟩ := ints_at hcell (by omega)
    have hb : b < w.heap.size := by
      have h1 := hc2 0 (by omega)
      rw [World.cell?] at h1
      by_cases hb : b < w.heap.size
      · exact hb
      · rw [Array.getElem?_eq_none (by simpa using hb)] at h1
        cases h1
    refine ⟨b, off, rfl, hb, fun i hi => ?_⟩
    rw [hc2 i (by omega)]
    have h3 : i < zs.length := by omega
    simp [List.getD, zI, List.getElem?_take, hi, h3]
theorem arg_strs {t e : TypeId} {n : Nat} {v : Value} {y : DataW H × List MemPlace} (ht : P.underlying t = some (.slice e)) (he : P.underlying e = some .string) (hc : P.cellsOf e = 1) (h : DataW.trod enc P w 0 (fun _ => true) held n t [v] = some y) :
    ∃ (a : Option Addr) (c : Nat) (xs : List (List UInt8)), v = .slice a xs.length c ∧ xs.length ≤ c ∧ xs.length < 9223372036854775808 ∧ (∀ f ∈ xs, f.length < 9223372036854775808) ∧ Arg w.heap.size w a xs.length (xs.map strV) := by
  rcases open_strings ht he hc h with ⟨hcs, _⟩ | ⟨a, len, cap, ss, hcs, _, hl, hm, hz, _, hcell, hws⟩
  · exact ⟨none, 0, [], by simpa using hcs, Nat.le_refl _, by decide, (fun f hf => by cases hf), rfl, fun h => absurd h (Nat.lt_irrefl _)⟩
  · have hz2 : ss.length = cap := by simpa using hz
    have hlen : ((ss.take len).map fun s => s.data.toList).length = len := by rw [List.length_map, List.length_take]; omega
    refine ⟨some a, cap, (ss.take len).map fun s => s.data.toList, by rw [hlen]; simpa using hcs, by rw [hlen]; exact hl, by rw [hlen]; unfold maxLen at hm; omega, ?_, by rw [List.length_map], fun hp => ?_⟩
    · intro f hf
      obtain ⟨s, hs, rfl⟩ := List.mem_map.1 hf
      have := hws s (List.mem_of_mem_take hs)
      unfold maxLen at this
      have h2 : s.data.toList.length = s.size := Array.length_toList
      omega
    · rw [hlen] at hp ⊢
      obtain ⟨b, off, spot⟩ := a
      have hspot : spot = none := by simpa [Addr.add] using World.cell?_spot (hcell 0 (by omega))
      subst hspot
      have hc2 : ∀ i, i < ss.length → w.cell? ⟨b, off + i, none⟩ = some (.string (ss.getD i ByteArray.empty)) := fun i hi => by rw [← Go.WideShapes.add_plain]; exact hcell i hi
      have hb : b < w.heap.size := by
        have h1 := hc2 0 (by omega)
        rw [World.cell?] at h1
        by_cases hb : b < w.heap.size
        · exact hb
        · rw [Array.getElem?_eq_none (by simpa using hb)] at h1
          cases h1
      refine ⟨b, off, rfl, hb, fun i hi => ?_⟩
      rw [hc2 i (by omega)]
      have h3 : i < ss.length := by omega
      simp [List.getD, strV, List.getElem?_take, hi, h3, bs_of]
end

theorem own : ownKnob Tryz.prog.godebug = none := by kernel_rfl
theorem laidOut : laidOutB Tryz.prog = true := by kernel_rfl
/-- The table of powers, out of the row's condition. -/
theorem pow_of {W : World} (hL : laidMet Tryz.prog Rows.fnSectionRow.laid W) : Pow W :=
  Lib.tabIs_of_head (rest := Rows.fnSectionRow.laid.drop 3) (g := 1) (t := 139) (e := 107) (n := 20) (by kernel_rfl) (by kernel_rfl) (by kernel_rfl) (by kernel_rfl) (by kernel_rfl) (by kernel_rfl) (laidMet.tail (laidMet.tail hL))

set_option maxHeartbeats 1000000 in
set_option maxRecDepth 100000 in
theorem lifted (os : Os) (started : os.Started) (H : Type) (enc : TypeId × Value → H) :
    ReturnsInHanded {} Tryz.checked os 3 .any (fun w args => (Rows.fnSectionSpec.pre enc Tryz.prog Tryz.f3 [] false w args ∧ laidMetH Tryz.prog Rows.fnSectionRow.laid w) ∧ sizedMet enc Tryz.prog Tryz.f3 (OpenSpec.ofChange Rows.fnSectionSpec) false w args)
      (Rows.fnSectionSpec.post enc Tryz.prog Tryz.f3 false true false false) := by
  refine returnsInHanded_of_change_and (C := Tryz.checked) (X := fun w _ => laidMetH Tryz.prog Rows.fnSectionRow.laid w) (fun _ _ _ hh h => h.of_heap hh) own started (by kernel_rfl) Tryz.func3
    (ChangeSpec.witness_shaped (enc := enc) (C := Tryz.checked) (os := os) (X := fun w _ => laidMetH Tryz.prog Rows.fnSectionRow.laid w) false (World.laidAll Tryz.prog os Rows.fnSectionRow.laid) #[.agg #[.slice none 0 0, .string ⟨#[]⟩, .slice none 0 0, .bool false, .bool false, .slice none 0 0], .bool false] 8 (World.laidAll_os _ _ _)
      (World.shaped_of_ZipB (by kernel_rfl) (by kernel_rfl)) (by kernel_rfl) (by kernel_rfl) (by kernel_rfl)
      (by rw [MakeChecks.laidMetH_plain _ _ _ (by kernel_rfl)]; exact laidMet_laidAll _ (by kernel_rfl) (by kernel_rfl))) ?_
  intro W base args ds gs before hval0 hW _ _ hL _
  have hval : ∀ (j : Nat) t v, Tryz.f3.params[j]? = some t → args[j]? = some v → Value.okWide Tryz.prog W .any base t v := hval0
  have hW' := hW
  obtain ⟨p, q, hA0, hV, rfl, _, _⟩ := hW
  have hA : DataW.TrodAll enc Tryz.prog W 0 (fun _ => true) true Tryz.f3.params.toList args.toList ds p := hA0
  rw [Tryz.params3] at hA hval
  obtain ⟨v0, v1, d0, d1, p0, p1, rfl, rfl, rfl, h0, h1⟩ := trodAll_two hA
  obtain ⟨rfl, rfl⟩ := trodVars_none hV
  have k0 := h0
  have lt0 : ∀ x ∈ p0, x.block < W.heap.size := by obtain ⟨m, hm⟩ := k0; exact DataW.trod_lt m _ _ _ hm
  obtain ⟨u0, u1, u2, u3, u4, u5, y0, y1, y2, y3, y4, y5, n, rfl, g0, g1, g2, g3, g4, g5⟩ := open_agg6 Tryz.underlying25 (by kernel_rfl) (by kernel_rfl) (hval 0 25 v0 rfl rfl) h0
  obtain ⟨sm, rfl, rfl, rfl⟩ := open_bool Tryz.underlying4 (hval 1 4 v1 rfl rfl) h1
  obtain ⟨a0, c0, l0, rfl, b0, m0, r0⟩ := arg_ints Tryz.underlying22 Tryz.underlying3 (by kernel_rfl) g0
  obtain ⟨a2, c2, fs, rfl, b2, m2, f2, r2⟩ := arg_strs Tryz.underlying23 Tryz.underlying9 (by kernel_rfl) g2
  obtain ⟨a5, c5, l5, rfl, b5, m5, r5⟩ := arg_ints Tryz.underlying22 Tryz.underlying3 (by kernel_rfl) g5
  obtain ⟨part, e1, -⟩ := DataW.trod_string Tryz.underlying9 g1
  obtain ⟨nt, e3, -⟩ := DataW.trod_bool Tryz.underlying4 g3
  obtain ⟨pk, e4, -⟩ := DataW.trod_bool Tryz.underlying4 g4
  simp only [List.cons.injEq, and_true] at e1 e3 e4
  subst e1 e3 e4
  rw [MakeChecks.laidMetH_plain _ _ _ (by kernel_rfl)] at hL
  have hw := t_fn_any W sm l0 part.data.toList fs nt pk l5 a0 a2 a5 c0 c2 c5 r0 r2 r5 b0 b2 b5 (pow_of hL) f2 m0 m2 m5
  rw [bs_of] at hw
  refine hw.mono fun e W' ⟨he, hk⟩ => ?_
  subst he
  have bel : Below W.heap.size W W' := hk.below_out
  exact ⟨_, rfl, _, _, _, [], _, [], hW', trodAll_mk1 (shut_bool Tryz.underlying4 _), trodAll_mk2 (Below.trod laidOut (by kernel_rfl) (of_decide_eq_true (by kernel_rfl)) k0 bel lt0) (shut_bool Tryz.underlying4 _), rfl, bel.frame _, fun h => by cases h⟩
theorem over : Rows.FnSectionSaid :=
  OpenClaim.holds_of_wide 3 Tryz.f3 rfl rfl rfl rfl rfl rfl rfl ⟨rfl, rfl, rfl, rfl, rfl⟩ rfl rfl rfl rfl rfl (by kernel_rfl) Tryz.func3 (by kernel_rfl)
    (of_decide_eq_true (by kernel_rfl)) (by unfold Func.isWrapper; first | (rw [if_pos (by decide +kernel)]; kernel_rfl) | (rw [if_neg (by decide +kernel)]; exact ⟨rfl, rfl⟩))
    (fun os started H enc _ => lifted os started H enc)
/-- The card of 'laws.FnSection'. -/
theorem fnSection_card : Rows.FnSectionCardSaid :=
  Claim7.holds_tied_plain_at .later [] [.data, .data, .data, .data, .sentinel, .sentinel, .sentinel, .sentinel, .sentinel, .sentinel, .pinned, .pinned] true (true, "34f4a8730f2b583c9360e5b06039417d58e2ed85c6fc3804f1de4a9297802836") true over (fun _ h => by cases h) (by kernel_rfl) (fun _ h => by cases h) fnSection_row_tie rfl ⟨rfl, rfl⟩ (by kernel_rfl) rfl
    (fun f fn hf hfn => by
      obtain rfl : f = 3 := Option.some.inj ((show Tryz.prog.funcNamed "given.example/pub-datestamp/laws.FnSection" = some 3 by kernel_rfl).symm.trans hf) |>.symm
      obtain rfl : fn = Tryz.f3 := (Option.some.inj (Tryz.func3.symm.trans hfn)).symm
      exact ⟨by kernel_rfl, fun j t ht => by
        rw [Tryz.params3] at ht
        have hm : t ∈ [25, 4] := by simpa using Array.mem_of_getElem? ht
        have hall : ([25, 4].all fun u => !Tryz.prog.wantsStandIn u) = true := by kernel_rfl
        exact (show Tryz.prog.wantsStandIn t = false by simpa using List.all_eq_true.1 hall t hm)⟩)
    (by kernel_rfl)
#print axioms fnSection_card
end Go.Proofs.YtanombfdfpfcoaaGreatDoor
