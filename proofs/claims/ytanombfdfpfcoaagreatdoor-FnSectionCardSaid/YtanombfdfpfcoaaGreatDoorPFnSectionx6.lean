-- PRINTED BY print.sh 35421559b90ae4d0a3588c463048766b98c2df88dd9212a6774a882060cdf62d: not written by this session
import Derived.Test.YtanombfdfpfcoaaGreatDoorPFnSectionx0
namespace Go.Proofs.YtanombfdfpfcoaaGreatDoor.PFnSection
open Go.RowKit Go.Proofs.YtanombfdfpfcoaaGreatDoorW.PrintWords Go.Proofs.YtanombfdfpfcoaaGreatDoorW.PrintLast Go.Proofs.YtanombfdfpfcoaaGreatDoorW.PrintMore
attribute [local go_sem] max2_int min2_int max_two min_two max_three min_three max_four min_four   -- for this text's walks alone
set_option linter.unusedVariables false
set_option linter.unusedSimpArgs false

/-! ### laws_sameSection9: function 10 -/
mutual
def laws_sameSection9.j0 : Nat → Bool → List Int → ByteArray → List ByteArray → Bool → Bool → List Int → List Int → ByteArray → List ByteArray → Bool → Bool → List Int → Option (Bool)
  | 0, _, _, _, _, _, _, _, _, _, _, _, _, _ => none
  | k + 1, x53, x154000, x154001, x154002, x154003, x154004, x154005, x155000, x155001, x155002, x155003, x155004, x155005 => if x53 = true then (some false) else (laws_sameSection9.l0 k (x154000.length : Int) 0 x154000 x154001 x154002 x154003 x154004 x154005 x155000 x155001 x155002 x155003 x155004 x155005)
def laws_sameSection9.l0 : Nat → Int → Int → List Int → ByteArray → List ByteArray → Bool → Bool → List Int → List Int → ByteArray → List ByteArray → Bool → Bool → List Int → Option (Bool)
  | 0, _, _, _, _, _, _, _, _, _, _, _, _, _, _ => none
  | k + 1, x56, x57, x154000, x154001, x154002, x154003, x154004, x154005, x155000, x155001, x155002, x155003, x155004, x155005 => if x57 < x56 then (if 0 ≤ x57 then (if x57 < (x154000.length : Int) then (if x57 < (x155000.length : Int) then (if (rd x154000 x57) = (rd x155000 x57) then (laws_sameSection9.l0 k x56 (wrap64 (x57 + 1)) x154000 x154001 x154002 x154003 x154004 x154005 x155000 x155001 x155002 x155003 x155004 x155005) else (some false)) else (none)) else (none)) else (none)) else (laws_sameSection9.l1 k (x154002.length : Int) 0 x154000 x154001 x154002 x154003 x154004 x154005 x155000 x155001 x155002 x155003 x155004 x155005)
def laws_sameSection9.l1 : Nat → Int → Int → List Int → ByteArray → List ByteArray → Bool → Bool → List Int → List Int → ByteArray → List ByteArray → Bool → Bool → List Int → Option (Bool)
  | 0, _, _, _, _, _, _, _, _, _, _, _, _, _, _ => none
  | k + 1, x74, x75, x154000, x154001, x154002, x154003, x154004, x154005, x155000, x155001, x155002, x155003, x155004, x155005 => if x75 < x74 then (if 0 ≤ x75 then (if x75 < (x154002.length : Int) then (if x75 < (x155002.length : Int) then (if (rdOf ByteArray.empty x154002 x75).toList = (rdOf ByteArray.empty x155002 x75).toList then (laws_sameSection9.l1 k x74 (wrap64 (x75 + 1)) x154000 x154001 x154002 x154003 x154004 x154005 x155000 x155001 x155002 x155003 x155004 x155005) else (some false)) else (none)) else (none)) else (none)) else (laws_sameSection9.l2 k (x154005.length : Int) 0 x154000 x154001 x154002 x154003 x154004 x154005 x155000 x155001 x155002 x155003 x155004 x155005)
def laws_sameSection9.l2 : Nat → Int → Int → List Int → ByteArray → List ByteArray → Bool → Bool → List Int → List Int → ByteArray → List ByteArray → Bool → Bool → List Int → Option (Bool)
  | 0, _, _, _, _, _, _, _, _, _, _, _, _, _, _ => none
  | k + 1, x92, x93, x154000, x154001, x154002, x154003, x154004, x154005, x155000, x155001, x155002, x155003, x155004, x155005 => if x93 < x92 then (if 0 ≤ x93 then (if x93 < (x154005.length : Int) then (if x93 < (x155005.length : Int) then (if (rd x154005 x93) = (rd x155005 x93) then (laws_sameSection9.l2 k x92 (wrap64 (x93 + 1)) x154000 x154001 x154002 x154003 x154004 x154005 x155000 x155001 x155002 x155003 x155004 x155005) else (some false)) else (none)) else (none)) else (none)) else (some true)
end
def laws_sameSection9.f (k : Nat) (l0_0 : List Int) (a0_1 : ByteArray) (l0_2 : List ByteArray) (a0_3 : Bool) (a0_4 : Bool) (l0_5 : List Int) (l1_0 : List Int) (a1_1 : ByteArray) (l1_2 : List ByteArray) (a1_3 : Bool) (a1_4 : Bool) (l1_5 : List Int) : Option (Bool) := if a0_1.toList = a1_1.toList then (if (a0_3 != a1_3) = true then (laws_sameSection9.j0 k true l0_0 a0_1 l0_2 a0_3 a0_4 l0_5 l1_0 a1_1 l1_2 a1_3 a1_4 l1_5) else (if (a0_4 != a1_4) = true then (laws_sameSection9.j0 k true l0_0 a0_1 l0_2 a0_3 a0_4 l0_5 l1_0 a1_1 l1_2 a1_3 a1_4 l1_5) else (if (l0_0.length : Int) = (l1_0.length : Int) then (if (l0_2.length : Int) = (l1_2.length : Int) then (laws_sameSection9.j0 k ((l0_5.length : Int) != (l1_5.length : Int)) l0_0 a0_1 l0_2 a0_3 a0_4 l0_5 l1_0 a1_1 l1_2 a1_3 a1_4 l1_5) else (laws_sameSection9.j0 k true l0_0 a0_1 l0_2 a0_3 a0_4 l0_5 l1_0 a1_1 l1_2 a1_3 a1_4 l1_5)) else (laws_sameSection9.j0 k true l0_0 a0_1 l0_2 a0_3 a0_4 l0_5 l1_0 a1_1 l1_2 a1_3 a1_4 l1_5)))) else (laws_sameSection9.j0 k true l0_0 a0_1 l0_2 a0_3 a0_4 l0_5 l1_0 a1_1 l1_2 a1_3 a1_4 l1_5)
theorem laws_sameSection9.mono_l : ∀ k, (∀ y0 y1 y2 y3 y4 y5 y6 y7 y8 y9 y10 y11 y12, LeO (laws_sameSection9.j0 k y0 y1 y2 y3 y4 y5 y6 y7 y8 y9 y10 y11 y12) (laws_sameSection9.j0 (k + 1) y0 y1 y2 y3 y4 y5 y6 y7 y8 y9 y10 y11 y12)) ∧ (∀ y0 y1 y2 y3 y4 y5 y6 y7 y8 y9 y10 y11 y12 y13, LeO (laws_sameSection9.l0 k y0 y1 y2 y3 y4 y5 y6 y7 y8 y9 y10 y11 y12 y13) (laws_sameSection9.l0 (k + 1) y0 y1 y2 y3 y4 y5 y6 y7 y8 y9 y10 y11 y12 y13)) ∧ (∀ y0 y1 y2 y3 y4 y5 y6 y7 y8 y9 y10 y11 y12 y13, LeO (laws_sameSection9.l1 k y0 y1 y2 y3 y4 y5 y6 y7 y8 y9 y10 y11 y12 y13) (laws_sameSection9.l1 (k + 1) y0 y1 y2 y3 y4 y5 y6 y7 y8 y9 y10 y11 y12 y13)) ∧ (∀ y0 y1 y2 y3 y4 y5 y6 y7 y8 y9 y10 y11 y12 y13, LeO (laws_sameSection9.l2 k y0 y1 y2 y3 y4 y5 y6 y7 y8 y9 y10 y11 y12 y13) (laws_sameSection9.l2 (k + 1) y0 y1 y2 y3 y4 y5 y6 y7 y8 y9 y10 y11 y12 y13))
  | 0 => ⟨fun _ _ _ _ _ _ _ _ _ _ _ _ _ r h => by simp [laws_sameSection9.j0] at h, fun _ _ _ _ _ _ _ _ _ _ _ _ _ _ r h => by simp [laws_sameSection9.l0] at h, fun _ _ _ _ _ _ _ _ _ _ _ _ _ _ r h => by simp [laws_sameSection9.l1] at h, fun _ _ _ _ _ _ _ _ _ _ _ _ _ _ r h => by simp [laws_sameSection9.l2] at h⟩
  | k + 1 => by
    obtain ⟨ih0, ih1, ih2, ih3⟩ := laws_sameSection9.mono_l k
    refine ⟨?_, ?_, ?_, ?_⟩
    · intro y0 y1 y2 y3 y4 y5 y6 y7 y8 y9 y10 y11 y12
      unfold laws_sameSection9.j0
      repeat' first
      | (with_reducible exact ih0 _ _ _ _ _ _ _ _ _ _ _ _ _)
      | (with_reducible exact ih1 _ _ _ _ _ _ _ _ _ _ _ _ _ _)
      | (with_reducible exact ih2 _ _ _ _ _ _ _ _ _ _ _ _ _ _)
      | (with_reducible exact ih3 _ _ _ _ _ _ _ _ _ _ _ _ _ _)
      | (with_reducible exact LeO.refl _)
      | (with_reducible exact LeO.none _)
      | (with_reducible refine LeO.ite ?_ ?_)
      | (with_reducible refine LeO.bind ?_ (fun _ => ?_))
      | exact ih0 _ _ _ _ _ _ _ _ _ _ _ _ _
      | exact ih1 _ _ _ _ _ _ _ _ _ _ _ _ _ _
      | exact ih2 _ _ _ _ _ _ _ _ _ _ _ _ _ _
      | exact ih3 _ _ _ _ _ _ _ _ _ _ _ _ _ _
      | exact LeO.none _
      | refine LeO.ite ?_ ?_
      | refine LeO.bind ?_ (fun _ => ?_)
    · intro y0 y1 y2 y3 y4 y5 y6 y7 y8 y9 y10 y11 y12 y13
      unfold laws_sameSection9.l0
      repeat' first
      | (with_reducible exact ih0 _ _ _ _ _ _ _ _ _ _ _ _ _)
      | (with_reducible exact ih1 _ _ _ _ _ _ _ _ _ _ _ _ _ _)
      | (with_reducible exact ih2 _ _ _ _ _ _ _ _ _ _ _ _ _ _)
      | (with_reducible exact ih3 _ _ _ _ _ _ _ _ _ _ _ _ _ _)
      | (with_reducible exact LeO.refl _)
      | (with_reducible exact LeO.none _)
      | (with_reducible refine LeO.ite ?_ ?_)
      | (with_reducible refine LeO.bind ?_ (fun _ => ?_))
      | exact ih0 _ _ _ _ _ _ _ _ _ _ _ _ _
      | exact ih1 _ _ _ _ _ _ _ _ _ _ _ _ _ _
      | exact ih2 _ _ _ _ _ _ _ _ _ _ _ _ _ _
      | exact ih3 _ _ _ _ _ _ _ _ _ _ _ _ _ _
      | exact LeO.none _
      | refine LeO.ite ?_ ?_
      | refine LeO.bind ?_ (fun _ => ?_)
    · intro y0 y1 y2 y3 y4 y5 y6 y7 y8 y9 y10 y11 y12 y13
      unfold laws_sameSection9.l1
      repeat' first
      | (with_reducible exact ih0 _ _ _ _ _ _ _ _ _ _ _ _ _)
      | (with_reducible exact ih1 _ _ _ _ _ _ _ _ _ _ _ _ _ _)
      | (with_reducible exact ih2 _ _ _ _ _ _ _ _ _ _ _ _ _ _)
      | (with_reducible exact ih3 _ _ _ _ _ _ _ _ _ _ _ _ _ _)
      | (with_reducible exact LeO.refl _)
      | (with_reducible exact LeO.none _)
      | (with_reducible refine LeO.ite ?_ ?_)
      | (with_reducible refine LeO.bind ?_ (fun _ => ?_))
      | exact ih0 _ _ _ _ _ _ _ _ _ _ _ _ _
      | exact ih1 _ _ _ _ _ _ _ _ _ _ _ _ _ _
      | exact ih2 _ _ _ _ _ _ _ _ _ _ _ _ _ _
      | exact ih3 _ _ _ _ _ _ _ _ _ _ _ _ _ _
      | exact LeO.none _
      | refine LeO.ite ?_ ?_
      | refine LeO.bind ?_ (fun _ => ?_)
    · intro y0 y1 y2 y3 y4 y5 y6 y7 y8 y9 y10 y11 y12 y13
      unfold laws_sameSection9.l2
      repeat' first
      | (with_reducible exact ih0 _ _ _ _ _ _ _ _ _ _ _ _ _)
      | (with_reducible exact ih1 _ _ _ _ _ _ _ _ _ _ _ _ _ _)
      | (with_reducible exact ih2 _ _ _ _ _ _ _ _ _ _ _ _ _ _)
      | (with_reducible exact ih3 _ _ _ _ _ _ _ _ _ _ _ _ _ _)
      | (with_reducible exact LeO.refl _)
      | (with_reducible exact LeO.none _)
      | (with_reducible refine LeO.ite ?_ ?_)
      | (with_reducible refine LeO.bind ?_ (fun _ => ?_))
      | exact ih0 _ _ _ _ _ _ _ _ _ _ _ _ _
      | exact ih1 _ _ _ _ _ _ _ _ _ _ _ _ _ _
      | exact ih2 _ _ _ _ _ _ _ _ _ _ _ _ _ _
      | exact ih3 _ _ _ _ _ _ _ _ _ _ _ _ _ _
      | exact LeO.none _
      | refine LeO.ite ?_ ?_
      | refine LeO.bind ?_ (fun _ => ?_)
theorem laws_sameSection9.mono : ∀ a0 a1 a2 a3 a4 a5 a6 a7 a8 a9 a10 a11 k, LeO (laws_sameSection9.f k a0 a1 a2 a3 a4 a5 a6 a7 a8 a9 a10 a11) (laws_sameSection9.f (k + 1) a0 a1 a2 a3 a4 a5 a6 a7 a8 a9 a10 a11) := by
  intro a0 a1 a2 a3 a4 a5 a6 a7 a8 a9 a10 a11 k
  obtain ⟨ih0, ih1, ih2, ih3⟩ := laws_sameSection9.mono_l k
  unfold laws_sameSection9.f
  repeat' first
      | (with_reducible exact ih0 _ _ _ _ _ _ _ _ _ _ _ _ _)
      | (with_reducible exact ih1 _ _ _ _ _ _ _ _ _ _ _ _ _ _)
      | (with_reducible exact ih2 _ _ _ _ _ _ _ _ _ _ _ _ _ _)
      | (with_reducible exact ih3 _ _ _ _ _ _ _ _ _ _ _ _ _ _)
      | (with_reducible exact LeO.refl _)
      | (with_reducible exact LeO.none _)
      | (with_reducible refine LeO.ite ?_ ?_)
      | (with_reducible refine LeO.bind ?_ (fun _ => ?_))
      | exact ih0 _ _ _ _ _ _ _ _ _ _ _ _ _
      | exact ih1 _ _ _ _ _ _ _ _ _ _ _ _ _ _
      | exact ih2 _ _ _ _ _ _ _ _ _ _ _ _ _ _
      | exact ih3 _ _ _ _ _ _ _ _ _ _ _ _ _ _
      | exact LeO.none _
      | refine LeO.ite ?_ ?_
      | refine LeO.bind ?_ (fun _ => ?_)
set_option maxHeartbeats 8000000 in
set_option maxRecDepth 100000 in
theorem laws_sameSection9.calls (k : Nat) (A0_0 : Option Addr) (c0_0 : Nat) (l0_0 : List Int) (a0_1 : ByteArray) (A0_2 : Option Addr) (c0_2 : Nat) (l0_2 : List ByteArray) (a0_3 : Bool) (a0_4 : Bool) (A0_5 : Option Addr) (c0_5 : Nat) (l0_5 : List Int) (A1_0 : Option Addr) (c1_0 : Nat) (l1_0 : List Int) (a1_1 : ByteArray) (A1_2 : Option Addr) (c1_2 : Nat) (l1_2 : List ByteArray) (a1_3 : Bool) (a1_4 : Bool) (A1_5 : Option Addr) (c1_5 : Nat) (l1_5 : List Int) (r : Bool) (w : World) (hr0_0 : Kd.C (Kd.int .i64) w A0_0 l0_0.length l0_0) (hc0_0 : l0_0.length ≤ c0_0) (hr0_2 : Kd.C Kd.string w A0_2 l0_2.length l0_2) (hc0_2 : l0_2.length ≤ c0_2) (hr0_5 : Kd.C (Kd.int .i64) w A0_5 l0_5.length l0_5) (hc0_5 : l0_5.length ≤ c0_5) (hr1_0 : Kd.C (Kd.int .i64) w A1_0 l1_0.length l1_0) (hc1_0 : l1_0.length ≤ c1_0) (hr1_2 : Kd.C Kd.string w A1_2 l1_2.length l1_2) (hc1_2 : l1_2.length ≤ c1_2) (hr1_5 : Kd.C (Kd.int .i64) w A1_5 l1_5.length l1_5) (hc1_5 : l1_5.length ≤ c1_5) (h : laws_sameSection9.f k l0_0 a0_1 l0_2 a0_3 a0_4 l0_5 l1_0 a1_1 l1_2 a1_3 a1_4 l1_5 = some r) :
    Calls Tryz.prog 10 #[.agg #[.slice A0_0 l0_0.length c0_0, .string a0_1, .slice A0_2 l0_2.length c0_2, .bool a0_3, .bool a0_4, .slice A0_5 l0_5.length c0_5], .agg #[.slice A1_0 l1_0.length c1_0, .string a1_1, .slice A1_2 l1_2.length c1_2, .bool a1_3, .bool a1_4, .slice A1_5 l1_5.length c1_5]] w fun e w' => e = .returned (.bool r) ∧ Below w.heap.size w w' := by
  have hu25 := Tryz.underlying25
  have HR0_0 := Aside0.mk hr0_0
  have HC0_0 := Aside0.mk hc0_0
  clear hr0_0 hc0_0
  have HR0_2 := Aside0.mk hr0_2
  have HC0_2 := Aside0.mk hc0_2
  clear hr0_2 hc0_2
  have HR0_5 := Aside0.mk hr0_5
  have HC0_5 := Aside0.mk hc0_5
  clear hr0_5 hc0_5
  have HR1_0 := Aside0.mk hr1_0
  have HC1_0 := Aside0.mk hc1_0
  clear hr1_0 hc1_0
  have HR1_2 := Aside0.mk hr1_2
  have HC1_2 := Aside0.mk hc1_2
  clear hr1_2 hc1_2
  have HR1_5 := Aside0.mk hr1_5
  have HC1_5 := Aside0.mk hc1_5
  clear hr1_5 hc1_5
  have HB := Aside0.mk (Below.refl w.heap.size w)
  have H : (if a0_1.toList = a1_1.toList then (if (a0_3 != a1_3) = true then (laws_sameSection9.j0 k true l0_0 a0_1 l0_2 a0_3 a0_4 l0_5 l1_0 a1_1 l1_2 a1_3 a1_4 l1_5) else (if (a0_4 != a1_4) = true then (laws_sameSection9.j0 k true l0_0 a0_1 l0_2 a0_3 a0_4 l0_5 l1_0 a1_1 l1_2 a1_3 a1_4 l1_5) else (if (l0_0.length : Int) = (l1_0.length : Int) then (if (l0_2.length : Int) = (l1_2.length : Int) then (laws_sameSection9.j0 k ((l0_5.length : Int) != (l1_5.length : Int)) l0_0 a0_1 l0_2 a0_3 a0_4 l0_5 l1_0 a1_1 l1_2 a1_3 a1_4 l1_5) else (laws_sameSection9.j0 k true l0_0 a0_1 l0_2 a0_3 a0_4 l0_5 l1_0 a1_1 l1_2 a1_3 a1_4 l1_5)) else (laws_sameSection9.j0 k true l0_0 a0_1 l0_2 a0_3 a0_4 l0_5 l1_0 a1_1 l1_2 a1_3 a1_4 l1_5)))) else (laws_sameSection9.j0 k true l0_0 a0_1 l0_2 a0_3 a0_4 l0_5 l1_0 a1_1 l1_2 a1_3 a1_4 l1_5)) = some r := h
  clear h
  have HC3 := Aside0.mk H
  clear H
  go_enter Tryz.func10, Tryz.ntmps10
  go_upto_region 1 with (first | ((with_reducible refine gate_dst (N := 2) rfl ?_); (try (refine gate_guard (by rfl) ?_; dsimp only)); refine box_event ?hg (N := 2) ?hd (cs := #[.slice A0_0 l0_0.length c0_0, .string a0_1, .slice A0_2 l0_2.length c0_2, .bool a0_3, .bool a0_4, .slice A0_5 l0_5.length c0_5]) (t := 25) ?hr ?_; (case hd => rfl); (case hg => rfl); (case hr => first | (go_simp; done) | (go_simp; rfl)); intro gb153 hg w4 hbox hb; have n0_ := Aside0.mk (below_step (by repeat (first | (with_reducible first | exact HB.out | apply below_alloc | apply pw_below_drewN | apply below_drew1) | exact HB.out)) hb); have n1_ := Aside0.mk (hbox); have n2_ := Aside0.mk ((by rw [hg]; exact (below_size (by repeat (first | (with_reducible first | exact HB.out | apply below_alloc | apply pw_below_drewN | apply below_drew1) | exact HB.out))) : w.heap.size ≤ gb153)); have n3_ := Aside0.mk ((by rw [hg]; exact (below_size (by repeat (first | (with_reducible first | exact HB.out | apply below_alloc | apply pw_below_drewN | apply below_drew1) | exact HB.out))) : w.heap.size ≤ gb153)); clear HB; have HB := n0_; have BK153 := n1_; have GW153 := n2_; have GE153 := n3_; clear n0_ n1_ n2_ n3_; clear hb hbox hg) | ((with_reducible refine gate_dst (N := 3) rfl ?_); (try (refine gate_guard (by rfl) ?_; dsimp only)); refine box_event ?hg (N := 3) ?hd (cs := #[.slice A1_0 l1_0.length c1_0, .string a1_1, .slice A1_2 l1_2.length c1_2, .bool a1_3, .bool a1_4, .slice A1_5 l1_5.length c1_5]) (t := 25) ?hr ?_; (case hd => rfl); (case hg => rfl); (case hr => first | (go_simp; done) | (go_simp; rfl)); intro gb154 hg w5 hbox hb; have n0_ := Aside0.mk (blk_below (g := gb153) (o := .cells #[.slice A0_0 l0_0.length c0_0, .string a0_1, .slice A0_2 l0_2.length c0_2, .bool a0_3, .bool a0_4, .slice A0_5 l0_5.length c0_5] 25 (0, 0)) (by (with_reducible repeat (first | refine blk_drewN ?_ _ | refine blk_drew ?_ | refine blk_alloc ?_ _)); exact BK153.out) hb); have n1_ := Aside0.mk (below_step (by repeat (first | (with_reducible first | exact HB.out | apply below_alloc | apply pw_below_drewN | apply below_drew1 | refine below_set ?_ GE153.out) | exact HB.out)) hb); have n2_ := Aside0.mk (hbox); have n3_ := Aside0.mk ((by rw [hg]; exact (below_size (by repeat (first | (with_reducible first | exact HB.out | apply below_alloc | apply pw_below_drewN | apply below_drew1 | refine below_set ?_ GE153.out) | exact HB.out))) : w.heap.size ≤ gb154)); have n4_ := Aside0.mk ((by rw [hg]; exact (below_size (by repeat (first | (with_reducible first | exact HB.out | apply below_alloc | apply pw_below_drewN | apply below_drew1 | refine below_set ?_ GE153.out) | exact HB.out))) : w.heap.size ≤ gb154)); have n5_ := Aside0.mk ((by rw [hg]; exact Nat.ne_of_lt (blk_lt (g := gb153) (o := .cells #[.slice A0_0 l0_0.length c0_0, .string a0_1, .slice A0_2 l0_2.length c0_2, .bool a0_3, .bool a0_4, .slice A0_5 l0_5.length c0_5] 25 (0, 0)) (by (with_reducible repeat (first | refine blk_drewN ?_ _ | refine blk_drew ?_ | refine blk_alloc ?_ _)); exact BK153.out)) : gb153 ≠ gb154)); have n6_ := Aside0.mk ((by rw [hg]; exact Nat.ne_of_gt (blk_lt (g := gb153) (o := .cells #[.slice A0_0 l0_0.length c0_0, .string a0_1, .slice A0_2 l0_2.length c0_2, .bool a0_3, .bool a0_4, .slice A0_5 l0_5.length c0_5] 25 (0, 0)) (by (with_reducible repeat (first | refine blk_drewN ?_ _ | refine blk_drew ?_ | refine blk_alloc ?_ _)); exact BK153.out)) : gb154 ≠ gb153)); clear BK153; clear HB; have BK153 := n0_; have HB := n1_; have BK154 := n2_; have GW154 := n3_; have GE154 := n4_; have NB153_154 := n5_; have NB154_153 := n6_; clear n0_ n1_ n2_ n3_ n4_ n5_ n6_; clear hb hbox hg))
  repeat (go_quiet (first | ((with_reducible refine gate_dst (N := 2) rfl ?_); (try (refine gate_guard (by rfl) ?_; dsimp only)); refine box_event ?hg (N := 2) ?hd (cs := #[.slice A0_0 l0_0.length c0_0, .string a0_1, .slice A0_2 l0_2.length c0_2, .bool a0_3, .bool a0_4, .slice A0_5 l0_5.length c0_5]) (t := 25) ?hr ?_; (case hd => rfl); (case hg => rfl); (case hr => first | (go_simp; done) | (go_simp; rfl)); intro gb153 hg w4 hbox hb; have n0_ := Aside0.mk (below_step (by repeat (first | (with_reducible first | exact HB.out | apply below_alloc | apply pw_below_drewN | apply below_drew1) | exact HB.out)) hb); have n1_ := Aside0.mk (hbox); have n2_ := Aside0.mk ((by rw [hg]; exact (below_size (by repeat (first | (with_reducible first | exact HB.out | apply below_alloc | apply pw_below_drewN | apply below_drew1) | exact HB.out))) : w.heap.size ≤ gb153)); have n3_ := Aside0.mk ((by rw [hg]; exact (below_size (by repeat (first | (with_reducible first | exact HB.out | apply below_alloc | apply pw_below_drewN | apply below_drew1) | exact HB.out))) : w.heap.size ≤ gb153)); clear HB; have HB := n0_; have BK153 := n1_; have GW153 := n2_; have GE153 := n3_; clear n0_ n1_ n2_ n3_; clear hb hbox hg) | ((with_reducible refine gate_dst (N := 3) rfl ?_); (try (refine gate_guard (by rfl) ?_; dsimp only)); refine box_event ?hg (N := 3) ?hd (cs := #[.slice A1_0 l1_0.length c1_0, .string a1_1, .slice A1_2 l1_2.length c1_2, .bool a1_3, .bool a1_4, .slice A1_5 l1_5.length c1_5]) (t := 25) ?hr ?_; (case hd => rfl); (case hg => rfl); (case hr => first | (go_simp; done) | (go_simp; rfl)); intro gb154 hg w5 hbox hb; have n0_ := Aside0.mk (blk_below (g := gb153) (o := .cells #[.slice A0_0 l0_0.length c0_0, .string a0_1, .slice A0_2 l0_2.length c0_2, .bool a0_3, .bool a0_4, .slice A0_5 l0_5.length c0_5] 25 (0, 0)) (by (with_reducible repeat (first | refine blk_drewN ?_ _ | refine blk_drew ?_ | refine blk_alloc ?_ _)); exact BK153.out) hb); have n1_ := Aside0.mk (below_step (by repeat (first | (with_reducible first | exact HB.out | apply below_alloc | apply pw_below_drewN | apply below_drew1 | refine below_set ?_ GE153.out) | exact HB.out)) hb); have n2_ := Aside0.mk (hbox); have n3_ := Aside0.mk ((by rw [hg]; exact (below_size (by repeat (first | (with_reducible first | exact HB.out | apply below_alloc | apply pw_below_drewN | apply below_drew1 | refine below_set ?_ GE153.out) | exact HB.out))) : w.heap.size ≤ gb154)); have n4_ := Aside0.mk ((by rw [hg]; exact (below_size (by repeat (first | (with_reducible first | exact HB.out | apply below_alloc | apply pw_below_drewN | apply below_drew1 | refine below_set ?_ GE153.out) | exact HB.out))) : w.heap.size ≤ gb154)); have n5_ := Aside0.mk ((by rw [hg]; exact Nat.ne_of_lt (blk_lt (g := gb153) (o := .cells #[.slice A0_0 l0_0.length c0_0, .string a0_1, .slice A0_2 l0_2.length c0_2, .bool a0_3, .bool a0_4, .slice A0_5 l0_5.length c0_5] 25 (0, 0)) (by (with_reducible repeat (first | refine blk_drewN ?_ _ | refine blk_drew ?_ | refine blk_alloc ?_ _)); exact BK153.out)) : gb153 ≠ gb154)); have n6_ := Aside0.mk ((by rw [hg]; exact Nat.ne_of_gt (blk_lt (g := gb153) (o := .cells #[.slice A0_0 l0_0.length c0_0, .string a0_1, .slice A0_2 l0_2.length c0_2, .bool a0_3, .bool a0_4, .slice A0_5 l0_5.length c0_5] 25 (0, 0)) (by (with_reducible repeat (first | refine blk_drewN ?_ _ | refine blk_drew ?_ | refine blk_alloc ?_ _)); exact BK153.out)) : gb154 ≠ gb153)); clear BK153; clear HB; have BK153 := n0_; have HB := n1_; have BK154 := n2_; have GW154 := n3_; have GE154 := n4_; have NB153_154 := n5_; have NB154_153 := n6_; clear n0_ n1_ n2_ n3_ n4_ n5_ n6_; clear hb hbox hg)); go_upto_region 1 with (first | ((with_reducible refine gate_dst (N := 2) rfl ?_); (try (refine gate_guard (by rfl) ?_; dsimp only)); refine box_event ?hg (N := 2) ?hd (cs := #[.slice A0_0 l0_0.length c0_0, .string a0_1, .slice A0_2 l0_2.length c0_2, .bool a0_3, .bool a0_4, .slice A0_5 l0_5.length c0_5]) (t := 25) ?hr ?_; (case hd => rfl); (case hg => rfl); (case hr => first | (go_simp; done) | (go_simp; rfl)); intro gb153 hg w4 hbox hb; have n0_ := Aside0.mk (below_step (by repeat (first | (with_reducible first | exact HB.out | apply below_alloc | apply pw_below_drewN | apply below_drew1) | exact HB.out)) hb); have n1_ := Aside0.mk (hbox); have n2_ := Aside0.mk ((by rw [hg]; exact (below_size (by repeat (first | (with_reducible first | exact HB.out | apply below_alloc | apply pw_below_drewN | apply below_drew1) | exact HB.out))) : w.heap.size ≤ gb153)); have n3_ := Aside0.mk ((by rw [hg]; exact (below_size (by repeat (first | (with_reducible first | exact HB.out | apply below_alloc | apply pw_below_drewN | apply below_drew1) | exact HB.out))) : w.heap.size ≤ gb153)); clear HB; have HB := n0_; have BK153 := n1_; have GW153 := n2_; have GE153 := n3_; clear n0_ n1_ n2_ n3_; clear hb hbox hg) | ((with_reducible refine gate_dst (N := 3) rfl ?_); (try (refine gate_guard (by rfl) ?_; dsimp only)); refine box_event ?hg (N := 3) ?hd (cs := #[.slice A1_0 l1_0.length c1_0, .string a1_1, .slice A1_2 l1_2.length c1_2, .bool a1_3, .bool a1_4, .slice A1_5 l1_5.length c1_5]) (t := 25) ?hr ?_; (case hd => rfl); (case hg => rfl); (case hr => first | (go_simp; done) | (go_simp; rfl)); intro gb154 hg w5 hbox hb; have n0_ := Aside0.mk (blk_below (g := gb153) (o := .cells #[.slice A0_0 l0_0.length c0_0, .string a0_1, .slice A0_2 l0_2.length c0_2, .bool a0_3, .bool a0_4, .slice A0_5 l0_5.length c0_5] 25 (0, 0)) (by (with_reducible repeat (first | refine blk_drewN ?_ _ | refine blk_drew ?_ | refine blk_alloc ?_ _)); exact BK153.out) hb); have n1_ := Aside0.mk (below_step (by repeat (first | (with_reducible first | exact HB.out | apply below_alloc | apply pw_below_drewN | apply below_drew1 | refine below_set ?_ GE153.out) | exact HB.out)) hb); have n2_ := Aside0.mk (hbox); have n3_ := Aside0.mk ((by rw [hg]; exact (below_size (by repeat (first | (with_reducible first | exact HB.out | apply below_alloc | apply pw_below_drewN | apply below_drew1 | refine below_set ?_ GE153.out) | exact HB.out))) : w.heap.size ≤ gb154)); have n4_ := Aside0.mk ((by rw [hg]; exact (below_size (by repeat (first | (with_reducible first | exact HB.out | apply below_alloc | apply pw_below_drewN | apply below_drew1 | refine below_set ?_ GE153.out) | exact HB.out))) : w.heap.size ≤ gb154)); have n5_ := Aside0.mk ((by rw [hg]; exact Nat.ne_of_lt (blk_lt (g := gb153) (o := .cells #[.slice A0_0 l0_0.length c0_0, .string a0_1, .slice A0_2 l0_2.length c0_2, .bool a0_3, .bool a0_4, .slice A0_5 l0_5.length c0_5] 25 (0, 0)) (by (with_reducible repeat (first | refine blk_drewN ?_ _ | refine blk_drew ?_ | refine blk_alloc ?_ _)); exact BK153.out)) : gb153 ≠ gb154)); have n6_ := Aside0.mk ((by rw [hg]; exact Nat.ne_of_gt (blk_lt (g := gb153) (o := .cells #[.slice A0_0 l0_0.length c0_0, .string a0_1, .slice A0_2 l0_2.length c0_2, .bool a0_3, .bool a0_4, .slice A0_5 l0_5.length c0_5] 25 (0, 0)) (by (with_reducible repeat (first | refine blk_drewN ?_ _ | refine blk_drew ?_ | refine blk_alloc ?_ _)); exact BK153.out)) : gb154 ≠ gb153)); clear BK153; clear HB; have BK153 := n0_; have HB := n1_; have BK154 := n2_; have GW154 := n3_; have GE154 := n4_; have NB153_154 := n5_; have NB154_153 := n6_; clear n0_ n1_ n2_ n3_ n4_ n5_ n6_; clear hb hbox hg)))
  (try simp only [Act.put, List.setIfInBounds_toArray, List.set_cons_zero, List.set_cons_succ])
  go_cut [53] (fun v53 wc => ∃ (kq : Nat) (x53_2 : Bool), v53 = .bool x53_2 ∧ Aside0 (laws_sameSection9.j0 kq x53_2 l0_0 a0_1 l0_2 a0_3 a0_4 l0_5 l1_0 a1_1 l1_2 a1_3 a1_4 l1_5 = some r) ∧ Aside0 (kq ≤ k) ∧ Aside0 (wc.heap[gb153]? = some (.cells #[(.slice A0_0 l0_0.length c0_0), .string a0_1, (.slice A0_2 l0_2.length c0_2), .bool a0_3, .bool a0_4, (.slice A0_5 l0_5.length c0_5)] 25 (0, 0))) ∧ Aside0 (wc.heap[gb154]? = some (.cells #[(.slice A1_0 l1_0.length c1_0), .string a1_1, (.slice A1_2 l1_2.length c1_2), .bool a1_3, .bool a1_4, (.slice A1_5 l1_5.length c1_5)] 25 (0, 0))) ∧ Aside0 (Below w.heap.size w wc))
  case first =>
    have H := HC3.out
    clear HC3
    by_cases c6 : a0_1.toList = a1_1.toList
    · rw [if_pos c6] at H
      have c6b0 : (a0_1.toList == a1_1.toList) = true := beq_iff_eq.mpr c6
      have c6b1 : (a0_1.toList != a1_1.toList) = false := bne_eq_false_iff_eq.mpr c6
      clear c6
      (first | rw [c6b0] | (simp only [i64_w, i32_w]; rw [c6b0]) | skip)
      by_cases c7 : (a0_3 != a1_3) = true
      · rw [if_pos c7] at H
        have c7b0 : (a0_3 != a1_3) = true := c7
        (try (have c7b1 : decide (a0_3 = a1_3) = false := by simpa using c7))
        (try (have c7b2 : (a0_3 == a1_3) = false := by simpa using c7))
        (try (have c7b3 : ¬ (a0_3 = a1_3) := by simpa using c7))
        clear c7
        have H' := Aside0.mk H
        clear H
        have hnb8 := NB153_154.out
        have hnc8 := NB154_153.out
        have hcz9_0 : w5.cell? ⟨gb153, 0, none⟩ = some (.slice A0_0 l0_0.length c0_0) := (blk_cell BK153.out 0).trans rfl
        have hcz9_1 : w5.cell? ⟨gb153, 1, none⟩ = some (.string a0_1) := (blk_cell BK153.out 1).trans rfl
        have hcz9_2 : w5.cell? ⟨gb153, 2, none⟩ = some (.slice A0_2 l0_2.length c0_2) := (blk_cell BK153.out 2).trans rfl
        have hcz9_3 : w5.cell? ⟨gb153, 3, none⟩ = some (.bool a0_3) := (blk_cell BK153.out 3).trans rfl
        have hcz9_4 : w5.cell? ⟨gb153, 4, none⟩ = some (.bool a0_4) := (blk_cell BK153.out 4).trans rfl
        have hcz9_5 : w5.cell? ⟨gb153, 5, none⟩ = some (.slice A0_5 l0_5.length c0_5) := (blk_cell BK153.out 5).trans rfl
        have hfz9_0 := blk_frozen BK153.out 0
        have hfz9_1 := blk_frozen BK153.out 1
        have hfz9_2 := blk_frozen BK153.out 2
        have hfz9_3 := blk_frozen BK153.out 3
        have hfz9_4 := blk_frozen BK153.out 4
        have hfz9_5 := blk_frozen BK153.out 5
        have hcz10_0 : w5.cell? ⟨gb154, 0, none⟩ = some (.slice A1_0 l1_0.length c1_0) := (blk_cell BK154.out 0).trans rfl
        have hcz10_1 : w5.cell? ⟨gb154, 1, none⟩ = some (.string a1_1) := (blk_cell BK154.out 1).trans rfl
        have hcz10_2 : w5.cell? ⟨gb154, 2, none⟩ = some (.slice A1_2 l1_2.length c1_2) := (blk_cell BK154.out 2).trans rfl
        have hcz10_3 : w5.cell? ⟨gb154, 3, none⟩ = some (.bool a1_3) := (blk_cell BK154.out 3).trans rfl
        have hcz10_4 : w5.cell? ⟨gb154, 4, none⟩ = some (.bool a1_4) := (blk_cell BK154.out 4).trans rfl
        have hcz10_5 : w5.cell? ⟨gb154, 5, none⟩ = some (.slice A1_5 l1_5.length c1_5) := (blk_cell BK154.out 5).trans rfl
        have hfz10_0 := blk_frozen BK154.out 0
        have hfz10_1 := blk_frozen BK154.out 1
        have hfz10_2 := blk_frozen BK154.out 2
        have hfz10_3 := blk_frozen BK154.out 3
        have hfz10_4 := blk_frozen BK154.out 4
        have hfz10_5 := blk_frozen BK154.out 5
        go_wp2
        repeat (go_quiet (fail); try go_wp2)
        go_meet
        case rel => exact ⟨_, (true), (by first | rfl | (simp; done) | (simp [*]; done)), H', ⟨by first | omega | exact Nat.le_refl _⟩, ⟨by (with_reducible repeat (first | refine blk_drewN ?_ _ | refine blk_drew ?_ | refine blk_alloc ?_ _)); exact BK153.out⟩, ⟨by (with_reducible repeat (first | refine blk_drewN ?_ _ | refine blk_drew ?_ | refine blk_alloc ?_ _)); exact BK154.out⟩, ⟨by repeat (first | (with_reducible first | exact HB.out | apply below_alloc | apply pw_below_drewN | apply below_drew1 | refine below_set ?_ GE153.out | refine below_set ?_ GE154.out) | exact HB.out)⟩⟩
      · rw [if_neg c7] at H
        have c7b0 : (a0_3 != a1_3) = false := by simpa using c7
        (try (have c7b1 : decide (a0_3 = a1_3) = true := by simpa using c7))
        (try (have c7b2 : (a0_3 == a1_3) = true := by simpa using c7))
        clear c7
        by_cases c11 : (a0_4 != a1_4) = true
        · rw [if_pos c11] at H
          have c11b0 : (a0_4 != a1_4) = true := c11
          (try (have c11b1 : decide (a0_4 = a1_4) = false := by simpa using c11))
          (try (have c11b2 : (a0_4 == a1_4) = false := by simpa using c11))
          (try (have c11b3 : ¬ (a0_4 = a1_4) := by simpa using c11))
          clear c11
          have H' := Aside0.mk H
          clear H
          have hnb12 := NB153_154.out
          have hnc12 := NB154_153.out
          have hcz13_0 : w5.cell? ⟨gb153, 0, none⟩ = some (.slice A0_0 l0_0.length c0_0) := (blk_cell BK153.out 0).trans rfl
          have hcz13_1 : w5.cell? ⟨gb153, 1, none⟩ = some (.string a0_1) := (blk_cell BK153.out 1).trans rfl
          have hcz13_2 : w5.cell? ⟨gb153, 2, none⟩ = some (.slice A0_2 l0_2.length c0_2) := (blk_cell BK153.out 2).trans rfl
          have hcz13_3 : w5.cell? ⟨gb153, 3, none⟩ = some (.bool a0_3) := (blk_cell BK153.out 3).trans rfl
          have hcz13_4 : w5.cell? ⟨gb153, 4, none⟩ = some (.bool a0_4) := (blk_cell BK153.out 4).trans rfl
          have hcz13_5 : w5.cell? ⟨gb153, 5, none⟩ = some (.slice A0_5 l0_5.length c0_5) := (blk_cell BK153.out 5).trans rfl
          have hfz13_0 := blk_frozen BK153.out 0
          have hfz13_1 := blk_frozen BK153.out 1
          have hfz13_2 := blk_frozen BK153.out 2
          have hfz13_3 := blk_frozen BK153.out 3
          have hfz13_4 := blk_frozen BK153.out 4
          have hfz13_5 := blk_frozen BK153.out 5
          have hcz14_0 : w5.cell? ⟨gb154, 0, none⟩ = some (.slice A1_0 l1_0.length c1_0) := (blk_cell BK154.out 0).trans rfl
          have hcz14_1 : w5.cell? ⟨gb154, 1, none⟩ = some (.string a1_1) := (blk_cell BK154.out 1).trans rfl
          have hcz14_2 : w5.cell? ⟨gb154, 2, none⟩ = some (.slice A1_2 l1_2.length c1_2) := (blk_cell BK154.out 2).trans rfl
          have hcz14_3 : w5.cell? ⟨gb154, 3, none⟩ = some (.bool a1_3) := (blk_cell BK154.out 3).trans rfl
          have hcz14_4 : w5.cell? ⟨gb154, 4, none⟩ = some (.bool a1_4) := (blk_cell BK154.out 4).trans rfl
          have hcz14_5 : w5.cell? ⟨gb154, 5, none⟩ = some (.slice A1_5 l1_5.length c1_5) := (blk_cell BK154.out 5).trans rfl
          have hfz14_0 := blk_frozen BK154.out 0
          have hfz14_1 := blk_frozen BK154.out 1
          have hfz14_2 := blk_frozen BK154.out 2
          have hfz14_3 := blk_frozen BK154.out 3
          have hfz14_4 := blk_frozen BK154.out 4
          have hfz14_5 := blk_frozen BK154.out 5
          go_wp2
          repeat (go_quiet (fail); try go_wp2)
          go_meet
          case rel => exact ⟨_, (true), (by first | rfl | (simp; done) | (simp [*]; done)), H', ⟨by first | omega | exact Nat.le_refl _⟩, ⟨by (with_reducible repeat (first | refine blk_drewN ?_ _ | refine blk_drew ?_ | refine blk_alloc ?_ _)); exact BK153.out⟩, ⟨by (with_reducible repeat (first | refine blk_drewN ?_ _ | refine blk_drew ?_ | refine blk_alloc ?_ _)); exact BK154.out⟩, ⟨by repeat (first | (with_reducible first | exact HB.out | apply below_alloc | apply pw_below_drewN | apply below_drew1 | refine below_set ?_ GE153.out | refine below_set ?_ GE154.out) | exact HB.out)⟩⟩
        · rw [if_neg c11] at H
          have c11b0 : (a0_4 != a1_4) = false := by simpa using c11
          (try (have c11b1 : decide (a0_4 = a1_4) = true := by simpa using c11))
          (try (have c11b2 : (a0_4 == a1_4) = true := by simpa using c11))
          clear c11
          by_cases c15 : (l0_0.length : Int) = (l1_0.length : Int)
          · rw [if_pos c15] at H
            have c15b0 : ((l0_0.length : Int) == (l1_0.length : Int)) = true := beq_iff_eq.mpr c15
            have c15b1 : ((l0_0.length : Int) != (l1_0.length : Int)) = false := bne_eq_false_iff_eq.mpr c15
            have c15b2 : (l0_0.length == l1_0.length) = true := by first | simpa using c15 | (simp at c15 ⊢; omega)
            clear c15
            by_cases c16 : (l0_2.length : Int) = (l1_2.length : Int)
            · rw [if_pos c16] at H
              have c16b0 : ((l0_2.length : Int) == (l1_2.length : Int)) = true := beq_iff_eq.mpr c16
              have c16b1 : ((l0_2.length : Int) != (l1_2.length : Int)) = false := bne_eq_false_iff_eq.mpr c16
              have c16b2 : (l0_2.length == l1_2.length) = true := by first | simpa using c16 | (simp at c16 ⊢; omega)
              clear c16
              have H' := Aside0.mk H
              clear H
              have hnb17 := NB153_154.out
              have hnc17 := NB154_153.out
              have hcz18_0 : w5.cell? ⟨gb153, 0, none⟩ = some (.slice A0_0 l0_0.length c0_0) := (blk_cell BK153.out 0).trans rfl
              have hcz18_1 : w5.cell? ⟨gb153, 1, none⟩ = some (.string a0_1) := (blk_cell BK153.out 1).trans rfl
              have hcz18_2 : w5.cell? ⟨gb153, 2, none⟩ = some (.slice A0_2 l0_2.length c0_2) := (blk_cell BK153.out 2).trans rfl
              have hcz18_3 : w5.cell? ⟨gb153, 3, none⟩ = some (.bool a0_3) := (blk_cell BK153.out 3).trans rfl
              have hcz18_4 : w5.cell? ⟨gb153, 4, none⟩ = some (.bool a0_4) := (blk_cell BK153.out 4).trans rfl
              have hcz18_5 : w5.cell? ⟨gb153, 5, none⟩ = some (.slice A0_5 l0_5.length c0_5) := (blk_cell BK153.out 5).trans rfl
              have hfz18_0 := blk_frozen BK153.out 0
              have hfz18_1 := blk_frozen BK153.out 1
              have hfz18_2 := blk_frozen BK153.out 2
              have hfz18_3 := blk_frozen BK153.out 3
              have hfz18_4 := blk_frozen BK153.out 4
              have hfz18_5 := blk_frozen BK153.out 5
              have hcz19_0 : w5.cell? ⟨gb154, 0, none⟩ = some (.slice A1_0 l1_0.length c1_0) := (blk_cell BK154.out 0).trans rfl
              have hcz19_1 : w5.cell? ⟨gb154, 1, none⟩ = some (.string a1_1) := (blk_cell BK154.out 1).trans rfl
              have hcz19_2 : w5.cell? ⟨gb154, 2, none⟩ = some (.slice A1_2 l1_2.length c1_2) := (blk_cell BK154.out 2).trans rfl
              have hcz19_3 : w5.cell? ⟨gb154, 3, none⟩ = some (.bool a1_3) := (blk_cell BK154.out 3).trans rfl
              have hcz19_4 : w5.cell? ⟨gb154, 4, none⟩ = some (.bool a1_4) := (blk_cell BK154.out 4).trans rfl
              have hcz19_5 : w5.cell? ⟨gb154, 5, none⟩ = some (.slice A1_5 l1_5.length c1_5) := (blk_cell BK154.out 5).trans rfl
              have hfz19_0 := blk_frozen BK154.out 0
              have hfz19_1 := blk_frozen BK154.out 1
              have hfz19_2 := blk_frozen BK154.out 2
              have hfz19_3 := blk_frozen BK154.out 3
              have hfz19_4 := blk_frozen BK154.out 4
              have hfz19_5 := blk_frozen BK154.out 5
              go_wp2
              repeat (go_quiet (fail); try go_wp2)
              go_meet
              case rel => exact ⟨_, (((l0_5.length : Int) != (l1_5.length : Int))), (by first | rfl | (simp; done) | (simp [*]; done)), H', ⟨by first | omega | exact Nat.le_refl _⟩, ⟨by (with_reducible repeat (first | refine blk_drewN ?_ _ | refine blk_drew ?_ | refine blk_alloc ?_ _)); exact BK153.out⟩, ⟨by (with_reducible repeat (first | refine blk_drewN ?_ _ | refine blk_drew ?_ | refine blk_alloc ?_ _)); exact BK154.out⟩, ⟨by repeat (first | (with_reducible first | exact HB.out | apply below_alloc | apply pw_below_drewN | apply below_drew1 | refine below_set ?_ GE153.out | refine below_set ?_ GE154.out) | exact HB.out)⟩⟩
            · rw [if_neg c16] at H
              have c16b0 : ((l0_2.length : Int) == (l1_2.length : Int)) = false := beq_eq_false_iff_ne.mpr c16
              have c16b1 : ((l0_2.length : Int) != (l1_2.length : Int)) = true := bne_iff_ne.mpr c16
              have c16b2 : (l0_2.length == l1_2.length) = false := by first | simpa using c16 | (simp at c16 ⊢; omega)
              have H' := Aside0.mk H
              clear H
              have hnb20 := NB153_154.out
              have hnc20 := NB154_153.out
              have hcz21_0 : w5.cell? ⟨gb153, 0, none⟩ = some (.slice A0_0 l0_0.length c0_0) := (blk_cell BK153.out 0).trans rfl
              have hcz21_1 : w5.cell? ⟨gb153, 1, none⟩ = some (.string a0_1) := (blk_cell BK153.out 1).trans rfl
              have hcz21_2 : w5.cell? ⟨gb153, 2, none⟩ = some (.slice A0_2 l0_2.length c0_2) := (blk_cell BK153.out 2).trans rfl
              have hcz21_3 : w5.cell? ⟨gb153, 3, none⟩ = some (.bool a0_3) := (blk_cell BK153.out 3).trans rfl
              have hcz21_4 : w5.cell? ⟨gb153, 4, none⟩ = some (.bool a0_4) := (blk_cell BK153.out 4).trans rfl
              have hcz21_5 : w5.cell? ⟨gb153, 5, none⟩ = some (.slice A0_5 l0_5.length c0_5) := (blk_cell BK153.out 5).trans rfl
              have hfz21_0 := blk_frozen BK153.out 0
              have hfz21_1 := blk_frozen BK153.out 1
              have hfz21_2 := blk_frozen BK153.out 2
              have hfz21_3 := blk_frozen BK153.out 3
              have hfz21_4 := blk_frozen BK153.out 4
              have hfz21_5 := blk_frozen BK153.out 5
              have hcz22_0 : w5.cell? ⟨gb154, 0, none⟩ = some (.slice A1_0 l1_0.length c1_0) := (blk_cell BK154.out 0).trans rfl
              have hcz22_1 : w5.cell? ⟨gb154, 1, none⟩ = some (.string a1_1) := (blk_cell BK154.out 1).trans rfl
              have hcz22_2 : w5.cell? ⟨gb154, 2, none⟩ = some (.slice A1_2 l1_2.length c1_2) := (blk_cell BK154.out 2).trans rfl
              have hcz22_3 : w5.cell? ⟨gb154, 3, none⟩ = some (.bool a1_3) := (blk_cell BK154.out 3).trans rfl
              have hcz22_4 : w5.cell? ⟨gb154, 4, none⟩ = some (.bool a1_4) := (blk_cell BK154.out 4).trans rfl
              have hcz22_5 : w5.cell? ⟨gb154, 5, none⟩ = some (.slice A1_5 l1_5.length c1_5) := (blk_cell BK154.out 5).trans rfl
              have hfz22_0 := blk_frozen BK154.out 0
              have hfz22_1 := blk_frozen BK154.out 1
              have hfz22_2 := blk_frozen BK154.out 2
              have hfz22_3 := blk_frozen BK154.out 3
              have hfz22_4 := blk_frozen BK154.out 4
              have hfz22_5 := blk_frozen BK154.out 5
              go_wp2
              repeat (go_quiet (fail); try go_wp2)
              go_meet
              case rel => exact ⟨_, (true), (by first | rfl | (simp; done) | (simp [*]; done)), H', ⟨by first | omega | exact Nat.le_refl _⟩, ⟨by (with_reducible repeat (first | refine blk_drewN ?_ _ | refine blk_drew ?_ | refine blk_alloc ?_ _)); exact BK153.out⟩, ⟨by (with_reducible repeat (first | refine blk_drewN ?_ _ | refine blk_drew ?_ | refine blk_alloc ?_ _)); exact BK154.out⟩, ⟨by repeat (first | (with_reducible first | exact HB.out | apply below_alloc | apply pw_below_drewN | apply below_drew1 | refine below_set ?_ GE153.out | refine below_set ?_ GE154.out) | exact HB.out)⟩⟩
          · rw [if_neg c15] at H
            have c15b0 : ((l0_0.length : Int) == (l1_0.length : Int)) = false := beq_eq_false_iff_ne.mpr c15
            have c15b1 : ((l0_0.length : Int) != (l1_0.length : Int)) = true := bne_iff_ne.mpr c15
            have c15b2 : (l0_0.length == l1_0.length) = false := by first | simpa using c15 | (simp at c15 ⊢; omega)
            have H' := Aside0.mk H
            clear H
            have hnb23 := NB153_154.out
            have hnc23 := NB154_153.out
            have hcz24_0 : w5.cell? ⟨gb153, 0, none⟩ = some (.slice A0_0 l0_0.length c0_0) := (blk_cell BK153.out 0).trans rfl
            have hcz24_1 : w5.cell? ⟨gb153, 1, none⟩ = some (.string a0_1) := (blk_cell BK153.out 1).trans rfl
            have hcz24_2 : w5.cell? ⟨gb153, 2, none⟩ = some (.slice A0_2 l0_2.length c0_2) := (blk_cell BK153.out 2).trans rfl
            have hcz24_3 : w5.cell? ⟨gb153, 3, none⟩ = some (.bool a0_3) := (blk_cell BK153.out 3).trans rfl
            have hcz24_4 : w5.cell? ⟨gb153, 4, none⟩ = some (.bool a0_4) := (blk_cell BK153.out 4).trans rfl
            have hcz24_5 : w5.cell? ⟨gb153, 5, none⟩ = some (.slice A0_5 l0_5.length c0_5) := (blk_cell BK153.out 5).trans rfl
            have hfz24_0 := blk_frozen BK153.out 0
            have hfz24_1 := blk_frozen BK153.out 1
            have hfz24_2 := blk_frozen BK153.out 2
            have hfz24_3 := blk_frozen BK153.out 3
            have hfz24_4 := blk_frozen BK153.out 4
            have hfz24_5 := blk_frozen BK153.out 5
            have hcz25_0 : w5.cell? ⟨gb154, 0, none⟩ = some (.slice A1_0 l1_0.length c1_0) := (blk_cell BK154.out 0).trans rfl
            have hcz25_1 : w5.cell? ⟨gb154, 1, none⟩ = some (.string a1_1) := (blk_cell BK154.out 1).trans rfl
            have hcz25_2 : w5.cell? ⟨gb154, 2, none⟩ = some (.slice A1_2 l1_2.length c1_2) := (blk_cell BK154.out 2).trans rfl
            have hcz25_3 : w5.cell? ⟨gb154, 3, none⟩ = some (.bool a1_3) := (blk_cell BK154.out 3).trans rfl
            have hcz25_4 : w5.cell? ⟨gb154, 4, none⟩ = some (.bool a1_4) := (blk_cell BK154.out 4).trans rfl
            have hcz25_5 : w5.cell? ⟨gb154, 5, none⟩ = some (.slice A1_5 l1_5.length c1_5) := (blk_cell BK154.out 5).trans rfl
            have hfz25_0 := blk_frozen BK154.out 0
            have hfz25_1 := blk_frozen BK154.out 1
            have hfz25_2 := blk_frozen BK154.out 2
            have hfz25_3 := blk_frozen BK154.out 3
            have hfz25_4 := blk_frozen BK154.out 4
            have hfz25_5 := blk_frozen BK154.out 5
            go_wp2
            repeat (go_quiet (fail); try go_wp2)
            go_meet
            case rel => exact ⟨_, (true), (by first | rfl | (simp; done) | (simp [*]; done)), H', ⟨by first | omega | exact Nat.le_refl _⟩, ⟨by (with_reducible repeat (first | refine blk_drewN ?_ _ | refine blk_drew ?_ | refine blk_alloc ?_ _)); exact BK153.out⟩, ⟨by (with_reducible repeat (first | refine blk_drewN ?_ _ | refine blk_drew ?_ | refine blk_alloc ?_ _)); exact BK154.out⟩, ⟨by repeat (first | (with_reducible first | exact HB.out | apply below_alloc | apply pw_below_drewN | apply below_drew1 | refine below_set ?_ GE153.out | refine below_set ?_ GE154.out) | exact HB.out)⟩⟩
    · rw [if_neg c6] at H
      have c6b0 : (a0_1.toList == a1_1.toList) = false := beq_eq_false_iff_ne.mpr c6
      have c6b1 : (a0_1.toList != a1_1.toList) = true := bne_iff_ne.mpr c6
      (first | rw [c6b0] | (simp only [i64_w, i32_w]; rw [c6b0]) | skip)
      have H' := Aside0.mk H
      clear H
      have hnb26 := NB153_154.out
      have hnc26 := NB154_153.out
      have hcz27_0 : w5.cell? ⟨gb153, 0, none⟩ = some (.slice A0_0 l0_0.length c0_0) := (blk_cell BK153.out 0).trans rfl
      have hcz27_1 : w5.cell? ⟨gb153, 1, none⟩ = some (.string a0_1) := (blk_cell BK153.out 1).trans rfl
      have hcz27_2 : w5.cell? ⟨gb153, 2, none⟩ = some (.slice A0_2 l0_2.length c0_2) := (blk_cell BK153.out 2).trans rfl
      have hcz27_3 : w5.cell? ⟨gb153, 3, none⟩ = some (.bool a0_3) := (blk_cell BK153.out 3).trans rfl
      have hcz27_4 : w5.cell? ⟨gb153, 4, none⟩ = some (.bool a0_4) := (blk_cell BK153.out 4).trans rfl
      have hcz27_5 : w5.cell? ⟨gb153, 5, none⟩ = some (.slice A0_5 l0_5.length c0_5) := (blk_cell BK153.out 5).trans rfl
      have hfz27_0 := blk_frozen BK153.out 0
      have hfz27_1 := blk_frozen BK153.out 1
      have hfz27_2 := blk_frozen BK153.out 2
      have hfz27_3 := blk_frozen BK153.out 3
      have hfz27_4 := blk_frozen BK153.out 4
      have hfz27_5 := blk_frozen BK153.out 5
      have hcz28_0 : w5.cell? ⟨gb154, 0, none⟩ = some (.slice A1_0 l1_0.length c1_0) := (blk_cell BK154.out 0).trans rfl
      have hcz28_1 : w5.cell? ⟨gb154, 1, none⟩ = some (.string a1_1) := (blk_cell BK154.out 1).trans rfl
      have hcz28_2 : w5.cell? ⟨gb154, 2, none⟩ = some (.slice A1_2 l1_2.length c1_2) := (blk_cell BK154.out 2).trans rfl
      have hcz28_3 : w5.cell? ⟨gb154, 3, none⟩ = some (.bool a1_3) := (blk_cell BK154.out 3).trans rfl
      have hcz28_4 : w5.cell? ⟨gb154, 4, none⟩ = some (.bool a1_4) := (blk_cell BK154.out 4).trans rfl
      have hcz28_5 : w5.cell? ⟨gb154, 5, none⟩ = some (.slice A1_5 l1_5.length c1_5) := (blk_cell BK154.out 5).trans rfl
      have hfz28_0 := blk_frozen BK154.out 0
      have hfz28_1 := blk_frozen BK154.out 1
      have hfz28_2 := blk_frozen BK154.out 2
      have hfz28_3 := blk_frozen BK154.out 3
      have hfz28_4 := blk_frozen BK154.out 4
      have hfz28_5 := blk_frozen BK154.out 5
      go_wp2
      repeat (go_quiet (fail); try go_wp2)
      go_meet
      case rel => exact ⟨_, (true), (by first | rfl | (simp; done) | (simp [*]; done)), H', ⟨by first | omega | exact Nat.le_refl _⟩, ⟨by (with_reducible repeat (first | refine blk_drewN ?_ _ | refine blk_drew ?_ | refine blk_alloc ?_ _)); exact BK153.out⟩, ⟨by (with_reducible repeat (first | refine blk_drewN ?_ _ | refine blk_drew ?_ | refine blk_alloc ?_ _)); exact BK154.out⟩, ⟨by repeat (first | (with_reducible first | exact HB.out | apply below_alloc | apply pw_below_drewN | apply below_drew1 | refine below_set ?_ GE153.out | refine below_set ?_ GE154.out) | exact HB.out)⟩⟩
  case rest =>
    clear HC3
    try clear c1
    try clear c2
    try clear p2
    try clear c6
    try clear c6b0
    try clear c6b1
    try clear c7
    try clear c7b0
    try clear c7b1
    try clear c7b2
    try clear c8
    try clear c10
    try clear c11
    try clear c11b0
    try clear c11b1
    try clear c11b2
    try clear c12
    try clear c15
    try clear c15b0
    try clear c15b1
    try clear c15b2
    try clear c16
    try clear c16b0
    try clear c16b1
    try clear c16b2
    try clear c17
    try clear c20
    try clear c23
    try clear c26
    try clear hcz10_0
    try clear hcz10_1
    try clear hcz10_2
    try clear hcz10_3
    try clear hcz10_4
    try clear hcz10_5
    try clear hcz13_0
    try clear hcz13_1
    try clear hcz13_2
    try clear hcz13_3
    try clear hcz13_4
    try clear hcz13_5
    try clear hcz14_0
    try clear hcz14_1
    try clear hcz14_2
    try clear hcz14_3
    try clear hcz14_4
    try clear hcz14_5
    try clear hcz18_0
    try clear hcz18_1
    try clear hcz18_2
    try clear hcz18_3
    try clear hcz18_4
    try clear hcz18_5
    try clear hcz19_0
    try clear hcz19_1
    try clear hcz19_2
    try clear hcz19_3
    try clear hcz19_4
    try clear hcz19_5
    try clear hcz21_0
    try clear hcz21_1
    try clear hcz21_2
    try clear hcz21_3
    try clear hcz21_4
    try clear hcz21_5
    try clear hcz22_0
    try clear hcz22_1
    try clear hcz22_2
    try clear hcz22_3
    try clear hcz22_4
    try clear hcz22_5
    try clear hcz24_0
    try clear hcz24_1
    try clear hcz24_2
    try clear hcz24_3
    try clear hcz24_4
    try clear hcz24_5
    try clear hcz25_0
    try clear hcz25_1
    try clear hcz25_2
    try clear hcz25_3
    try clear hcz25_4
    try clear hcz25_5
    try clear hcz27_0
    try clear hcz27_1
    try clear hcz27_2
    try clear hcz27_3
    try clear hcz27_4
    try clear hcz27_5
    try clear hcz28_0
    try clear hcz28_1
    try clear hcz28_2
    try clear hcz28_3
    try clear hcz28_4
    try clear hcz28_5
    try clear hcz9_0
    try clear hcz9_1
    try clear hcz9_2
    try clear hcz9_3
    try clear hcz9_4
    try clear hcz9_5
    try clear hfz10_0
    try clear hfz10_1
    try clear hfz10_2
    try clear hfz10_3
    try clear hfz10_4
    try clear hfz10_5
    try clear hfz13_0
    try clear hfz13_1
    try clear hfz13_2
    try clear hfz13_3
    try clear hfz13_4
    try clear hfz13_5
    try clear hfz14_0
    try clear hfz14_1
    try clear hfz14_2
    try clear hfz14_3
    try clear hfz14_4
    try clear hfz14_5
    try clear hfz18_0
    try clear hfz18_1
    try clear hfz18_2
    try clear hfz18_3
    try clear hfz18_4
    try clear hfz18_5
    try clear hfz19_0
    try clear hfz19_1
    try clear hfz19_2
    try clear hfz19_3
    try clear hfz19_4
    try clear hfz19_5
    try clear hfz21_0
    try clear hfz21_1
    try clear hfz21_2
    try clear hfz21_3
    try clear hfz21_4
    try clear hfz21_5
    try clear hfz22_0
    try clear hfz22_1
    try clear hfz22_2
    try clear hfz22_3
    try clear hfz22_4
    try clear hfz22_5
    try clear hfz24_0
    try clear hfz24_1
    try clear hfz24_2
    try clear hfz24_3
    try clear hfz24_4
    try clear hfz24_5
    try clear hfz25_0
    try clear hfz25_1
    try clear hfz25_2
    try clear hfz25_3
    try clear hfz25_4
    try clear hfz25_5
    try clear hfz27_0
    try clear hfz27_1
    try clear hfz27_2
    try clear hfz27_3
    try clear hfz27_4
    try clear hfz27_5
    try clear hfz28_0
    try clear hfz28_1
    try clear hfz28_2
    try clear hfz28_3
    try clear hfz28_4
    try clear hfz28_5
    try clear hfz9_0
    try clear hfz9_1
    try clear hfz9_2
    try clear hfz9_3
    try clear hfz9_4
    try clear hfz9_5
    obtain ⟨kq, x53_2, rfl, HA, HJ2, BK153, BK154, HB⟩ := hcut
    cases kq with
    | zero => exact absurd HA.out (by simp [laws_sameSection9.j0])
    | succ kj2 =>
      have H := HA.out
      clear HA
      simp only [laws_sameSection9.j0] at H
      by_cases c29 : x53_2 = true
      · subst c29
        have H1 : (some false) = some r := by rw [if_pos rfl] at H; exact H
        clear H
        have H := H1
        clear H1
        obtain rfl := Option.some.inj H
        go_wp2
        repeat (go_quiet (fail); try go_wp2)
        go_ret
        exact ⟨by first | rfl | (simp [errW_none, errW_some] <;> rfl) | (simp [*, errW_none, errW_some] <;> rfl), by repeat (first | (with_reducible first | exact HB.out | apply below_alloc | apply pw_below_drewN | apply below_drew1 | refine below_set ?_ GE153.out | refine below_set ?_ GE154.out) | exact HB.out)⟩
      · replace c29 := Bool.eq_false_iff.mpr c29
        subst c29
        have H1 : (laws_sameSection9.l0 kj2 (l0_0.length : Int) 0 l0_0 a0_1 l0_2 a0_3 a0_4 l0_5 l1_0 a1_1 l1_2 a1_3 a1_4 l1_5) = some r := by rw [if_neg (show ¬ (false = true) by decide)] at H; exact H
        clear H
        have H := H1
        clear H1
        have H' := Aside0.mk H
        clear H
        have hnb30 := NB153_154.out
        have hnc30 := NB154_153.out
        have hcz31_0 : wc.cell? ⟨gb153, 0, none⟩ = some (.slice A0_0 l0_0.length c0_0) := (blk_cell BK153.out 0).trans rfl
        have hcz31_1 : wc.cell? ⟨gb153, 1, none⟩ = some (.string a0_1) := (blk_cell BK153.out 1).trans rfl
        have hcz31_2 : wc.cell? ⟨gb153, 2, none⟩ = some (.slice A0_2 l0_2.length c0_2) := (blk_cell BK153.out 2).trans rfl
        have hcz31_3 : wc.cell? ⟨gb153, 3, none⟩ = some (.bool a0_3) := (blk_cell BK153.out 3).trans rfl
        have hcz31_4 : wc.cell? ⟨gb153, 4, none⟩ = some (.bool a0_4) := (blk_cell BK153.out 4).trans rfl
        have hcz31_5 : wc.cell? ⟨gb153, 5, none⟩ = some (.slice A0_5 l0_5.length c0_5) := (blk_cell BK153.out 5).trans rfl
        have hfz31_0 := blk_frozen BK153.out 0
        have hfz31_1 := blk_frozen BK153.out 1
        have hfz31_2 := blk_frozen BK153.out 2
        have hfz31_3 := blk_frozen BK153.out 3
        have hfz31_4 := blk_frozen BK153.out 4
        have hfz31_5 := blk_frozen BK153.out 5
        go_wp2
        repeat (go_quiet (fail); try go_wp2)
        go_loopg [57] kj2 (fun kq v57 w' => ∃ (x57_2 : Int), v57 = .int .i64 x57_2 ∧ Aside0 (laws_sameSection9.l0 kq (l0_0.length : Int) x57_2 l0_0 a0_1 l0_2 a0_3 a0_4 l0_5 l1_0 a1_1 l1_2 a1_3 a1_4 l1_5 = some r) ∧ Aside0 (kq ≤ kj2) ∧ Aside0 (w'.heap[gb153]? = some (.cells #[(.slice A0_0 l0_0.length c0_0), .string a0_1, (.slice A0_2 l0_2.length c0_2), .bool a0_3, .bool a0_4, (.slice A0_5 l0_5.length c0_5)] 25 (0, 0))) ∧ Aside0 (w'.heap[gb154]? = some (.cells #[(.slice A1_0 l1_0.length c1_0), .string a1_1, (.slice A1_2 l1_2.length c1_2), .bool a1_3, .bool a1_4, (.slice A1_5 l1_5.length c1_5)] 25 (0, 0))) ∧ Aside0 (Below w.heap.size w w'))
        case atStart => exact ⟨(0), (by first | rfl | (simp; done) | (simp [*]; done)), H', ⟨Nat.le_refl _⟩, ⟨by (with_reducible repeat (first | refine blk_drewN ?_ _ | refine blk_drew ?_ | refine blk_alloc ?_ _)); exact BK153.out⟩, ⟨by (with_reducible repeat (first | refine blk_drewN ?_ _ | refine blk_drew ?_ | refine blk_alloc ?_ _)); exact BK154.out⟩, ⟨by repeat (first | (with_reducible first | exact HB.out | apply below_alloc | apply pw_below_drewN | apply below_drew1 | refine below_set ?_ GE153.out | refine below_set ?_ GE154.out) | exact HB.out)⟩⟩
        case round =>
          clear H'
          try clear c1
          try clear c2
          try clear p2
          try clear c3
          try clear c6
          try clear c6b0
          try clear c6b1
          try clear c7
          try clear c7b0
          try clear c7b1
          try clear c7b2
          try clear c8
          try clear c10
          try clear c11
          try clear c11b0
          try clear c11b1
          try clear c11b2
          try clear c12
          try clear c15
          try clear c15b0
          try clear c15b1
          try clear c15b2
          try clear c16
          try clear c16b0
          try clear c16b1
          try clear c16b2
          try clear c17
          try clear c20
          try clear c23
          try clear c26
          try clear c29
          try clear c30
          try clear hcz10_0
          try clear hcz10_1
          try clear hcz10_2
          try clear hcz10_3
          try clear hcz10_4
          try clear hcz10_5
          try clear hcz13_0
          try clear hcz13_1
          try clear hcz13_2
          try clear hcz13_3
          try clear hcz13_4
          try clear hcz13_5
          try clear hcz14_0
          try clear hcz14_1
          try clear hcz14_2
          try clear hcz14_3
          try clear hcz14_4
          try clear hcz14_5
          try clear hcz18_0
          try clear hcz18_1
          try clear hcz18_2
          try clear hcz18_3
          try clear hcz18_4
          try clear hcz18_5
          try clear hcz19_0
          try clear hcz19_1
          try clear hcz19_2
          try clear hcz19_3
          try clear hcz19_4
          try clear hcz19_5
          try clear hcz21_0
          try clear hcz21_1
          try clear hcz21_2
          try clear hcz21_3
          try clear hcz21_4
          try clear hcz21_5
          try clear hcz22_0
          try clear hcz22_1
          try clear hcz22_2
          try clear hcz22_3
          try clear hcz22_4
          try clear hcz22_5
          try clear hcz24_0
          try clear hcz24_1
          try clear hcz24_2
          try clear hcz24_3
          try clear hcz24_4
          try clear hcz24_5
          try clear hcz25_0
          try clear hcz25_1
          try clear hcz25_2
          try clear hcz25_3
          try clear hcz25_4
          try clear hcz25_5
          try clear hcz27_0
          try clear hcz27_1
          try clear hcz27_2
          try clear hcz27_3
          try clear hcz27_4
          try clear hcz27_5
          try clear hcz28_0
          try clear hcz28_1
          try clear hcz28_2
          try clear hcz28_3
          try clear hcz28_4
          try clear hcz28_5
          try clear hcz31_0
          try clear hcz31_1
          try clear hcz31_2
          try clear hcz31_3
          try clear hcz31_4
          try clear hcz31_5
          try clear hcz9_0
          try clear hcz9_1
          try clear hcz9_2
          try clear hcz9_3
          try clear hcz9_4
          try clear hcz9_5
          try clear hfz10_0
          try clear hfz10_1
          try clear hfz10_2
          try clear hfz10_3
          try clear hfz10_4
          try clear hfz10_5
          try clear hfz13_0
          try clear hfz13_1
          try clear hfz13_2
          try clear hfz13_3
          try clear hfz13_4
          try clear hfz13_5
          try clear hfz14_0
          try clear hfz14_1
          try clear hfz14_2
          try clear hfz14_3
          try clear hfz14_4
          try clear hfz14_5
          try clear hfz18_0
          try clear hfz18_1
          try clear hfz18_2
          try clear hfz18_3
          try clear hfz18_4
          try clear hfz18_5
          try clear hfz19_0
          try clear hfz19_1
          try clear hfz19_2
          try clear hfz19_3
          try clear hfz19_4
          try clear hfz19_5
          try clear hfz21_0
          try clear hfz21_1
          try clear hfz21_2
          try clear hfz21_3
          try clear hfz21_4
          try clear hfz21_5
          try clear hfz22_0
          try clear hfz22_1
          try clear hfz22_2
          try clear hfz22_3
          try clear hfz22_4
          try clear hfz22_5
          try clear hfz24_0
          try clear hfz24_1
          try clear hfz24_2
          try clear hfz24_3
          try clear hfz24_4
          try clear hfz24_5
          try clear hfz25_0
          try clear hfz25_1
          try clear hfz25_2
          try clear hfz25_3
          try clear hfz25_4
          try clear hfz25_5
          try clear hfz27_0
          try clear hfz27_1
          try clear hfz27_2
          try clear hfz27_3
          try clear hfz27_4
          try clear hfz27_5
          try clear hfz28_0
          try clear hfz28_1
          try clear hfz28_2
          try clear hfz28_3
          try clear hfz28_4
          try clear hfz28_5
          try clear hfz31_0
          try clear hfz31_1
          try clear hfz31_2
          try clear hfz31_3
          try clear hfz31_4
          try clear hfz31_5
          try clear hfz9_0
          try clear hfz9_1
          try clear hfz9_2
          try clear hfz9_3
          try clear hfz9_4
          try clear hfz9_5
          try clear p2
          obtain ⟨x57_2, rfl, HA, HK2, BK153, BK154, HB⟩ := hrel
          cases gk with
          | zero => exact absurd HA.out (by simp [laws_sameSection9.l0])
          | succ k2 =>
            have H := HA.out
            clear HA
            simp only [laws_sameSection9.l0] at H
            by_cases c32 : x57_2 < (l0_0.length : Int)
            · rw [if_pos c32] at H
              have c32b0 : decide (x57_2 < (l0_0.length : Int)) = true := decide_eq_true c32
              clear c32
              by_cases c33 : 0 ≤ x57_2
              · rw [if_pos c33] at H
                have c33b0 : decide (0 ≤ x57_2) = true := decide_eq_true c33
                clear c33
                by_cases c34 : x57_2 < (l0_0.length : Int)
                · rw [if_pos c34] at H
                  have c34b0 : decide (x57_2 < (l0_0.length : Int)) = true := decide_eq_true c34
                  clear c34
                  by_cases c35 : x57_2 < (l1_0.length : Int)
                  · rw [if_pos c35] at H
                    have c35b0 : decide (x57_2 < (l1_0.length : Int)) = true := decide_eq_true c35
                    clear c35
                    by_cases c36 : (rd l0_0 x57_2) = (rd l1_0 x57_2)
                    · rw [if_pos c36] at H
                      have c36b0 : ((rd l0_0 x57_2) == (rd l1_0 x57_2)) = true := beq_iff_eq.mpr c36
                      have c36b1 : ((rd l0_0 x57_2) != (rd l1_0 x57_2)) = false := bne_eq_false_iff_eq.mpr c36
                      clear c36
                      have H' := Aside0.mk H
                      clear H
                      have hnb37 := NB153_154.out
                      have hnc37 := NB154_153.out
                      have hcz38_0 : wr.cell? ⟨gb153, 0, none⟩ = some (.slice A0_0 l0_0.length c0_0) := (blk_cell BK153.out 0).trans rfl
                      have hcz38_1 : wr.cell? ⟨gb153, 1, none⟩ = some (.string a0_1) := (blk_cell BK153.out 1).trans rfl
                      have hcz38_2 : wr.cell? ⟨gb153, 2, none⟩ = some (.slice A0_2 l0_2.length c0_2) := (blk_cell BK153.out 2).trans rfl
                      have hcz38_3 : wr.cell? ⟨gb153, 3, none⟩ = some (.bool a0_3) := (blk_cell BK153.out 3).trans rfl
                      have hcz38_4 : wr.cell? ⟨gb153, 4, none⟩ = some (.bool a0_4) := (blk_cell BK153.out 4).trans rfl
                      have hcz38_5 : wr.cell? ⟨gb153, 5, none⟩ = some (.slice A0_5 l0_5.length c0_5) := (blk_cell BK153.out 5).trans rfl
                      have hfz38_0 := blk_frozen BK153.out 0
                      have hfz38_1 := blk_frozen BK153.out 1
                      have hfz38_2 := blk_frozen BK153.out 2
                      have hfz38_3 := blk_frozen BK153.out 3
                      have hfz38_4 := blk_frozen BK153.out 4
                      have hfz38_5 := blk_frozen BK153.out 5
                      have p155 : 0 ≤ (x57_2 : Int) := of_decide_eq_true (by first | (with_reducible assumption) | assumption)
                      have q155 : x57_2 < (l0_0.length : Int) := of_decide_eq_true (by first | (with_reducible assumption) | assumption)
                      obtain ⟨ad155, e155, hx155_0⟩ := Kd.at_int HR0_0.out x57_2 p155 q155
                      cases e155
                      replace hx155_0 := (HB.out.cell (World.block_lt_of_cell? w _ hx155_0)).trans hx155_0
                      replace p155 := eq_true p155
                      replace q155 := eq_true q155
                      have hcz39_0 : wr.cell? ⟨gb154, 0, none⟩ = some (.slice A1_0 l1_0.length c1_0) := (blk_cell BK154.out 0).trans rfl
                      have hcz39_1 : wr.cell? ⟨gb154, 1, none⟩ = some (.string a1_1) := (blk_cell BK154.out 1).trans rfl
                      have hcz39_2 : wr.cell? ⟨gb154, 2, none⟩ = some (.slice A1_2 l1_2.length c1_2) := (blk_cell BK154.out 2).trans rfl
                      have hcz39_3 : wr.cell? ⟨gb154, 3, none⟩ = some (.bool a1_3) := (blk_cell BK154.out 3).trans rfl
                      have hcz39_4 : wr.cell? ⟨gb154, 4, none⟩ = some (.bool a1_4) := (blk_cell BK154.out 4).trans rfl
                      have hcz39_5 : wr.cell? ⟨gb154, 5, none⟩ = some (.slice A1_5 l1_5.length c1_5) := (blk_cell BK154.out 5).trans rfl
                      have hfz39_0 := blk_frozen BK154.out 0
                      have hfz39_1 := blk_frozen BK154.out 1
                      have hfz39_2 := blk_frozen BK154.out 2
                      have hfz39_3 := blk_frozen BK154.out 3
                      have hfz39_4 := blk_frozen BK154.out 4
                      have hfz39_5 := blk_frozen BK154.out 5
                      have p156 : 0 ≤ (x57_2 : Int) := of_decide_eq_true (by first | (with_reducible assumption) | assumption)
                      have q156 : x57_2 < (l1_0.length : Int) := of_decide_eq_true (by first | (with_reducible assumption) | assumption)
                      obtain ⟨ad156, e156, hx156_0⟩ := Kd.at_int HR1_0.out x57_2 p156 q156
                      cases e156
                      replace hx156_0 := (HB.out.cell (World.block_lt_of_cell? w _ hx156_0)).trans hx156_0
                      replace p156 := eq_true p156
                      replace q156 := eq_true q156
                      go_wp2
                      repeat (go_quiet (fail); try go_wp2)
                      go_roundg k2
                      case measure => have := HJ2.out; have := HK2.out; omega
                      case rel => exact ⟨(wrap64 (x57_2 + 1)), (by first | rfl | (simp; done) | (simp [*]; done)), H', ⟨by have := HJ2.out; have := HK2.out; omega⟩, ⟨by (with_reducible repeat (first | refine blk_drewN ?_ _ | refine blk_drew ?_ | refine blk_alloc ?_ _)); exact BK153.out⟩, ⟨by (with_reducible repeat (first | refine blk_drewN ?_ _ | refine blk_drew ?_ | refine blk_alloc ?_ _)); exact BK154.out⟩, ⟨by repeat (first | (with_reducible first | exact HB.out | apply below_alloc | apply pw_below_drewN | apply below_drew1 | refine below_set ?_ GE153.out | refine below_set ?_ GE154.out) | exact HB.out)⟩⟩
                    · rw [if_neg c36] at H
                      have c36b0 : ((rd l0_0 x57_2) == (rd l1_0 x57_2)) = false := beq_eq_false_iff_ne.mpr c36
                      have c36b1 : ((rd l0_0 x57_2) != (rd l1_0 x57_2)) = true := bne_iff_ne.mpr c36
                      obtain rfl := Option.some.inj H
                      have hnb40 := NB153_154.out
                      have hnc40 := NB154_153.out
                      have hcz41_0 : wr.cell? ⟨gb153, 0, none⟩ = some (.slice A0_0 l0_0.length c0_0) := (blk_cell BK153.out 0).trans rfl
                      have hcz41_1 : wr.cell? ⟨gb153, 1, none⟩ = some (.string a0_1) := (blk_cell BK153.out 1).trans rfl
                      have hcz41_2 : wr.cell? ⟨gb153, 2, none⟩ = some (.slice A0_2 l0_2.length c0_2) := (blk_cell BK153.out 2).trans rfl
                      have hcz41_3 : wr.cell? ⟨gb153, 3, none⟩ = some (.bool a0_3) := (blk_cell BK153.out 3).trans rfl
                      have hcz41_4 : wr.cell? ⟨gb153, 4, none⟩ = some (.bool a0_4) := (blk_cell BK153.out 4).trans rfl
                      have hcz41_5 : wr.cell? ⟨gb153, 5, none⟩ = some (.slice A0_5 l0_5.length c0_5) := (blk_cell BK153.out 5).trans rfl
                      have hfz41_0 := blk_frozen BK153.out 0
                      have hfz41_1 := blk_frozen BK153.out 1
                      have hfz41_2 := blk_frozen BK153.out 2
                      have hfz41_3 := blk_frozen BK153.out 3
                      have hfz41_4 := blk_frozen BK153.out 4
                      have hfz41_5 := blk_frozen BK153.out 5
                      have p155 : 0 ≤ (x57_2 : Int) := of_decide_eq_true (by first | (with_reducible assumption) | assumption)
                      have q155 : x57_2 < (l0_0.length : Int) := of_decide_eq_true (by first | (with_reducible assumption) | assumption)
                      obtain ⟨ad155, e155, hx155_0⟩ := Kd.at_int HR0_0.out x57_2 p155 q155
                      cases e155
                      replace hx155_0 := (HB.out.cell (World.block_lt_of_cell? w _ hx155_0)).trans hx155_0
                      replace p155 := eq_true p155
                      replace q155 := eq_true q155
                      have hcz42_0 : wr.cell? ⟨gb154, 0, none⟩ = some (.slice A1_0 l1_0.length c1_0) := (blk_cell BK154.out 0).trans rfl
                      have hcz42_1 : wr.cell? ⟨gb154, 1, none⟩ = some (.string a1_1) := (blk_cell BK154.out 1).trans rfl
                      have hcz42_2 : wr.cell? ⟨gb154, 2, none⟩ = some (.slice A1_2 l1_2.length c1_2) := (blk_cell BK154.out 2).trans rfl
                      have hcz42_3 : wr.cell? ⟨gb154, 3, none⟩ = some (.bool a1_3) := (blk_cell BK154.out 3).trans rfl
                      have hcz42_4 : wr.cell? ⟨gb154, 4, none⟩ = some (.bool a1_4) := (blk_cell BK154.out 4).trans rfl
                      have hcz42_5 : wr.cell? ⟨gb154, 5, none⟩ = some (.slice A1_5 l1_5.length c1_5) := (blk_cell BK154.out 5).trans rfl
                      have hfz42_0 := blk_frozen BK154.out 0
                      have hfz42_1 := blk_frozen BK154.out 1
                      have hfz42_2 := blk_frozen BK154.out 2
                      have hfz42_3 := blk_frozen BK154.out 3
                      have hfz42_4 := blk_frozen BK154.out 4
                      have hfz42_5 := blk_frozen BK154.out 5
                      have p156 : 0 ≤ (x57_2 : Int) := of_decide_eq_true (by first | (with_reducible assumption) | assumption)
                      have q156 : x57_2 < (l1_0.length : Int) := of_decide_eq_true (by first | (with_reducible assumption) | assumption)
                      obtain ⟨ad156, e156, hx156_0⟩ := Kd.at_int HR1_0.out x57_2 p156 q156
                      cases e156
                      replace hx156_0 := (HB.out.cell (World.block_lt_of_cell? w _ hx156_0)).trans hx156_0
                      replace p156 := eq_true p156
                      replace q156 := eq_true q156
                      go_wp2
                      repeat (go_quiet (fail); try go_wp2)
                      go_ret
                      exact ⟨by first | rfl | (simp [errW_none, errW_some] <;> rfl) | (simp [*, errW_none, errW_some] <;> rfl), by repeat (first | (with_reducible first | exact HB.out | apply below_alloc | apply pw_below_drewN | apply below_drew1 | refine below_set ?_ GE153.out | refine below_set ?_ GE154.out) | exact HB.out)⟩
                  · rw [if_neg c35] at H
                    exact absurd H (by simp)
                · rw [if_neg c34] at H
                  exact absurd H (by simp)
              · rw [if_neg c33] at H
                exact absurd H (by simp)
            · rw [if_neg c32] at H
              have c32b0 : decide (x57_2 < (l0_0.length : Int)) = false := decide_eq_false c32
              clear c32
              have H' := Aside0.mk H
              clear H
              have hnb43 := NB153_154.out
              have hnc43 := NB154_153.out
              have hcz44_0 : wr.cell? ⟨gb153, 0, none⟩ = some (.slice A0_0 l0_0.length c0_0) := (blk_cell BK153.out 0).trans rfl
              have hcz44_1 : wr.cell? ⟨gb153, 1, none⟩ = some (.string a0_1) := (blk_cell BK153.out 1).trans rfl
              have hcz44_2 : wr.cell? ⟨gb153, 2, none⟩ = some (.slice A0_2 l0_2.length c0_2) := (blk_cell BK153.out 2).trans rfl
              have hcz44_3 : wr.cell? ⟨gb153, 3, none⟩ = some (.bool a0_3) := (blk_cell BK153.out 3).trans rfl
              have hcz44_4 : wr.cell? ⟨gb153, 4, none⟩ = some (.bool a0_4) := (blk_cell BK153.out 4).trans rfl
              have hcz44_5 : wr.cell? ⟨gb153, 5, none⟩ = some (.slice A0_5 l0_5.length c0_5) := (blk_cell BK153.out 5).trans rfl
              have hfz44_0 := blk_frozen BK153.out 0
              have hfz44_1 := blk_frozen BK153.out 1
              have hfz44_2 := blk_frozen BK153.out 2
              have hfz44_3 := blk_frozen BK153.out 3
              have hfz44_4 := blk_frozen BK153.out 4
              have hfz44_5 := blk_frozen BK153.out 5
              go_wp2
              repeat (go_quiet (fail); try go_wp2)
              go_loopg [75] k2 (fun kq v75 w' => ∃ (x75_3 : Int), v75 = .int .i64 x75_3 ∧ Aside0 (laws_sameSection9.l1 kq (l0_2.length : Int) x75_3 l0_0 a0_1 l0_2 a0_3 a0_4 l0_5 l1_0 a1_1 l1_2 a1_3 a1_4 l1_5 = some r) ∧ Aside0 (kq ≤ k2) ∧ Aside0 (w'.heap[gb153]? = some (.cells #[(.slice A0_0 l0_0.length c0_0), .string a0_1, (.slice A0_2 l0_2.length c0_2), .bool a0_3, .bool a0_4, (.slice A0_5 l0_5.length c0_5)] 25 (0, 0))) ∧ Aside0 (w'.heap[gb154]? = some (.cells #[(.slice A1_0 l1_0.length c1_0), .string a1_1, (.slice A1_2 l1_2.length c1_2), .bool a1_3, .bool a1_4, (.slice A1_5 l1_5.length c1_5)] 25 (0, 0))) ∧ Aside0 (Below w.heap.size w w'))
              case atStart => exact ⟨(0), (by first | rfl | (simp; done) | (simp [*]; done)), H', ⟨Nat.le_refl _⟩, ⟨by (with_reducible repeat (first | refine blk_drewN ?_ _ | refine blk_drew ?_ | refine blk_alloc ?_ _)); exact BK153.out⟩, ⟨by (with_reducible repeat (first | refine blk_drewN ?_ _ | refine blk_drew ?_ | refine blk_alloc ?_ _)); exact BK154.out⟩, ⟨by repeat (first | (with_reducible first | exact HB.out | apply below_alloc | apply pw_below_drewN | apply below_drew1 | refine below_set ?_ GE153.out | refine below_set ?_ GE154.out) | exact HB.out)⟩⟩
              case round =>
                clear H'
                try clear c1
                try clear p1
                try clear q1
                try clear hx1
                try clear c2
                try clear p2
                try clear c3
                try clear c4
                try clear c6
                try clear c6b0
                try clear c6b1
                try clear p6
                try clear c7
                try clear c7b0
                try clear c7b1
                try clear c7b2
                try clear c8
                try clear c10
                try clear c11
                try clear c11b0
                try clear c11b1
                try clear c11b2
                try clear c12
                try clear c15
                try clear c15b0
                try clear c15b1
                try clear c15b2
                try clear p15
                try clear q15
                try clear hx15
                try clear c16
                try clear c16b0
                try clear c16b1
                try clear c16b2
                try clear c17
                try clear c20
                try clear c23
                try clear c26
                try clear c29
                try clear c30
                try clear c32
                try clear c32b0
                try clear c33
                try clear c33b0
                try clear c34
                try clear c34b0
                try clear c35
                try clear c35b0
                try clear c36
                try clear c36b0
                try clear c36b1
                try clear c37
                try clear c40
                try clear c43
                try clear hcz10_0
                try clear hcz10_1
                try clear hcz10_2
                try clear hcz10_3
                try clear hcz10_4
                try clear hcz10_5
                try clear hcz13_0
                try clear hcz13_1
                try clear hcz13_2
                try clear hcz13_3
                try clear hcz13_4
                try clear hcz13_5
                try clear hcz14_0
                try clear hcz14_1
                try clear hcz14_2
                try clear hcz14_3
                try clear hcz14_4
                try clear hcz14_5
                try clear hcz18_0
                try clear hcz18_1
                try clear hcz18_2
                try clear hcz18_3
                try clear hcz18_4
                try clear hcz18_5
                try clear hcz19_0
                try clear hcz19_1
                try clear hcz19_2
                try clear hcz19_3
                try clear hcz19_4
                try clear hcz19_5
                try clear hcz21_0
                try clear hcz21_1
                try clear hcz21_2
                try clear hcz21_3
                try clear hcz21_4
                try clear hcz21_5
                try clear hcz22_0
                try clear hcz22_1
                try clear hcz22_2
                try clear hcz22_3
                try clear hcz22_4
                try clear hcz22_5
                try clear hcz24_0
                try clear hcz24_1
                try clear hcz24_2
                try clear hcz24_3
                try clear hcz24_4
                try clear hcz24_5
                try clear hcz25_0
                try clear hcz25_1
                try clear hcz25_2
                try clear hcz25_3
                try clear hcz25_4
                try clear hcz25_5
                try clear hcz27_0
                try clear hcz27_1
                try clear hcz27_2
                try clear hcz27_3
                try clear hcz27_4
                try clear hcz27_5
                try clear hcz28_0
                try clear hcz28_1
                try clear hcz28_2
                try clear hcz28_3
                try clear hcz28_4
                try clear hcz28_5
                try clear hcz31_0
                try clear hcz31_1
                try clear hcz31_2
                try clear hcz31_3
                try clear hcz31_4
                try clear hcz31_5
                try clear hcz38_0
                try clear hcz38_1
                try clear hcz38_2
                try clear hcz38_3
                try clear hcz38_4
                try clear hcz38_5
                try clear hcz39_0
                try clear hcz39_1
                try clear hcz39_2
                try clear hcz39_3
                try clear hcz39_4
                try clear hcz39_5
                try clear hcz41_0
                try clear hcz41_1
                try clear hcz41_2
                try clear hcz41_3
                try clear hcz41_4
                try clear hcz41_5
                try clear hcz42_0
                try clear hcz42_1
                try clear hcz42_2
                try clear hcz42_3
                try clear hcz42_4
                try clear hcz42_5
                try clear hcz44_0
                try clear hcz44_1
                try clear hcz44_2
                try clear hcz44_3
                try clear hcz44_4
                try clear hcz44_5
                try clear hcz9_0
                try clear hcz9_1
                try clear hcz9_2
                try clear hcz9_3
                try clear hcz9_4
                try clear hcz9_5
                try clear hfz10_0
                try clear hfz10_1
                try clear hfz10_2
                try clear hfz10_3
                try clear hfz10_4
                try clear hfz10_5
                try clear hfz13_0
                try clear hfz13_1
                try clear hfz13_2
                try clear hfz13_3
                try clear hfz13_4
                try clear hfz13_5
                try clear hfz14_0
                try clear hfz14_1
                try clear hfz14_2
                try clear hfz14_3
                try clear hfz14_4
                try clear hfz14_5
                try clear hfz18_0
                try clear hfz18_1
                try clear hfz18_2
                try clear hfz18_3
                try clear hfz18_4
                try clear hfz18_5
                try clear hfz19_0
                try clear hfz19_1
                try clear hfz19_2
                try clear hfz19_3
                try clear hfz19_4
                try clear hfz19_5
                try clear hfz21_0
                try clear hfz21_1
                try clear hfz21_2
                try clear hfz21_3
                try clear hfz21_4
                try clear hfz21_5
                try clear hfz22_0
                try clear hfz22_1
                try clear hfz22_2
                try clear hfz22_3
                try clear hfz22_4
                try clear hfz22_5
                try clear hfz24_0
                try clear hfz24_1
                try clear hfz24_2
                try clear hfz24_3
                try clear hfz24_4
                try clear hfz24_5
                try clear hfz25_0
                try clear hfz25_1
                try clear hfz25_2
                try clear hfz25_3
                try clear hfz25_4
                try clear hfz25_5
                try clear hfz27_0
                try clear hfz27_1
                try clear hfz27_2
                try clear hfz27_3
                try clear hfz27_4
                try clear hfz27_5
                try clear hfz28_0
                try clear hfz28_1
                try clear hfz28_2
                try clear hfz28_3
                try clear hfz28_4
                try clear hfz28_5
                try clear hfz31_0
                try clear hfz31_1
                try clear hfz31_2
                try clear hfz31_3
                try clear hfz31_4
                try clear hfz31_5
                try clear hfz38_0
                try clear hfz38_1
                try clear hfz38_2
                try clear hfz38_3
                try clear hfz38_4
                try clear hfz38_5
                try clear hfz39_0
                try clear hfz39_1
                try clear hfz39_2
                try clear hfz39_3
                try clear hfz39_4
                try clear hfz39_5
                try clear hfz41_0
                try clear hfz41_1
                try clear hfz41_2
                try clear hfz41_3
                try clear hfz41_4
                try clear hfz41_5
                try clear hfz42_0
                try clear hfz42_1
                try clear hfz42_2
                try clear hfz42_3
                try clear hfz42_4
                try clear hfz42_5
                try clear hfz44_0
                try clear hfz44_1
                try clear hfz44_2
                try clear hfz44_3
                try clear hfz44_4
                try clear hfz44_5
                try clear hfz9_0
                try clear hfz9_1
                try clear hfz9_2
                try clear hfz9_3
                try clear hfz9_4
                try clear hfz9_5
                try clear hx155_0
                try clear hx156_0
                try clear p155
                try clear p156
                try clear p2
                try clear q155
                try clear q156
                obtain ⟨x75_3, rfl, HA, HK3, BK153, BK154, HB⟩ := hrel
                cases gk with
                | zero => exact absurd HA.out (by simp [laws_sameSection9.l1])
                | succ k3 =>
                  have H := HA.out
                  clear HA
                  simp only [laws_sameSection9.l1] at H
                  by_cases c45 : x75_3 < (l0_2.length : Int)
                  · rw [if_pos c45] at H
                    have c45b0 : decide (x75_3 < (l0_2.length : Int)) = true := decide_eq_true c45
                    clear c45
                    by_cases c46 : 0 ≤ x75_3
                    · rw [if_pos c46] at H
                      have c46b0 : decide (0 ≤ x75_3) = true := decide_eq_true c46
                      clear c46
                      by_cases c47 : x75_3 < (l0_2.length : Int)
                      · rw [if_pos c47] at H
                        have c47b0 : decide (x75_3 < (l0_2.length : Int)) = true := decide_eq_true c47
                        clear c47
                        by_cases c48 : x75_3 < (l1_2.length : Int)
                        · rw [if_pos c48] at H
                          have c48b0 : decide (x75_3 < (l1_2.length : Int)) = true := decide_eq_true c48
                          clear c48
                          by_cases c49 : (rdOf ByteArray.empty l0_2 x75_3).toList = (rdOf ByteArray.empty l1_2 x75_3).toList
                          · rw [if_pos c49] at H
                            have c49b0 : ((rdOf ByteArray.empty l0_2 x75_3).toList == (rdOf ByteArray.empty l1_2 x75_3).toList) = true := beq_iff_eq.mpr c49
                            have c49b1 : ((rdOf ByteArray.empty l0_2 x75_3).toList != (rdOf ByteArray.empty l1_2 x75_3).toList) = false := bne_eq_false_iff_eq.mpr c49
                            clear c49
                            have H' := Aside0.mk H
                            clear H
                            have hnb50 := NB153_154.out
                            have hnc50 := NB154_153.out
                            have hcz51_0 : wr.cell? ⟨gb153, 0, none⟩ = some (.slice A0_0 l0_0.length c0_0) := (blk_cell BK153.out 0).trans rfl
                            have hcz51_1 : wr.cell? ⟨gb153, 1, none⟩ = some (.string a0_1) := (blk_cell BK153.out 1).trans rfl
                            have hcz51_2 : wr.cell? ⟨gb153, 2, none⟩ = some (.slice A0_2 l0_2.length c0_2) := (blk_cell BK153.out 2).trans rfl
                            have hcz51_3 : wr.cell? ⟨gb153, 3, none⟩ = some (.bool a0_3) := (blk_cell BK153.out 3).trans rfl
                            have hcz51_4 : wr.cell? ⟨gb153, 4, none⟩ = some (.bool a0_4) := (blk_cell BK153.out 4).trans rfl
                            have hcz51_5 : wr.cell? ⟨gb153, 5, none⟩ = some (.slice A0_5 l0_5.length c0_5) := (blk_cell BK153.out 5).trans rfl
                            have hfz51_0 := blk_frozen BK153.out 0
                            have hfz51_1 := blk_frozen BK153.out 1
                            have hfz51_2 := blk_frozen BK153.out 2
                            have hfz51_3 := blk_frozen BK153.out 3
                            have hfz51_4 := blk_frozen BK153.out 4
                            have hfz51_5 := blk_frozen BK153.out 5
                            have p157 : 0 ≤ (x75_3 : Int) := of_decide_eq_true (by first | (with_reducible assumption) | assumption)
                            have q157 : x75_3 < (l0_2.length : Int) := of_decide_eq_true (by first | (with_reducible assumption) | assumption)
                            obtain ⟨ad157, e157, hx157_0⟩ := Kd.at_string HR0_2.out x75_3 p157 q157
                            cases e157
                            replace hx157_0 := (HB.out.cell (World.block_lt_of_cell? w _ hx157_0)).trans hx157_0
                            replace p157 := eq_true p157
                            replace q157 := eq_true q157
                            have hcz52_0 : wr.cell? ⟨gb154, 0, none⟩ = some (.slice A1_0 l1_0.length c1_0) := (blk_cell BK154.out 0).trans rfl
                            have hcz52_1 : wr.cell? ⟨gb154, 1, none⟩ = some (.string a1_1) := (blk_cell BK154.out 1).trans rfl
                            have hcz52_2 : wr.cell? ⟨gb154, 2, none⟩ = some (.slice A1_2 l1_2.length c1_2) := (blk_cell BK154.out 2).trans rfl
                            have hcz52_3 : wr.cell? ⟨gb154, 3, none⟩ = some (.bool a1_3) := (blk_cell BK154.out 3).trans rfl
                            have hcz52_4 : wr.cell? ⟨gb154, 4, none⟩ = some (.bool a1_4) := (blk_cell BK154.out 4).trans rfl
                            have hcz52_5 : wr.cell? ⟨gb154, 5, none⟩ = some (.slice A1_5 l1_5.length c1_5) := (blk_cell BK154.out 5).trans rfl
                            have hfz52_0 := blk_frozen BK154.out 0
                            have hfz52_1 := blk_frozen BK154.out 1
                            have hfz52_2 := blk_frozen BK154.out 2
                            have hfz52_3 := blk_frozen BK154.out 3
                            have hfz52_4 := blk_frozen BK154.out 4
                            have hfz52_5 := blk_frozen BK154.out 5
                            have p158 : 0 ≤ (x75_3 : Int) := of_decide_eq_true (by first | (with_reducible assumption) | assumption)
                            have q158 : x75_3 < (l1_2.length : Int) := of_decide_eq_true (by first | (with_reducible assumption) | assumption)
                            obtain ⟨ad158, e158, hx158_0⟩ := Kd.at_string HR1_2.out x75_3 p158 q158
                            cases e158
                            replace hx158_0 := (HB.out.cell (World.block_lt_of_cell? w _ hx158_0)).trans hx158_0
                            replace p158 := eq_true p158
                            replace q158 := eq_true q158
                            go_wp2
                            repeat (go_quiet (fail); try go_wp2)
                            go_roundg k3
                            case measure => have := HJ2.out; have := HK2.out; have := HK3.out; omega
                            case rel => exact ⟨(wrap64 (x75_3 + 1)), (by first | rfl | (simp; done) | (simp [*]; done)), H', ⟨by have := HJ2.out; have := HK2.out; have := HK3.out; omega⟩, ⟨by (with_reducible repeat (first | refine blk_drewN ?_ _ | refine blk_drew ?_ | refine blk_alloc ?_ _)); exact BK153.out⟩, ⟨by (with_reducible repeat (first | refine blk_drewN ?_ _ | refine blk_drew ?_ | refine blk_alloc ?_ _)); exact BK154.out⟩, ⟨by repeat (first | (with_reducible first | exact HB.out | apply below_alloc | apply pw_below_drewN | apply below_drew1 | refine below_set ?_ GE153.out | refine below_set ?_ GE154.out) | exact HB.out)⟩⟩
                          · rw [if_neg c49] at H
                            have c49b0 : ((rdOf ByteArray.empty l0_2 x75_3).toList == (rdOf ByteArray.empty l1_2 x75_3).toList) = false := beq_eq_false_iff_ne.mpr c49
                            have c49b1 : ((rdOf ByteArray.empty l0_2 x75_3).toList != (rdOf ByteArray.empty l1_2 x75_3).toList) = true := bne_iff_ne.mpr c49
                            obtain rfl := Option.some.inj H
                            have hnb53 := NB153_154.out
                            have hnc53 := NB154_153.out
                            have hcz54_0 : wr.cell? ⟨gb153, 0, none⟩ = some (.slice A0_0 l0_0.length c0_0) := (blk_cell BK153.out 0).trans rfl
                            have hcz54_1 : wr.cell? ⟨gb153, 1, none⟩ = some (.string a0_1) := (blk_cell BK153.out 1).trans rfl
                            have hcz54_2 : wr.cell? ⟨gb153, 2, none⟩ = some (.slice A0_2 l0_2.length c0_2) := (blk_cell BK153.out 2).trans rfl
                            have hcz54_3 : wr.cell? ⟨gb153, 3, none⟩ = some (.bool a0_3) := (blk_cell BK153.out 3).trans rfl
                            have hcz54_4 : wr.cell? ⟨gb153, 4, none⟩ = some (.bool a0_4) := (blk_cell BK153.out 4).trans rfl
                            have hcz54_5 : wr.cell? ⟨gb153, 5, none⟩ = some (.slice A0_5 l0_5.length c0_5) := (blk_cell BK153.out 5).trans rfl
                            have hfz54_0 := blk_frozen BK153.out 0
                            have hfz54_1 := blk_frozen BK153.out 1
                            have hfz54_2 := blk_frozen BK153.out 2
                            have hfz54_3 := blk_frozen BK153.out 3
                            have hfz54_4 := blk_frozen BK153.out 4
                            have hfz54_5 := blk_frozen BK153.out 5
                            have p157 : 0 ≤ (x75_3 : Int) := of_decide_eq_true (by first | (with_reducible assumption) | assumption)
                            have q157 : x75_3 < (l0_2.length : Int) := of_decide_eq_true (by first | (with_reducible assumption) | assumption)
                            obtain ⟨ad157, e157, hx157_0⟩ := Kd.at_string HR0_2.out x75_3 p157 q157
                            cases e157
                            replace hx157_0 := (HB.out.cell (World.block_lt_of_cell? w _ hx157_0)).trans hx157_0
                            replace p157 := eq_true p157
                            replace q157 := eq_true q157
                            have hcz55_0 : wr.cell? ⟨gb154, 0, none⟩ = some (.slice A1_0 l1_0.length c1_0) := (blk_cell BK154.out 0).trans rfl
                            have hcz55_1 : wr.cell? ⟨gb154, 1, none⟩ = some (.string a1_1) := (blk_cell BK154.out 1).trans rfl
                            have hcz55_2 : wr.cell? ⟨gb154, 2, none⟩ = some (.slice A1_2 l1_2.length c1_2) := (blk_cell BK154.out 2).trans rfl
                            have hcz55_3 : wr.cell? ⟨gb154, 3, none⟩ = some (.bool a1_3) := (blk_cell BK154.out 3).trans rfl
                            have hcz55_4 : wr.cell? ⟨gb154, 4, none⟩ = some (.bool a1_4) := (blk_cell BK154.out 4).trans rfl
                            have hcz55_5 : wr.cell? ⟨gb154, 5, none⟩ = some (.slice A1_5 l1_5.length c1_5) := (blk_cell BK154.out 5).trans rfl
                            have hfz55_0 := blk_frozen BK154.out 0
                            have hfz55_1 := blk_frozen BK154.out 1
                            have hfz55_2 := blk_frozen BK154.out 2
                            have hfz55_3 := blk_frozen BK154.out 3
                            have hfz55_4 := blk_frozen BK154.out 4
                            have hfz55_5 := blk_frozen BK154.out 5
                            have p158 : 0 ≤ (x75_3 : Int) := of_decide_eq_true (by first | (with_reducible assumption) | assumption)
                            have q158 : x75_3 < (l1_2.length : Int) := of_decide_eq_true (by first | (with_reducible assumption) | assumption)
                            obtain ⟨ad158, e158, hx158_0⟩ := Kd.at_string HR1_2.out x75_3 p158 q158
                            cases e158
                            replace hx158_0 := (HB.out.cell (World.block_lt_of_cell? w _ hx158_0)).trans hx158_0
                            replace p158 := eq_true p158
                            replace q158 := eq_true q158
                            go_wp2
                            repeat (go_quiet (fail); try go_wp2)
                            go_ret
                            exact ⟨by first | rfl | (simp [errW_none, errW_some] <;> rfl) | (simp [*, errW_none, errW_some] <;> rfl), by repeat (first | (with_reducible first | exact HB.out | apply below_alloc | apply pw_below_drewN | apply below_drew1 | refine below_set ?_ GE153.out | refine below_set ?_ GE154.out) | exact HB.out)⟩
                        · rw [if_neg c48] at H
                          exact absurd H (by simp)
                      · rw [if_neg c47] at H
                        exact absurd H (by simp)
                    · rw [if_neg c46] at H
                      exact absurd H (by simp)
                  · rw [if_neg c45] at H
                    have c45b0 : decide (x75_3 < (l0_2.length : Int)) = false := decide_eq_false c45
                    clear c45
                    have H' := Aside0.mk H
                    clear H
                    have hnb56 := NB153_154.out
                    have hnc56 := NB154_153.out
                    have hcz57_0 : wr.cell? ⟨gb153, 0, none⟩ = some (.slice A0_0 l0_0.length c0_0) := (blk_cell BK153.out 0).trans rfl
                    have hcz57_1 : wr.cell? ⟨gb153, 1, none⟩ = some (.string a0_1) := (blk_cell BK153.out 1).trans rfl
                    have hcz57_2 : wr.cell? ⟨gb153, 2, none⟩ = some (.slice A0_2 l0_2.length c0_2) := (blk_cell BK153.out 2).trans rfl
                    have hcz57_3 : wr.cell? ⟨gb153, 3, none⟩ = some (.bool a0_3) := (blk_cell BK153.out 3).trans rfl
                    have hcz57_4 : wr.cell? ⟨gb153, 4, none⟩ = some (.bool a0_4) := (blk_cell BK153.out 4).trans rfl
                    have hcz57_5 : wr.cell? ⟨gb153, 5, none⟩ = some (.slice A0_5 l0_5.length c0_5) := (blk_cell BK153.out 5).trans rfl
                    have hfz57_0 := blk_frozen BK153.out 0
                    have hfz57_1 := blk_frozen BK153.out 1
                    have hfz57_2 := blk_frozen BK153.out 2
                    have hfz57_3 := blk_frozen BK153.out 3
                    have hfz57_4 := blk_frozen BK153.out 4
                    have hfz57_5 := blk_frozen BK153.out 5
                    go_wp2
                    repeat (go_quiet (fail); try go_wp2)
                    go_loopg [93] k3 (fun kq v93 w' => ∃ (x93_4 : Int), v93 = .int .i64 x93_4 ∧ Aside0 (laws_sameSection9.l2 kq (l0_5.length : Int) x93_4 l0_0 a0_1 l0_2 a0_3 a0_4 l0_5 l1_0 a1_1 l1_2 a1_3 a1_4 l1_5 = some r) ∧ Aside0 (kq ≤ k3) ∧ Aside0 (w'.heap[gb153]? = some (.cells #[(.slice A0_0 l0_0.length c0_0), .string a0_1, (.slice A0_2 l0_2.length c0_2), .bool a0_3, .bool a0_4, (.slice A0_5 l0_5.length c0_5)] 25 (0, 0))) ∧ Aside0 (w'.heap[gb154]? = some (.cells #[(.slice A1_0 l1_0.length c1_0), .string a1_1, (.slice A1_2 l1_2.length c1_2), .bool a1_3, .bool a1_4, (.slice A1_5 l1_5.length c1_5)] 25 (0, 0))) ∧ Aside0 (Below w.heap.size w w'))
                    case atStart => exact ⟨(0), (by first | rfl | (simp; done) | (simp [*]; done)), H', ⟨Nat.le_refl _⟩, ⟨by (with_reducible repeat (first | refine blk_drewN ?_ _ | refine blk_drew ?_ | refine blk_alloc ?_ _)); exact BK153.out⟩, ⟨by (with_reducible repeat (first | refine blk_drewN ?_ _ | refine blk_drew ?_ | refine blk_alloc ?_ _)); exact BK154.out⟩, ⟨by repeat (first | (with_reducible first | exact HB.out | apply below_alloc | apply pw_below_drewN | apply below_drew1 | refine below_set ?_ GE153.out | refine below_set ?_ GE154.out) | exact HB.out)⟩⟩
                    case round =>
                      clear H'
                      try clear c1
                      try clear p1
                      try clear q1
                      try clear hx1
                      try clear c2
                      try clear p2
                      try clear c3
                      try clear c4
                      try clear c5
                      try clear c6
                      try clear c6b0
                      try clear c6b1
                      try clear p6
                      try clear c7
                      try clear c7b0
                      try clear c7b1
                      try clear c7b2
                      try clear c8
                      try clear c10
                      try clear c11
                      try clear c11b0
                      try clear c11b1
                      try clear c11b2
                      try clear c12
                      try clear c15
                      try clear c15b0
                      try clear c15b1
                      try clear c15b2
                      try clear p15
                      try clear q15
                      try clear hx15
                      try clear c16
                      try clear c16b0
                      try clear c16b1
                      try clear c16b2
                      try clear c17
                      try clear c20
                      try clear c23
                      try clear c26
                      try clear c29
                      try clear c30
                      try clear c32
                      try clear c32b0
                      try clear c33
                      try clear c33b0
                      try clear c34
                      try clear c34b0
                      try clear c35
                      try clear c35b0
                      try clear c36
                      try clear c36b0
                      try clear c36b1
                      try clear c37
                      try clear c40
                      try clear c43
                      try clear c45
                      try clear c45b0
                      try clear c46
                      try clear c46b0
                      try clear c47
                      try clear c47b0
                      try clear c48
                      try clear c48b0
                      try clear c49
                      try clear c49b0
                      try clear c49b1
                      try clear c50
                      try clear c53
                      try clear c56
                      try clear hcz10_0
                      try clear hcz10_1
                      try clear hcz10_2
                      try clear hcz10_3
                      try clear hcz10_4
                      try clear hcz10_5
                      try clear hcz13_0
                      try clear hcz13_1
                      try clear hcz13_2
                      try clear hcz13_3
                      try clear hcz13_4
                      try clear hcz13_5
                      try clear hcz14_0
                      try clear hcz14_1
                      try clear hcz14_2
                      try clear hcz14_3
                      try clear hcz14_4
                      try clear hcz14_5
                      try clear hcz18_0
                      try clear hcz18_1
                      try clear hcz18_2
                      try clear hcz18_3
                      try clear hcz18_4
                      try clear hcz18_5
                      try clear hcz19_0
                      try clear hcz19_1
                      try clear hcz19_2
                      try clear hcz19_3
                      try clear hcz19_4
                      try clear hcz19_5
                      try clear hcz21_0
                      try clear hcz21_1
                      try clear hcz21_2
                      try clear hcz21_3
                      try clear hcz21_4
                      try clear hcz21_5
                      try clear hcz22_0
                      try clear hcz22_1
                      try clear hcz22_2
                      try clear hcz22_3
                      try clear hcz22_4
                      try clear hcz22_5
                      try clear hcz24_0
                      try clear hcz24_1
                      try clear hcz24_2
                      try clear hcz24_3
                      try clear hcz24_4
                      try clear hcz24_5
                      try clear hcz25_0
                      try clear hcz25_1
                      try clear hcz25_2
                      try clear hcz25_3
                      try clear hcz25_4
                      try clear hcz25_5
                      try clear hcz27_0
                      try clear hcz27_1
                      try clear hcz27_2
                      try clear hcz27_3
                      try clear hcz27_4
                      try clear hcz27_5
                      try clear hcz28_0
                      try clear hcz28_1
                      try clear hcz28_2
                      try clear hcz28_3
                      try clear hcz28_4
                      try clear hcz28_5
                      try clear hcz31_0
                      try clear hcz31_1
                      try clear hcz31_2
                      try clear hcz31_3
                      try clear hcz31_4
                      try clear hcz31_5
                      try clear hcz38_0
                      try clear hcz38_1
                      try clear hcz38_2
                      try clear hcz38_3
                      try clear hcz38_4
                      try clear hcz38_5
                      try clear hcz39_0
                      try clear hcz39_1
                      try clear hcz39_2
                      try clear hcz39_3
                      try clear hcz39_4
                      try clear hcz39_5
                      try clear hcz41_0
                      try clear hcz41_1
                      try clear hcz41_2
                      try clear hcz41_3
                      try clear hcz41_4
                      try clear hcz41_5
                      try clear hcz42_0
                      try clear hcz42_1
                      try clear hcz42_2
                      try clear hcz42_3
                      try clear hcz42_4
                      try clear hcz42_5
                      try clear hcz44_0
                      try clear hcz44_1
                      try clear hcz44_2
                      try clear hcz44_3
                      try clear hcz44_4
                      try clear hcz44_5
                      try clear hcz51_0
                      try clear hcz51_1
                      try clear hcz51_2
                      try clear hcz51_3
                      try clear hcz51_4
                      try clear hcz51_5
                      try clear hcz52_0
                      try clear hcz52_1
                      try clear hcz52_2
                      try clear hcz52_3
                      try clear hcz52_4
                      try clear hcz52_5
                      try clear hcz54_0
                      try clear hcz54_1
                      try clear hcz54_2
                      try clear hcz54_3
                      try clear hcz54_4
                      try clear hcz54_5
                      try clear hcz55_0
                      try clear hcz55_1
                      try clear hcz55_2
                      try clear hcz55_3
                      try clear hcz55_4
                      try clear hcz55_5
                      try clear hcz57_0
                      try clear hcz57_1
                      try clear hcz57_2
                      try clear hcz57_3
                      try clear hcz57_4
                      try clear hcz57_5
                      try clear hcz9_0
                      try clear hcz9_1
                      try clear hcz9_2
                      try clear hcz9_3
                      try clear hcz9_4
                      try clear hcz9_5
                      try clear hfz10_0
                      try clear hfz10_1
                      try clear hfz10_2
                      try clear hfz10_3
                      try clear hfz10_4
                      try clear hfz10_5
                      try clear hfz13_0
                      try clear hfz13_1
                      try clear hfz13_2
                      try clear hfz13_3
                      try clear hfz13_4
                      try clear hfz13_5
                      try clear hfz14_0
                      try clear hfz14_1
                      try clear hfz14_2
                      try clear hfz14_3
                      try clear hfz14_4
                      try clear hfz14_5
                      try clear hfz18_0
                      try clear hfz18_1
                      try clear hfz18_2
                      try clear hfz18_3
                      try clear hfz18_4
                      try clear hfz18_5
                      try clear hfz19_0
                      try clear hfz19_1
                      try clear hfz19_2
                      try clear hfz19_3
                      try clear hfz19_4
                      try clear hfz19_5
                      try clear hfz21_0
                      try clear hfz21_1
                      try clear hfz21_2
                      try clear hfz21_3
                      try clear hfz21_4
                      try clear hfz21_5
                      try clear hfz22_0
                      try clear hfz22_1
                      try clear hfz22_2
                      try clear hfz22_3
                      try clear hfz22_4
                      try clear hfz22_5
                      try clear hfz24_0
                      try clear hfz24_1
                      try clear hfz24_2
                      try clear hfz24_3
                      try clear hfz24_4
                      try clear hfz24_5
                      try clear hfz25_0
                      try clear hfz25_1
                      try clear hfz25_2
                      try clear hfz25_3
                      try clear hfz25_4
                      try clear hfz25_5
                      try clear hfz27_0
                      try clear hfz27_1
                      try clear hfz27_2
                      try clear hfz27_3
                      try clear hfz27_4
                      try clear hfz27_5
                      try clear hfz28_0
                      try clear hfz28_1
                      try clear hfz28_2
                      try clear hfz28_3
                      try clear hfz28_4
                      try clear hfz28_5
                      try clear hfz31_0
                      try clear hfz31_1
                      try clear hfz31_2
                      try clear hfz31_3
                      try clear hfz31_4
                      try clear hfz31_5
                      try clear hfz38_0
                      try clear hfz38_1
                      try clear hfz38_2
                      try clear hfz38_3
                      try clear hfz38_4
                      try clear hfz38_5
                      try clear hfz39_0
                      try clear hfz39_1
                      try clear hfz39_2
                      try clear hfz39_3
                      try clear hfz39_4
                      try clear hfz39_5
                      try clear hfz41_0
                      try clear hfz41_1
                      try clear hfz41_2
                      try clear hfz41_3
                      try clear hfz41_4
                      try clear hfz41_5
                      try clear hfz42_0
                      try clear hfz42_1
                      try clear hfz42_2
                      try clear hfz42_3
                      try clear hfz42_4
                      try clear hfz42_5
                      try clear hfz44_0
                      try clear hfz44_1
                      try clear hfz44_2
                      try clear hfz44_3
                      try clear hfz44_4
                      try clear hfz44_5
                      try clear hfz51_0
                      try clear hfz51_1
                      try clear hfz51_2
                      try clear hfz51_3
                      try clear hfz51_4
                      try clear hfz51_5
                      try clear hfz52_0
                      try clear hfz52_1
                      try clear hfz52_2
                      try clear hfz52_3
                      try clear hfz52_4
                      try clear hfz52_5
                      try clear hfz54_0
                      try clear hfz54_1
                      try clear hfz54_2
                      try clear hfz54_3
                      try clear hfz54_4
                      try clear hfz54_5
                      try clear hfz55_0
                      try clear hfz55_1
                      try clear hfz55_2
                      try clear hfz55_3
                      try clear hfz55_4
                      try clear hfz55_5
                      try clear hfz57_0
                      try clear hfz57_1
                      try clear hfz57_2
                      try clear hfz57_3
                      try clear hfz57_4
                      try clear hfz57_5
                      try clear hfz9_0
                      try clear hfz9_1
                      try clear hfz9_2
                      try clear hfz9_3
                      try clear hfz9_4
                      try clear hfz9_5
                      try clear hx155_0
                      try clear hx156_0
                      try clear hx157_0
                      try clear hx158_0
                      try clear p1
                      try clear p15
                      try clear p155
                      try clear p156
                      try clear p157
                      try clear p158
                      try clear p2
                      try clear p6
                      try clear q1
                      try clear q15
                      try clear q155
                      try clear q156
                      try clear q157
                      try clear q158
                      obtain ⟨x93_4, rfl, HA, HK4, BK153, BK154, HB⟩ := hrel
                      cases gk with
                      | zero => exact absurd HA.out (by simp [laws_sameSection9.l2])
                      | succ k4 =>
                        have H := HA.out
                        clear HA
                        simp only [laws_sameSection9.l2] at H
                        by_cases c58 : x93_4 < (l0_5.length : Int)
                        · rw [if_pos c58] at H
                          have c58b0 : decide (x93_4 < (l0_5.length : Int)) = true := decide_eq_true c58
                          clear c58
                          by_cases c59 : 0 ≤ x93_4
                          · rw [if_pos c59] at H
                            have c59b0 : decide (0 ≤ x93_4) = true := decide_eq_true c59
                            clear c59
                            by_cases c60 : x93_4 < (l0_5.length : Int)
                            · rw [if_pos c60] at H
                              have c60b0 : decide (x93_4 < (l0_5.length : Int)) = true := decide_eq_true c60
                              clear c60
                              by_cases c61 : x93_4 < (l1_5.length : Int)
                              · rw [if_pos c61] at H
                                have c61b0 : decide (x93_4 < (l1_5.length : Int)) = true := decide_eq_true c61
                                clear c61
                                by_cases c62 : (rd l0_5 x93_4) = (rd l1_5 x93_4)
                                · rw [if_pos c62] at H
                                  have c62b0 : ((rd l0_5 x93_4) == (rd l1_5 x93_4)) = true := beq_iff_eq.mpr c62
                                  have c62b1 : ((rd l0_5 x93_4) != (rd l1_5 x93_4)) = false := bne_eq_false_iff_eq.mpr c62
                                  clear c62
                                  have H' := Aside0.mk H
                                  clear H
                                  have hnb63 := NB153_154.out
                                  have hnc63 := NB154_153.out
                                  have hcz64_0 : wr.cell? ⟨gb153, 0, none⟩ = some (.slice A0_0 l0_0.length c0_0) := (blk_cell BK153.out 0).trans rfl
                                  have hcz64_1 : wr.cell? ⟨gb153, 1, none⟩ = some (.string a0_1) := (blk_cell BK153.out 1).trans rfl
                                  have hcz64_2 : wr.cell? ⟨gb153, 2, none⟩ = some (.slice A0_2 l0_2.length c0_2) := (blk_cell BK153.out 2).trans rfl
                                  have hcz64_3 : wr.cell? ⟨gb153, 3, none⟩ = some (.bool a0_3) := (blk_cell BK153.out 3).trans rfl
                                  have hcz64_4 : wr.cell? ⟨gb153, 4, none⟩ = some (.bool a0_4) := (blk_cell BK153.out 4).trans rfl
                                  have hcz64_5 : wr.cell? ⟨gb153, 5, none⟩ = some (.slice A0_5 l0_5.length c0_5) := (blk_cell BK153.out 5).trans rfl
                                  have hfz64_0 := blk_frozen BK153.out 0
                                  have hfz64_1 := blk_frozen BK153.out 1
                                  have hfz64_2 := blk_frozen BK153.out 2
                                  have hfz64_3 := blk_frozen BK153.out 3
                                  have hfz64_4 := blk_frozen BK153.out 4
                                  have hfz64_5 := blk_frozen BK153.out 5
                                  have p159 : 0 ≤ (x93_4 : Int) := of_decide_eq_true (by first | (with_reducible assumption) | assumption)
                                  have q159 : x93_4 < (l0_5.length : Int) := of_decide_eq_true (by first | (with_reducible assumption) | assumption)
                                  obtain ⟨ad159, e159, hx159_0⟩ := Kd.at_int HR0_5.out x93_4 p159 q159
                                  cases e159
                                  replace hx159_0 := (HB.out.cell (World.block_lt_of_cell? w _ hx159_0)).trans hx159_0
                                  replace p159 := eq_true p159
                                  replace q159 := eq_true q159
                                  have hcz65_0 : wr.cell? ⟨gb154, 0, none⟩ = some (.slice A1_0 l1_0.length c1_0) := (blk_cell BK154.out 0).trans rfl
                                  have hcz65_1 : wr.cell? ⟨gb154, 1, none⟩ = some (.string a1_1) := (blk_cell BK154.out 1).trans rfl
                                  have hcz65_2 : wr.cell? ⟨gb154, 2, none⟩ = some (.slice A1_2 l1_2.length c1_2) := (blk_cell BK154.out 2).trans rfl
                                  have hcz65_3 : wr.cell? ⟨gb154, 3, none⟩ = some (.bool a1_3) := (blk_cell BK154.out 3).trans rfl
                                  have hcz65_4 : wr.cell? ⟨gb154, 4, none⟩ = some (.bool a1_4) := (blk_cell BK154.out 4).trans rfl
                                  have hcz65_5 : wr.cell? ⟨gb154, 5, none⟩ = some (.slice A1_5 l1_5.length c1_5) := (blk_cell BK154.out 5).trans rfl
                                  have hfz65_0 := blk_frozen BK154.out 0
                                  have hfz65_1 := blk_frozen BK154.out 1
                                  have hfz65_2 := blk_frozen BK154.out 2
                                  have hfz65_3 := blk_frozen BK154.out 3
                                  have hfz65_4 := blk_frozen BK154.out 4
                                  have hfz65_5 := blk_frozen BK154.out 5
                                  have p160 : 0 ≤ (x93_4 : Int) := of_decide_eq_true (by first | (with_reducible assumption) | assumption)
                                  have q160 : x93_4 < (l1_5.length : Int) := of_decide_eq_true (by first | (with_reducible assumption) | assumption)
                                  obtain ⟨ad160, e160, hx160_0⟩ := Kd.at_int HR1_5.out x93_4 p160 q160
                                  cases e160
                                  replace hx160_0 := (HB.out.cell (World.block_lt_of_cell? w _ hx160_0)).trans hx160_0
                                  replace p160 := eq_true p160
                                  replace q160 := eq_true q160
                                  go_wp2
                                  repeat (go_quiet (fail); try go_wp2)
                                  go_roundg k4
                                  case measure => have := HJ2.out; have := HK2.out; have := HK3.out; have := HK4.out; omega
                                  case rel => exact ⟨(wrap64 (x93_4 + 1)), (by first | rfl | (simp; done) | (simp [*]; done)), H', ⟨by have := HJ2.out; have := HK2.out; have := HK3.out; have := HK4.out; omega⟩, ⟨by (with_reducible repeat (first | refine blk_drewN ?_ _ | refine blk_drew ?_ | refine blk_alloc ?_ _)); exact BK153.out⟩, ⟨by (with_reducible repeat (first | refine blk_drewN ?_ _ | refine blk_drew ?_ | refine blk_alloc ?_ _)); exact BK154.out⟩, ⟨by repeat (first | (with_reducible first | exact HB.out | apply below_alloc | apply pw_below_drewN | apply below_drew1 | refine below_set ?_ GE153.out | refine below_set ?_ GE154.out) | exact HB.out)⟩⟩
                                · rw [if_neg c62] at H
                                  have c62b0 : ((rd l0_5 x93_4) == (rd l1_5 x93_4)) = false := beq_eq_false_iff_ne.mpr c62
                                  have c62b1 : ((rd l0_5 x93_4) != (rd l1_5 x93_4)) = true := bne_iff_ne.mpr c62
                                  obtain rfl := Option.some.inj H
                                  have hnb66 := NB153_154.out
                                  have hnc66 := NB154_153.out
                                  have hcz67_0 : wr.cell? ⟨gb153, 0, none⟩ = some (.slice A0_0 l0_0.length c0_0) := (blk_cell BK153.out 0).trans rfl
                                  have hcz67_1 : wr.cell? ⟨gb153, 1, none⟩ = some (.string a0_1) := (blk_cell BK153.out 1).trans rfl
                                  have hcz67_2 : wr.cell? ⟨gb153, 2, none⟩ = some (.slice A0_2 l0_2.length c0_2) := (blk_cell BK153.out 2).trans rfl
                                  have hcz67_3 : wr.cell? ⟨gb153, 3, none⟩ = some (.bool a0_3) := (blk_cell BK153.out 3).trans rfl
                                  have hcz67_4 : wr.cell? ⟨gb153, 4, none⟩ = some (.bool a0_4) := (blk_cell BK153.out 4).trans rfl
                                  have hcz67_5 : wr.cell? ⟨gb153, 5, none⟩ = some (.slice A0_5 l0_5.length c0_5) := (blk_cell BK153.out 5).trans rfl
                                  have hfz67_0 := blk_frozen BK153.out 0
                                  have hfz67_1 := blk_frozen BK153.out 1
                                  have hfz67_2 := blk_frozen BK153.out 2
                                  have hfz67_3 := blk_frozen BK153.out 3
                                  have hfz67_4 := blk_frozen BK153.out 4
                                  have hfz67_5 := blk_frozen BK153.out 5
                                  have p159 : 0 ≤ (x93_4 : Int) := of_decide_eq_true (by first | (with_reducible assumption) | assumption)
                                  have q159 : x93_4 < (l0_5.length : Int) := of_decide_eq_true (by first | (with_reducible assumption) | assumption)
                                  obtain ⟨ad159, e159, hx159_0⟩ := Kd.at_int HR0_5.out x93_4 p159 q159
                                  cases e159
                                  replace hx159_0 := (HB.out.cell (World.block_lt_of_cell? w _ hx159_0)).trans hx159_0
                                  replace p159 := eq_true p159
                                  replace q159 := eq_true q159
                                  have hcz68_0 : wr.cell? ⟨gb154, 0, none⟩ = some (.slice A1_0 l1_0.length c1_0) := (blk_cell BK154.out 0).trans rfl
                                  have hcz68_1 : wr.cell? ⟨gb154, 1, none⟩ = some (.string a1_1) := (blk_cell BK154.out 1).trans rfl
                                  have hcz68_2 : wr.cell? ⟨gb154, 2, none⟩ = some (.slice A1_2 l1_2.length c1_2) := (blk_cell BK154.out 2).trans rfl
                                  have hcz68_3 : wr.cell? ⟨gb154, 3, none⟩ = some (.bool a1_3) := (blk_cell BK154.out 3).trans rfl
                                  have hcz68_4 : wr.cell? ⟨gb154, 4, none⟩ = some (.bool a1_4) := (blk_cell BK154.out 4).trans rfl
                                  have hcz68_5 : wr.cell? ⟨gb154, 5, none⟩ = some (.slice A1_5 l1_5.length c1_5) := (blk_cell BK154.out 5).trans rfl
                                  have hfz68_0 := blk_frozen BK154.out 0
                                  have hfz68_1 := blk_frozen BK154.out 1
                                  have hfz68_2 := blk_frozen BK154.out 2
                                  have hfz68_3 := blk_frozen BK154.out 3
                                  have hfz68_4 := blk_frozen BK154.out 4
                                  have hfz68_5 := blk_frozen BK154.out 5
                                  have p160 : 0 ≤ (x93_4 : Int) := of_decide_eq_true (by first | (with_reducible assumption) | assumption)
                                  have q160 : x93_4 < (l1_5.length : Int) := of_decide_eq_true (by first | (with_reducible assumption) | assumption)
                                  obtain ⟨ad160, e160, hx160_0⟩ := Kd.at_int HR1_5.out x93_4 p160 q160
                                  cases e160
                                  replace hx160_0 := (HB.out.cell (World.block_lt_of_cell? w _ hx160_0)).trans hx160_0
                                  replace p160 := eq_true p160
                                  replace q160 := eq_true q160
                                  go_wp2
                                  repeat (go_quiet (fail); try go_wp2)
                                  go_ret
                                  exact ⟨by first | rfl | (simp [errW_none, errW_some] <;> rfl) | (simp [*, errW_none, errW_some] <;> rfl), by repeat (first | (with_reducible first | exact HB.out | apply below_alloc | apply pw_below_drewN | apply below_drew1 | refine below_set ?_ GE153.out | refine below_set ?_ GE154.out) | exact HB.out)⟩
                              · rw [if_neg c61] at H
                                exact absurd H (by simp)
                            · rw [if_neg c60] at H
                              exact absurd H (by simp)
                          · rw [if_neg c59] at H
                            exact absurd H (by simp)
                        · rw [if_neg c58] at H
                          have c58b0 : decide (x93_4 < (l0_5.length : Int)) = false := decide_eq_false c58
                          clear c58
                          obtain rfl := Option.some.inj H
                          go_wp2
                          repeat (go_quiet (fail); try go_wp2)
                          go_ret
                          exact ⟨by first | rfl | (simp [errW_none, errW_some] <;> rfl) | (simp [*, errW_none, errW_some] <;> rfl), by repeat (first | (with_reducible first | exact HB.out | apply below_alloc | apply pw_below_drewN | apply below_drew1 | refine below_set ?_ GE153.out | refine below_set ?_ GE154.out) | exact HB.out)⟩

end Go.Proofs.YtanombfdfpfcoaaGreatDoor.PFnSection
