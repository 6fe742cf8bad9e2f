-- PRINTED BY print.sh 35421559b90ae4d0a3588c463048766b98c2df88dd9212a6774a882060cdf62d: not written by this session
import Derived.Test.YtanombfdfpfcoaaGreatDoorPFnSectionx0
import Derived.Test.YtanombfdfpfcoaaGreatDoorPFnSectionx1
namespace Go.Proofs.YtanombfdfpfcoaaGreatDoor.PFnSection
open Go.RowKit Go.Proofs.YtanombfdfpfcoaaGreatDoorW.PrintWords Go.Proofs.YtanombfdfpfcoaaGreatDoorW.PrintLast Go.Proofs.YtanombfdfpfcoaaGreatDoorW.PrintMore
attribute [local go_sem] max2_int min2_int max_two min_two max_three min_three max_four min_four   -- for this text's walks alone
set_option linter.unusedVariables false
set_option linter.unusedSimpArgs false

/-! ### spec_SectionRight: function 5 -/
mutual
def spec_SectionRight.l0 : Nat → Int → Int → List Int → ByteArray → List ByteArray → Bool → Bool → List Int → Option (Bool)
  | 0, _, _, _, _, _, _, _, _ => none
  | k + 1, x8, x9, x105000, x105001, x105002, x105003, x105004, x105005 => if x9 < x8 then (if 0 ≤ x9 then (if x9 < (x105000.length : Int) then (if (rd x105000 x9) < 1 then (some false) else (if (rd x105000 x9) > 999 then (some false) else (spec_SectionRight.l0 k x8 (wrap64 (x9 + 1)) x105000 x105001 x105002 x105003 x105004 x105005))) else (none)) else (none)) else (spec_SectionRight.l1 k (x105002.length : Int) 0 x105000 x105001 x105002 x105003 x105004 x105005)
def spec_SectionRight.l1 : Nat → Int → Int → List Int → ByteArray → List ByteArray → Bool → Bool → List Int → Option (Bool)
  | 0, _, _, _, _, _, _, _, _ => none
  | k + 1, x29, x30, x105000, x105001, x105002, x105003, x105004, x105005 => if x30 < x29 then (if 0 ≤ x30 then (if x30 < (x105002.length : Int) then ((spec_Atom9.f k (rdOf ByteArray.empty x105002 x30)).bind fun t108 => (if t108 = true then (spec_SectionRight.l1 k x29 (wrap64 (x30 + 1)) x105000 x105001 x105002 x105003 x105004 x105005) else (some false))) else (none)) else (none)) else (if x105001.toList = ([] : List UInt8) then (if (x105000.length : Int) > 6 then (spec_SectionRight.j2 k true x105000 x105001 x105002 x105003 x105004 x105005) else (if (x105002.length : Int) > 8 then (spec_SectionRight.j2 k true x105000 x105001 x105002 x105003 x105004 x105005) else (if (x105002.length : Int) > 0 then (if x105001.toList = ([72, 69, 65, 68, 69, 82] : List UInt8) then (if x105003 = true then (spec_SectionRight.j2 k ((x105002.length : Int) == 0) x105000 x105001 x105002 x105003 x105004 x105005) else (spec_SectionRight.j2 k false x105000 x105001 x105002 x105003 x105004 x105005)) else (spec_SectionRight.j2 k true x105000 x105001 x105002 x105003 x105004 x105005)) else (if x105003 = true then (spec_SectionRight.j2 k ((x105002.length : Int) == 0) x105000 x105001 x105002 x105003 x105004 x105005) else (spec_SectionRight.j2 k false x105000 x105001 x105002 x105003 x105004 x105005))))) else (if x105001.toList = ([72, 69, 65, 68, 69, 82] : List UInt8) then (if (x105000.length : Int) > 6 then (spec_SectionRight.j2 k true x105000 x105001 x105002 x105003 x105004 x105005) else (if (x105002.length : Int) > 8 then (spec_SectionRight.j2 k true x105000 x105001 x105002 x105003 x105004 x105005) else (if (x105002.length : Int) > 0 then (if x105003 = true then (spec_SectionRight.j2 k ((x105002.length : Int) == 0) x105000 x105001 x105002 x105003 x105004 x105005) else (spec_SectionRight.j2 k false x105000 x105001 x105002 x105003 x105004 x105005)) else (if x105003 = true then (spec_SectionRight.j2 k ((x105002.length : Int) == 0) x105000 x105001 x105002 x105003 x105004 x105005) else (spec_SectionRight.j2 k false x105000 x105001 x105002 x105003 x105004 x105005))))) else (if x105001.toList = ([84, 69, 88, 84] : List UInt8) then (if (x105000.length : Int) > 6 then (spec_SectionRight.j2 k true x105000 x105001 x105002 x105003 x105004 x105005) else (if (x105002.length : Int) > 8 then (spec_SectionRight.j2 k true x105000 x105001 x105002 x105003 x105004 x105005) else (if (x105002.length : Int) > 0 then (spec_SectionRight.j2 k true x105000 x105001 x105002 x105003 x105004 x105005) else (if x105003 = true then (spec_SectionRight.j2 k ((x105002.length : Int) == 0) x105000 x105001 x105002 x105003 x105004 x105005) else (spec_SectionRight.j2 k false x105000 x105001 x105002 x105003 x105004 x105005))))) else (if x105001.toList = ([77, 73, 77, 69] : List UInt8) then (if (x105000.length : Int) = 0 then (spec_SectionRight.j2 k true x105000 x105001 x105002 x105003 x105004 x105005) else (if (x105000.length : Int) > 6 then (spec_SectionRight.j2 k true x105000 x105001 x105002 x105003 x105004 x105005) else (if (x105002.length : Int) > 8 then (spec_SectionRight.j2 k true x105000 x105001 x105002 x105003 x105004 x105005) else (if (x105002.length : Int) > 0 then (spec_SectionRight.j2 k true x105000 x105001 x105002 x105003 x105004 x105005) else (if x105003 = true then (spec_SectionRight.j2 k ((x105002.length : Int) == 0) x105000 x105001 x105002 x105003 x105004 x105005) else (spec_SectionRight.j2 k false x105000 x105001 x105002 x105003 x105004 x105005)))))) else (spec_SectionRight.j2 k true x105000 x105001 x105002 x105003 x105004 x105005)))))
def spec_SectionRight.j2 : Nat → Bool → List Int → ByteArray → List ByteArray → Bool → Bool → List Int → Option (Bool)
  | 0, _, _, _, _, _, _, _ => none
  | k + 1, x97, x105000, x105001, x105002, x105003, x105004, x105005 => if x97 = true then (some false) else (spec_SectionRight.l2 k (x105005.length : Int) 0 x105000 x105001 x105002 x105003 x105004 x105005)
def spec_SectionRight.l2 : Nat → Int → Int → List Int → ByteArray → List ByteArray → Bool → Bool → List Int → Option (Bool)
  | 0, _, _, _, _, _, _, _, _ => none
  | k + 1, x100, x101, x105000, x105001, x105002, x105003, x105004, x105005 => if x101 < x100 then (if 0 ≤ x101 then (if x101 < (x105005.length : Int) then (if (rd x105005 x101) < 0 then (some false) else (if (rd x105005 x101) > 1000000 then (some false) else (spec_SectionRight.l2 k x100 (wrap64 (x101 + 1)) x105000 x105001 x105002 x105003 x105004 x105005))) else (none)) else (none)) else (if (x105005.length : Int) = 0 then (some true) else (some ((x105005.length : Int) == 2)))
end
def spec_SectionRight.f (k : Nat) (l0_0 : List Int) (a0_1 : ByteArray) (l0_2 : List ByteArray) (a0_3 : Bool) (a0_4 : Bool) (l0_5 : List Int) : Option (Bool) := spec_SectionRight.l0 k (l0_0.length : Int) 0 l0_0 a0_1 l0_2 a0_3 a0_4 l0_5
theorem spec_SectionRight.mono_l : ∀ k, (∀ y0 y1 y2 y3 y4 y5 y6 y7, LeO (spec_SectionRight.l0 k y0 y1 y2 y3 y4 y5 y6 y7) (spec_SectionRight.l0 (k + 1) y0 y1 y2 y3 y4 y5 y6 y7)) ∧ (∀ y0 y1 y2 y3 y4 y5 y6 y7, LeO (spec_SectionRight.l1 k y0 y1 y2 y3 y4 y5 y6 y7) (spec_SectionRight.l1 (k + 1) y0 y1 y2 y3 y4 y5 y6 y7)) ∧ (∀ y0 y1 y2 y3 y4 y5 y6, LeO (spec_SectionRight.j2 k y0 y1 y2 y3 y4 y5 y6) (spec_SectionRight.j2 (k + 1) y0 y1 y2 y3 y4 y5 y6)) ∧ (∀ y0 y1 y2 y3 y4 y5 y6 y7, LeO (spec_SectionRight.l2 k y0 y1 y2 y3 y4 y5 y6 y7) (spec_SectionRight.l2 (k + 1) y0 y1 y2 y3 y4 y5 y6 y7))
  | 0 => ⟨fun _ _ _ _ _ _ _ _ r h => by simp [spec_SectionRight.l0] at h, fun _ _ _ _ _ _ _ _ r h => by simp [spec_SectionRight.l1] at h, fun _ _ _ _ _ _ _ r h => by simp [spec_SectionRight.j2] at h, fun _ _ _ _ _ _ _ _ r h => by simp [spec_SectionRight.l2] at h⟩
  | k + 1 => by
    obtain ⟨ih0, ih1, ih2, ih3⟩ := spec_SectionRight.mono_l k
    refine ⟨?_, ?_, ?_, ?_⟩
    · intro y0 y1 y2 y3 y4 y5 y6 y7
      unfold spec_SectionRight.l0
      repeat' first
      | (with_reducible exact ih0 _ _ _ _ _ _ _ _)
      | (with_reducible exact ih1 _ _ _ _ _ _ _ _)
      | (with_reducible exact ih2 _ _ _ _ _ _ _)
      | (with_reducible exact ih3 _ _ _ _ _ _ _ _)
      | (with_reducible exact spec_Atom9.mono _ _)
      | (with_reducible exact LeO.refl _)
      | (with_reducible exact LeO.none _)
      | (with_reducible refine LeO.ite ?_ ?_)
      | (with_reducible refine LeO.bind ?_ (fun _ => ?_))
      | exact ih0 _ _ _ _ _ _ _ _
      | exact ih1 _ _ _ _ _ _ _ _
      | exact ih2 _ _ _ _ _ _ _
      | exact ih3 _ _ _ _ _ _ _ _
      | exact spec_Atom9.mono _ _
      | exact LeO.none _
      | refine LeO.ite ?_ ?_
      | refine LeO.bind ?_ (fun _ => ?_)
    · intro y0 y1 y2 y3 y4 y5 y6 y7
      unfold spec_SectionRight.l1
      repeat' first
      | (with_reducible exact ih0 _ _ _ _ _ _ _ _)
      | (with_reducible exact ih1 _ _ _ _ _ _ _ _)
      | (with_reducible exact ih2 _ _ _ _ _ _ _)
      | (with_reducible exact ih3 _ _ _ _ _ _ _ _)
      | (with_reducible exact spec_Atom9.mono _ _)
      | (with_reducible exact LeO.refl _)
      | (with_reducible exact LeO.none _)
      | (with_reducible refine LeO.ite ?_ ?_)
      | (with_reducible refine LeO.bind ?_ (fun _ => ?_))
      | exact ih0 _ _ _ _ _ _ _ _
      | exact ih1 _ _ _ _ _ _ _ _
      | exact ih2 _ _ _ _ _ _ _
      | exact ih3 _ _ _ _ _ _ _ _
      | exact spec_Atom9.mono _ _
      | exact LeO.none _
      | refine LeO.ite ?_ ?_
      | refine LeO.bind ?_ (fun _ => ?_)
    · intro y0 y1 y2 y3 y4 y5 y6
      unfold spec_SectionRight.j2
      repeat' first
      | (with_reducible exact ih0 _ _ _ _ _ _ _ _)
      | (with_reducible exact ih1 _ _ _ _ _ _ _ _)
      | (with_reducible exact ih2 _ _ _ _ _ _ _)
      | (with_reducible exact ih3 _ _ _ _ _ _ _ _)
      | (with_reducible exact spec_Atom9.mono _ _)
      | (with_reducible exact LeO.refl _)
      | (with_reducible exact LeO.none _)
      | (with_reducible refine LeO.ite ?_ ?_)
      | (with_reducible refine LeO.bind ?_ (fun _ => ?_))
      | exact ih0 _ _ _ _ _ _ _ _
      | exact ih1 _ _ _ _ _ _ _ _
      | exact ih2 _ _ _ _ _ _ _
      | exact ih3 _ _ _ _ _ _ _ _
      | exact spec_Atom9.mono _ _
      | exact LeO.none _
      | refine LeO.ite ?_ ?_
      | refine LeO.bind ?_ (fun _ => ?_)
    · intro y0 y1 y2 y3 y4 y5 y6 y7
      unfold spec_SectionRight.l2
      repeat' first
      | (with_reducible exact ih0 _ _ _ _ _ _ _ _)
      | (with_reducible exact ih1 _ _ _ _ _ _ _ _)
      | (with_reducible exact ih2 _ _ _ _ _ _ _)
      | (with_reducible exact ih3 _ _ _ _ _ _ _ _)
      | (with_reducible exact spec_Atom9.mono _ _)
      | (with_reducible exact LeO.refl _)
      | (with_reducible exact LeO.none _)
      | (with_reducible refine LeO.ite ?_ ?_)
      | (with_reducible refine LeO.bind ?_ (fun _ => ?_))
      | exact ih0 _ _ _ _ _ _ _ _
      | exact ih1 _ _ _ _ _ _ _ _
      | exact ih2 _ _ _ _ _ _ _
      | exact ih3 _ _ _ _ _ _ _ _
      | exact spec_Atom9.mono _ _
      | exact LeO.none _
      | refine LeO.ite ?_ ?_
      | refine LeO.bind ?_ (fun _ => ?_)
theorem spec_SectionRight.mono : ∀ a0 a1 a2 a3 a4 a5 k, LeO (spec_SectionRight.f k a0 a1 a2 a3 a4 a5) (spec_SectionRight.f (k + 1) a0 a1 a2 a3 a4 a5) := by
  intro a0 a1 a2 a3 a4 a5 k
  obtain ⟨ih0, ih1, ih2, ih3⟩ := spec_SectionRight.mono_l k
  unfold spec_SectionRight.f
  repeat' first
      | (with_reducible exact ih0 _ _ _ _ _ _ _ _)
      | (with_reducible exact ih1 _ _ _ _ _ _ _ _)
      | (with_reducible exact ih2 _ _ _ _ _ _ _)
      | (with_reducible exact ih3 _ _ _ _ _ _ _ _)
      | (with_reducible exact spec_Atom9.mono _ _)
      | (with_reducible exact LeO.refl _)
      | (with_reducible exact LeO.none _)
      | (with_reducible refine LeO.ite ?_ ?_)
      | (with_reducible refine LeO.bind ?_ (fun _ => ?_))
      | exact ih0 _ _ _ _ _ _ _ _
      | exact ih1 _ _ _ _ _ _ _ _
      | exact ih2 _ _ _ _ _ _ _
      | exact ih3 _ _ _ _ _ _ _ _
      | exact spec_Atom9.mono _ _
      | exact LeO.none _
      | refine LeO.ite ?_ ?_
      | refine LeO.bind ?_ (fun _ => ?_)
set_option maxHeartbeats 8000000 in
set_option maxRecDepth 100000 in
theorem spec_SectionRight.calls (k : Nat) (A0_0 : Option Addr) (c0_0 : Nat) (l0_0 : List Int) (a0_1 : ByteArray) (A0_2 : Option Addr) (c0_2 : Nat) (l0_2 : List ByteArray) (a0_3 : Bool) (a0_4 : Bool) (A0_5 : Option Addr) (c0_5 : Nat) (l0_5 : List Int) (r : Bool) (w : World) (hr0_0 : Kd.C (Kd.int .i64) w A0_0 l0_0.length l0_0) (hc0_0 : l0_0.length ≤ c0_0) (hr0_2 : Kd.C Kd.string w A0_2 l0_2.length l0_2) (hc0_2 : l0_2.length ≤ c0_2) (hr0_5 : Kd.C (Kd.int .i64) w A0_5 l0_5.length l0_5) (hc0_5 : l0_5.length ≤ c0_5) (h : spec_SectionRight.f k l0_0 a0_1 l0_2 a0_3 a0_4 l0_5 = some r) :
    Calls Tryz.prog 5 #[.agg #[.slice A0_0 l0_0.length c0_0, .string a0_1, .slice A0_2 l0_2.length c0_2, .bool a0_3, .bool a0_4, .slice A0_5 l0_5.length c0_5]] w fun e w' => e = .returned (.bool r) ∧ Below w.heap.size w w' := by
  have hu25 := Tryz.underlying25
  have HR0_0 := Aside0.mk hr0_0
  have HC0_0 := Aside0.mk hc0_0
  clear hr0_0 hc0_0
  have HR0_2 := Aside0.mk hr0_2
  have HC0_2 := Aside0.mk hc0_2
  clear hr0_2 hc0_2
  have HR0_5 := Aside0.mk hr0_5
  have HC0_5 := Aside0.mk hc0_5
  clear hr0_5 hc0_5
  have HB := Aside0.mk (Below.refl w.heap.size w)
  have H : (spec_SectionRight.l0 k (l0_0.length : Int) 0 l0_0 a0_1 l0_2 a0_3 a0_4 l0_5) = some r := h
  clear h
  have H' := Aside0.mk H
  clear H
  go_enter Tryz.func5, Tryz.ntmps5
  go_wp2_with (first | ((with_reducible refine gate_dst (N := 1) rfl ?_); (try (refine gate_guard (by rfl) ?_; dsimp only)); refine box_event ?hg (N := 1) ?hd (cs := #[.slice A0_0 l0_0.length c0_0, .string a0_1, .slice A0_2 l0_2.length c0_2, .bool a0_3, .bool a0_4, .slice A0_5 l0_5.length c0_5]) (t := 25) ?hr ?_; (case hd => rfl); (case hg => rfl); (case hr => first | (go_simp; done) | (go_simp; rfl)); intro gb104 hg w2 hbox hb; have n0_ := Aside0.mk (below_step (by repeat (first | (with_reducible first | exact HB.out | apply below_alloc | apply pw_below_drewN | apply below_drew1) | exact HB.out)) hb); have n1_ := Aside0.mk (hbox); have n2_ := Aside0.mk ((by rw [hg]; exact (below_size (by repeat (first | (with_reducible first | exact HB.out | apply below_alloc | apply pw_below_drewN | apply below_drew1) | exact HB.out))) : w.heap.size ≤ gb104)); have n3_ := Aside0.mk ((by rw [hg]; exact (below_size (by repeat (first | (with_reducible first | exact HB.out | apply below_alloc | apply pw_below_drewN | apply below_drew1) | exact HB.out))) : w.heap.size ≤ gb104)); clear HB; have HB := n0_; have BK104 := n1_; have GW104 := n2_; have GE104 := n3_; clear n0_ n1_ n2_ n3_; clear hb hbox hg; have hcz3_0 : w2.cell? ⟨gb104, 0, none⟩ = some (.slice A0_0 l0_0.length c0_0) := (blk_cell BK104.out 0).trans rfl; have hcz3_1 : w2.cell? ⟨gb104, 1, none⟩ = some (.string a0_1) := (blk_cell BK104.out 1).trans rfl; have hcz3_2 : w2.cell? ⟨gb104, 2, none⟩ = some (.slice A0_2 l0_2.length c0_2) := (blk_cell BK104.out 2).trans rfl; have hcz3_3 : w2.cell? ⟨gb104, 3, none⟩ = some (.bool a0_3) := (blk_cell BK104.out 3).trans rfl; have hcz3_4 : w2.cell? ⟨gb104, 4, none⟩ = some (.bool a0_4) := (blk_cell BK104.out 4).trans rfl; have hcz3_5 : w2.cell? ⟨gb104, 5, none⟩ = some (.slice A0_5 l0_5.length c0_5) := (blk_cell BK104.out 5).trans rfl; have hfz3_0 := blk_frozen BK104.out 0; have hfz3_1 := blk_frozen BK104.out 1; have hfz3_2 := blk_frozen BK104.out 2; have hfz3_3 := blk_frozen BK104.out 3; have hfz3_4 := blk_frozen BK104.out 4; have hfz3_5 := blk_frozen BK104.out 5))
  go_loopg [9] k (fun kq v9 w' => ∃ (x9_1 : Int), v9 = .int .i64 x9_1 ∧ Aside0 (spec_SectionRight.l0 kq (l0_0.length : Int) x9_1 l0_0 a0_1 l0_2 a0_3 a0_4 l0_5 = some r) ∧ Aside0 (kq ≤ k) ∧ Aside0 (w'.heap[gb104]? = some (.cells #[(.slice A0_0 l0_0.length c0_0), .string a0_1, (.slice A0_2 l0_2.length c0_2), .bool a0_3, .bool a0_4, (.slice A0_5 l0_5.length c0_5)] 25 (0, 0))) ∧ Aside0 (Below w.heap.size w w'))
  case atStart => exact ⟨(0), (by first | rfl | (simp; done) | (simp [*]; done)), H', ⟨Nat.le_refl _⟩, ⟨by (with_reducible repeat (first | refine blk_drewN ?_ _ | refine blk_drew ?_ | refine blk_alloc ?_ _)); exact BK104.out⟩, ⟨by repeat (first | (with_reducible first | exact HB.out | apply below_alloc | apply pw_below_drewN | apply below_drew1 | refine below_set ?_ GE104.out) | exact HB.out)⟩⟩
  case round =>
    clear H'
    try clear p2
    try clear hcz3_0
    try clear hcz3_1
    try clear hcz3_2
    try clear hcz3_3
    try clear hcz3_4
    try clear hcz3_5
    try clear hfz3_0
    try clear hfz3_1
    try clear hfz3_2
    try clear hfz3_3
    try clear hfz3_4
    try clear hfz3_5
    obtain ⟨x9_1, rfl, HA, HK1, BK104, HB⟩ := hrel
    cases gk with
    | zero => exact absurd HA.out (by simp [spec_SectionRight.l0])
    | succ k1 =>
      have H := HA.out
      clear HA
      simp only [spec_SectionRight.l0] at H
      by_cases c4 : x9_1 < (l0_0.length : Int)
      · rw [if_pos c4] at H
        have c4b0 : decide (x9_1 < (l0_0.length : Int)) = true := decide_eq_true c4
        clear c4
        by_cases c5 : 0 ≤ x9_1
        · rw [if_pos c5] at H
          have c5b0 : decide (0 ≤ x9_1) = true := decide_eq_true c5
          clear c5
          by_cases c6 : x9_1 < (l0_0.length : Int)
          · rw [if_pos c6] at H
            have c6b0 : decide (x9_1 < (l0_0.length : Int)) = true := decide_eq_true c6
            clear c6
            by_cases c7 : (rd l0_0 x9_1) < 1
            · rw [if_pos c7] at H
              have c7b0 : decide ((rd l0_0 x9_1) < 1) = true := decide_eq_true c7
              clear c7
              obtain rfl := Option.some.inj H
              have hcz8_0 : wr.cell? ⟨gb104, 0, none⟩ = some (.slice A0_0 l0_0.length c0_0) := (blk_cell BK104.out 0).trans rfl
              have hcz8_1 : wr.cell? ⟨gb104, 1, none⟩ = some (.string a0_1) := (blk_cell BK104.out 1).trans rfl
              have hcz8_2 : wr.cell? ⟨gb104, 2, none⟩ = some (.slice A0_2 l0_2.length c0_2) := (blk_cell BK104.out 2).trans rfl
              have hcz8_3 : wr.cell? ⟨gb104, 3, none⟩ = some (.bool a0_3) := (blk_cell BK104.out 3).trans rfl
              have hcz8_4 : wr.cell? ⟨gb104, 4, none⟩ = some (.bool a0_4) := (blk_cell BK104.out 4).trans rfl
              have hcz8_5 : wr.cell? ⟨gb104, 5, none⟩ = some (.slice A0_5 l0_5.length c0_5) := (blk_cell BK104.out 5).trans rfl
              have hfz8_0 := blk_frozen BK104.out 0
              have hfz8_1 := blk_frozen BK104.out 1
              have hfz8_2 := blk_frozen BK104.out 2
              have hfz8_3 := blk_frozen BK104.out 3
              have hfz8_4 := blk_frozen BK104.out 4
              have hfz8_5 := blk_frozen BK104.out 5
              have p105 : 0 ≤ (x9_1 : Int) := of_decide_eq_true (by first | (with_reducible assumption) | assumption)
              have q105 : x9_1 < (l0_0.length : Int) := of_decide_eq_true (by first | (with_reducible assumption) | assumption)
              obtain ⟨ad105, e105, hx105_0⟩ := Kd.at_int HR0_0.out x9_1 p105 q105
              cases e105
              replace hx105_0 := (HB.out.cell (World.block_lt_of_cell? w _ hx105_0)).trans hx105_0
              replace p105 := eq_true p105
              replace q105 := eq_true q105
              go_wp2
              go_ret
              exact ⟨by first | rfl | (simp [errW_none, errW_some] <;> rfl) | (simp [*, errW_none, errW_some] <;> rfl), by repeat (first | (with_reducible first | exact HB.out | apply below_alloc | apply pw_below_drewN | apply below_drew1 | refine below_set ?_ GE104.out) | exact HB.out)⟩
            · rw [if_neg c7] at H
              have c7b0 : decide ((rd l0_0 x9_1) < 1) = false := decide_eq_false c7
              clear c7
              by_cases c9 : (rd l0_0 x9_1) > 999
              · rw [if_pos c9] at H
                have c9b0 : decide (999 < (rd l0_0 x9_1)) = true := decide_eq_true c9
                clear c9
                obtain rfl := Option.some.inj H
                have hcz10_0 : wr.cell? ⟨gb104, 0, none⟩ = some (.slice A0_0 l0_0.length c0_0) := (blk_cell BK104.out 0).trans rfl
                have hcz10_1 : wr.cell? ⟨gb104, 1, none⟩ = some (.string a0_1) := (blk_cell BK104.out 1).trans rfl
                have hcz10_2 : wr.cell? ⟨gb104, 2, none⟩ = some (.slice A0_2 l0_2.length c0_2) := (blk_cell BK104.out 2).trans rfl
                have hcz10_3 : wr.cell? ⟨gb104, 3, none⟩ = some (.bool a0_3) := (blk_cell BK104.out 3).trans rfl
                have hcz10_4 : wr.cell? ⟨gb104, 4, none⟩ = some (.bool a0_4) := (blk_cell BK104.out 4).trans rfl
                have hcz10_5 : wr.cell? ⟨gb104, 5, none⟩ = some (.slice A0_5 l0_5.length c0_5) := (blk_cell BK104.out 5).trans rfl
                have hfz10_0 := blk_frozen BK104.out 0
                have hfz10_1 := blk_frozen BK104.out 1
                have hfz10_2 := blk_frozen BK104.out 2
                have hfz10_3 := blk_frozen BK104.out 3
                have hfz10_4 := blk_frozen BK104.out 4
                have hfz10_5 := blk_frozen BK104.out 5
                have p105 : 0 ≤ (x9_1 : Int) := of_decide_eq_true (by first | (with_reducible assumption) | assumption)
                have q105 : x9_1 < (l0_0.length : Int) := of_decide_eq_true (by first | (with_reducible assumption) | assumption)
                obtain ⟨ad105, e105, hx105_0⟩ := Kd.at_int HR0_0.out x9_1 p105 q105
                cases e105
                replace hx105_0 := (HB.out.cell (World.block_lt_of_cell? w _ hx105_0)).trans hx105_0
                replace p105 := eq_true p105
                replace q105 := eq_true q105
                have p106 : 0 ≤ (x9_1 : Int) := of_decide_eq_true (by first | (with_reducible assumption) | assumption)
                have q106 : x9_1 < (l0_0.length : Int) := of_decide_eq_true (by first | (with_reducible assumption) | assumption)
                obtain ⟨ad106, e106, hx106_0⟩ := Kd.at_int HR0_0.out x9_1 p106 q106
                obtain rfl : ad105 = ad106 := (by injection e106)
                replace hx106_0 := (HB.out.cell (World.block_lt_of_cell? w _ hx106_0)).trans hx106_0
                replace p106 := eq_true p106
                replace q106 := eq_true q106
                go_wp2
                go_ret
                exact ⟨by first | rfl | (simp [errW_none, errW_some] <;> rfl) | (simp [*, errW_none, errW_some] <;> rfl), by repeat (first | (with_reducible first | exact HB.out | apply below_alloc | apply pw_below_drewN | apply below_drew1 | refine below_set ?_ GE104.out) | exact HB.out)⟩
              · rw [if_neg c9] at H
                have c9b0 : decide (999 < (rd l0_0 x9_1)) = false := decide_eq_false c9
                clear c9
                have H' := Aside0.mk H
                clear H
                have hcz11_0 : wr.cell? ⟨gb104, 0, none⟩ = some (.slice A0_0 l0_0.length c0_0) := (blk_cell BK104.out 0).trans rfl
                have hcz11_1 : wr.cell? ⟨gb104, 1, none⟩ = some (.string a0_1) := (blk_cell BK104.out 1).trans rfl
                have hcz11_2 : wr.cell? ⟨gb104, 2, none⟩ = some (.slice A0_2 l0_2.length c0_2) := (blk_cell BK104.out 2).trans rfl
                have hcz11_3 : wr.cell? ⟨gb104, 3, none⟩ = some (.bool a0_3) := (blk_cell BK104.out 3).trans rfl
                have hcz11_4 : wr.cell? ⟨gb104, 4, none⟩ = some (.bool a0_4) := (blk_cell BK104.out 4).trans rfl
                have hcz11_5 : wr.cell? ⟨gb104, 5, none⟩ = some (.slice A0_5 l0_5.length c0_5) := (blk_cell BK104.out 5).trans rfl
                have hfz11_0 := blk_frozen BK104.out 0
                have hfz11_1 := blk_frozen BK104.out 1
                have hfz11_2 := blk_frozen BK104.out 2
                have hfz11_3 := blk_frozen BK104.out 3
                have hfz11_4 := blk_frozen BK104.out 4
                have hfz11_5 := blk_frozen BK104.out 5
                have p105 : 0 ≤ (x9_1 : Int) := of_decide_eq_true (by first | (with_reducible assumption) | assumption)
                have q105 : x9_1 < (l0_0.length : Int) := of_decide_eq_true (by first | (with_reducible assumption) | assumption)
                obtain ⟨ad105, e105, hx105_0⟩ := Kd.at_int HR0_0.out x9_1 p105 q105
                cases e105
                replace hx105_0 := (HB.out.cell (World.block_lt_of_cell? w _ hx105_0)).trans hx105_0
                replace p105 := eq_true p105
                replace q105 := eq_true q105
                have p106 : 0 ≤ (x9_1 : Int) := of_decide_eq_true (by first | (with_reducible assumption) | assumption)
                have q106 : x9_1 < (l0_0.length : Int) := of_decide_eq_true (by first | (with_reducible assumption) | assumption)
                obtain ⟨ad106, e106, hx106_0⟩ := Kd.at_int HR0_0.out x9_1 p106 q106
                obtain rfl : ad105 = ad106 := (by injection e106)
                replace hx106_0 := (HB.out.cell (World.block_lt_of_cell? w _ hx106_0)).trans hx106_0
                replace p106 := eq_true p106
                replace q106 := eq_true q106
                go_wp2
                go_roundg k1
                case measure => have := HK1.out; omega
                case rel => exact ⟨(wrap64 (x9_1 + 1)), (by first | rfl | (simp; done) | (simp [*]; done)), H', ⟨by have := HK1.out; omega⟩, ⟨by (with_reducible repeat (first | refine blk_drewN ?_ _ | refine blk_drew ?_ | refine blk_alloc ?_ _)); exact BK104.out⟩, ⟨by repeat (first | (with_reducible first | exact HB.out | apply below_alloc | apply pw_below_drewN | apply below_drew1 | refine below_set ?_ GE104.out) | exact HB.out)⟩⟩
          · rw [if_neg c6] at H
            exact absurd H (by simp)
        · rw [if_neg c5] at H
          exact absurd H (by simp)
      · rw [if_neg c4] at H
        have c4b0 : decide (x9_1 < (l0_0.length : Int)) = false := decide_eq_false c4
        clear c4
        have H' := Aside0.mk H
        clear H
        have hcz12_0 : wr.cell? ⟨gb104, 0, none⟩ = some (.slice A0_0 l0_0.length c0_0) := (blk_cell BK104.out 0).trans rfl
        have hcz12_1 : wr.cell? ⟨gb104, 1, none⟩ = some (.string a0_1) := (blk_cell BK104.out 1).trans rfl
        have hcz12_2 : wr.cell? ⟨gb104, 2, none⟩ = some (.slice A0_2 l0_2.length c0_2) := (blk_cell BK104.out 2).trans rfl
        have hcz12_3 : wr.cell? ⟨gb104, 3, none⟩ = some (.bool a0_3) := (blk_cell BK104.out 3).trans rfl
        have hcz12_4 : wr.cell? ⟨gb104, 4, none⟩ = some (.bool a0_4) := (blk_cell BK104.out 4).trans rfl
        have hcz12_5 : wr.cell? ⟨gb104, 5, none⟩ = some (.slice A0_5 l0_5.length c0_5) := (blk_cell BK104.out 5).trans rfl
        have hfz12_0 := blk_frozen BK104.out 0
        have hfz12_1 := blk_frozen BK104.out 1
        have hfz12_2 := blk_frozen BK104.out 2
        have hfz12_3 := blk_frozen BK104.out 3
        have hfz12_4 := blk_frozen BK104.out 4
        have hfz12_5 := blk_frozen BK104.out 5
        go_wp2
        go_loopg [30] k1 (fun kq v30 w' => ∃ (x30_2 : Int), v30 = .int .i64 x30_2 ∧ Aside0 (spec_SectionRight.l1 kq (l0_2.length : Int) x30_2 l0_0 a0_1 l0_2 a0_3 a0_4 l0_5 = some r) ∧ Aside0 (kq ≤ k1) ∧ Aside0 (w'.heap[gb104]? = some (.cells #[(.slice A0_0 l0_0.length c0_0), .string a0_1, (.slice A0_2 l0_2.length c0_2), .bool a0_3, .bool a0_4, (.slice A0_5 l0_5.length c0_5)] 25 (0, 0))) ∧ Aside0 (Below w.heap.size w w'))
        case atStart => exact ⟨(0), (by first | rfl | (simp; done) | (simp [*]; done)), H', ⟨Nat.le_refl _⟩, ⟨by (with_reducible repeat (first | refine blk_drewN ?_ _ | refine blk_drew ?_ | refine blk_alloc ?_ _)); exact BK104.out⟩, ⟨by repeat (first | (with_reducible first | exact HB.out | apply below_alloc | apply pw_below_drewN | apply below_drew1 | refine below_set ?_ GE104.out) | exact HB.out)⟩⟩
        case round =>
          clear H'
          try clear p1
          try clear q1
          try clear hx1
          try clear p2
          try clear c4
          try clear c4b0
          try clear c5
          try clear c5b0
          try clear c6
          try clear c6b0
          try clear p6
          try clear c7
          try clear c7b0
          try clear c9
          try clear c9b0
          try clear p10
          try clear q10
          try clear hx10
          try clear hcz10_0
          try clear hcz10_1
          try clear hcz10_2
          try clear hcz10_3
          try clear hcz10_4
          try clear hcz10_5
          try clear hcz11_0
          try clear hcz11_1
          try clear hcz11_2
          try clear hcz11_3
          try clear hcz11_4
          try clear hcz11_5
          try clear hcz12_0
          try clear hcz12_1
          try clear hcz12_2
          try clear hcz12_3
          try clear hcz12_4
          try clear hcz12_5
          try clear hcz3_0
          try clear hcz3_1
          try clear hcz3_2
          try clear hcz3_3
          try clear hcz3_4
          try clear hcz3_5
          try clear hcz8_0
          try clear hcz8_1
          try clear hcz8_2
          try clear hcz8_3
          try clear hcz8_4
          try clear hcz8_5
          try clear hfz10_0
          try clear hfz10_1
          try clear hfz10_2
          try clear hfz10_3
          try clear hfz10_4
          try clear hfz10_5
          try clear hfz11_0
          try clear hfz11_1
          try clear hfz11_2
          try clear hfz11_3
          try clear hfz11_4
          try clear hfz11_5
          try clear hfz12_0
          try clear hfz12_1
          try clear hfz12_2
          try clear hfz12_3
          try clear hfz12_4
          try clear hfz12_5
          try clear hfz3_0
          try clear hfz3_1
          try clear hfz3_2
          try clear hfz3_3
          try clear hfz3_4
          try clear hfz3_5
          try clear hfz8_0
          try clear hfz8_1
          try clear hfz8_2
          try clear hfz8_3
          try clear hfz8_4
          try clear hfz8_5
          try clear hx105_0
          try clear hx106_0
          try clear p105
          try clear p106
          try clear p2
          try clear q105
          try clear q106
          obtain ⟨x30_2, rfl, HA, HK2, BK104, HB⟩ := hrel
          cases gk with
          | zero => exact absurd HA.out (by simp [spec_SectionRight.l1])
          | succ k2 =>
            have H := HA.out
            clear HA
            simp only [spec_SectionRight.l1] at H
            by_cases c13 : x30_2 < (l0_2.length : Int)
            · rw [if_pos c13] at H
              have c13b0 : decide (x30_2 < (l0_2.length : Int)) = true := decide_eq_true c13
              clear c13
              by_cases c14 : 0 ≤ x30_2
              · rw [if_pos c14] at H
                have c14b0 : decide (0 ≤ x30_2) = true := decide_eq_true c14
                clear c14
                by_cases c15 : x30_2 < (l0_2.length : Int)
                · rw [if_pos c15] at H
                  have c15b0 : decide (x30_2 < (l0_2.length : Int)) = true := decide_eq_true c15
                  clear c15
                  replace H := Option.bind_eq_some_iff.mp H
                  obtain ⟨t108, A160, H⟩ := H
                  replace H : (if t108 = true then (spec_SectionRight.l1 k2 (l0_2.length : Int) (wrap64 (x30_2 + 1)) l0_0 a0_1 l0_2 a0_3 a0_4 l0_5) else (some false)) = some r := H
                  have A16 := Aside0.mk A160
                  clear A160
                  by_cases c17 : t108 = true
                  · subst c17
                    have H1 : (spec_SectionRight.l1 k2 (l0_2.length : Int) (wrap64 (x30_2 + 1)) l0_0 a0_1 l0_2 a0_3 a0_4 l0_5) = some r := by rw [if_pos rfl] at H; exact H
                    clear H
                    have H := H1
                    clear H1
                    have H' := Aside0.mk H
                    clear H
                    have hcz18_0 : wr.cell? ⟨gb104, 0, none⟩ = some (.slice A0_0 l0_0.length c0_0) := (blk_cell BK104.out 0).trans rfl
                    have hcz18_1 : wr.cell? ⟨gb104, 1, none⟩ = some (.string a0_1) := (blk_cell BK104.out 1).trans rfl
                    have hcz18_2 : wr.cell? ⟨gb104, 2, none⟩ = some (.slice A0_2 l0_2.length c0_2) := (blk_cell BK104.out 2).trans rfl
                    have hcz18_3 : wr.cell? ⟨gb104, 3, none⟩ = some (.bool a0_3) := (blk_cell BK104.out 3).trans rfl
                    have hcz18_4 : wr.cell? ⟨gb104, 4, none⟩ = some (.bool a0_4) := (blk_cell BK104.out 4).trans rfl
                    have hcz18_5 : wr.cell? ⟨gb104, 5, none⟩ = some (.slice A0_5 l0_5.length c0_5) := (blk_cell BK104.out 5).trans rfl
                    have hfz18_0 := blk_frozen BK104.out 0
                    have hfz18_1 := blk_frozen BK104.out 1
                    have hfz18_2 := blk_frozen BK104.out 2
                    have hfz18_3 := blk_frozen BK104.out 3
                    have hfz18_4 := blk_frozen BK104.out 4
                    have hfz18_5 := blk_frozen BK104.out 5
                    have p107 : 0 ≤ (x30_2 : Int) := of_decide_eq_true (by first | (with_reducible assumption) | assumption)
                    have q107 : x30_2 < (l0_2.length : Int) := of_decide_eq_true (by first | (with_reducible assumption) | assumption)
                    obtain ⟨ad107, e107, hx107_0⟩ := Kd.at_string HR0_2.out x30_2 p107 q107
                    cases e107
                    replace hx107_0 := (HB.out.cell (World.block_lt_of_cell? w _ hx107_0)).trans hx107_0
                    replace p107 := eq_true p107
                    replace q107 := eq_true q107
                    go_wp2_with (first | ((with_reducible refine gate_callee (f := 12) rfl ?_); refine goesL_ (some 38) rfl rfl Tryz.func12 (by kernel_rfl) rfl #[.string (rdOf ByteArray.empty l0_2 x30_2)] rfl (by (try simp only [List.map_toArray, List.map_cons, List.map_nil]); first | done | rfl | (simp only [List.length_drop, List.length_take]; rfl)) ?_; (with_reducible refine (spec_Atom9.calls k2 (rdOf ByteArray.empty l0_2 x30_2) true _ A16.out).mono ?_); rintro e w' ⟨rfl, ⟨nd, rfl⟩⟩; refine ⟨_, rfl, ?_⟩))
                    go_roundg k2
                    case measure => have := HK1.out; have := HK2.out; omega
                    case rel => exact ⟨(wrap64 (x30_2 + 1)), (by first | rfl | (simp; done) | (simp [*]; done)), H', ⟨by have := HK1.out; have := HK2.out; omega⟩, ⟨by (with_reducible repeat (first | refine blk_drewN ?_ _ | refine blk_drew ?_ | refine blk_alloc ?_ _)); exact BK104.out⟩, ⟨by repeat (first | (with_reducible first | exact HB.out | apply below_alloc | apply pw_below_drewN | apply below_drew1 | refine below_set ?_ GE104.out) | exact HB.out)⟩⟩
                  · replace c17 := Bool.eq_false_iff.mpr c17
                    subst c17
                    have H1 : (some false) = some r := by rw [if_neg (show ¬ (false = true) by decide)] at H; exact H
                    clear H
                    have H := H1
                    clear H1
                    obtain rfl := Option.some.inj H
                    have hcz19_0 : wr.cell? ⟨gb104, 0, none⟩ = some (.slice A0_0 l0_0.length c0_0) := (blk_cell BK104.out 0).trans rfl
                    have hcz19_1 : wr.cell? ⟨gb104, 1, none⟩ = some (.string a0_1) := (blk_cell BK104.out 1).trans rfl
                    have hcz19_2 : wr.cell? ⟨gb104, 2, none⟩ = some (.slice A0_2 l0_2.length c0_2) := (blk_cell BK104.out 2).trans rfl
                    have hcz19_3 : wr.cell? ⟨gb104, 3, none⟩ = some (.bool a0_3) := (blk_cell BK104.out 3).trans rfl
                    have hcz19_4 : wr.cell? ⟨gb104, 4, none⟩ = some (.bool a0_4) := (blk_cell BK104.out 4).trans rfl
                    have hcz19_5 : wr.cell? ⟨gb104, 5, none⟩ = some (.slice A0_5 l0_5.length c0_5) := (blk_cell BK104.out 5).trans rfl
                    have hfz19_0 := blk_frozen BK104.out 0
                    have hfz19_1 := blk_frozen BK104.out 1
                    have hfz19_2 := blk_frozen BK104.out 2
                    have hfz19_3 := blk_frozen BK104.out 3
                    have hfz19_4 := blk_frozen BK104.out 4
                    have hfz19_5 := blk_frozen BK104.out 5
                    have p107 : 0 ≤ (x30_2 : Int) := of_decide_eq_true (by first | (with_reducible assumption) | assumption)
                    have q107 : x30_2 < (l0_2.length : Int) := of_decide_eq_true (by first | (with_reducible assumption) | assumption)
                    obtain ⟨ad107, e107, hx107_0⟩ := Kd.at_string HR0_2.out x30_2 p107 q107
                    cases e107
                    replace hx107_0 := (HB.out.cell (World.block_lt_of_cell? w _ hx107_0)).trans hx107_0
                    replace p107 := eq_true p107
                    replace q107 := eq_true q107
                    go_wp2_with (first | ((with_reducible refine gate_callee (f := 12) rfl ?_); refine goesL_ (some 38) rfl rfl Tryz.func12 (by kernel_rfl) rfl #[.string (rdOf ByteArray.empty l0_2 x30_2)] rfl (by (try simp only [List.map_toArray, List.map_cons, List.map_nil]); first | done | rfl | (simp only [List.length_drop, List.length_take]; rfl)) ?_; (with_reducible refine (spec_Atom9.calls k2 (rdOf ByteArray.empty l0_2 x30_2) false _ A16.out).mono ?_); rintro e w' ⟨rfl, ⟨nd, rfl⟩⟩; refine ⟨_, rfl, ?_⟩))
                    go_ret
                    exact ⟨by first | rfl | (simp [errW_none, errW_some] <;> rfl) | (simp [*, errW_none, errW_some] <;> rfl), by repeat (first | (with_reducible first | exact HB.out | apply below_alloc | apply pw_below_drewN | apply below_drew1 | refine below_set ?_ GE104.out) | exact HB.out)⟩
                · rw [if_neg c15] at H
                  exact absurd H (by simp)
              · rw [if_neg c14] at H
                exact absurd H (by simp)
            · rw [if_neg c13] at H
              have c13b0 : decide (x30_2 < (l0_2.length : Int)) = false := decide_eq_false c13
              clear c13
              have HC20 := Aside0.mk H
              clear H
              go_upto_region 13 with (fail)
              go_cut [97] (fun v97 wc => ∃ (kq : Nat) (x97_19 : Bool), v97 = .bool x97_19 ∧ Aside0 (spec_SectionRight.j2 kq x97_19 l0_0 a0_1 l0_2 a0_3 a0_4 l0_5 = some r) ∧ Aside0 (kq ≤ k2) ∧ Aside0 (wc.heap[gb104]? = some (.cells #[(.slice A0_0 l0_0.length c0_0), .string a0_1, (.slice A0_2 l0_2.length c0_2), .bool a0_3, .bool a0_4, (.slice A0_5 l0_5.length c0_5)] 25 (0, 0))) ∧ Aside0 (Below w.heap.size w wc))
              case first =>
                have H := HC20.out
                clear HC20
                by_cases c21 : a0_1.toList = ([] : List UInt8)
                · rw [if_pos c21] at H
                  have c21b0 : (a0_1.toList == ([] : List UInt8)) = true := beq_iff_eq.mpr c21
                  have c21b1 : (a0_1.toList != ([] : List UInt8)) = false := bne_eq_false_iff_eq.mpr c21
                  clear c21
                  (first | rw [c21b0] | (simp only [i64_w, i32_w]; rw [c21b0]) | skip)
                  by_cases c22 : (l0_0.length : Int) > 6
                  · rw [if_pos c22] at H
                    have c22b0 : decide (6 < (l0_0.length : Int)) = true := decide_eq_true c22
                    have c22b1 : decide (6 < l0_0.length) = true := decide_eq_true (by omega)
                    clear c22
                    have H' := Aside0.mk H
                    clear H
                    have hcz23_0 : wr.cell? ⟨gb104, 0, none⟩ = some (.slice A0_0 l0_0.length c0_0) := (blk_cell BK104.out 0).trans rfl
                    have hcz23_1 : wr.cell? ⟨gb104, 1, none⟩ = some (.string a0_1) := (blk_cell BK104.out 1).trans rfl
                    have hcz23_2 : wr.cell? ⟨gb104, 2, none⟩ = some (.slice A0_2 l0_2.length c0_2) := (blk_cell BK104.out 2).trans rfl
                    have hcz23_3 : wr.cell? ⟨gb104, 3, none⟩ = some (.bool a0_3) := (blk_cell BK104.out 3).trans rfl
                    have hcz23_4 : wr.cell? ⟨gb104, 4, none⟩ = some (.bool a0_4) := (blk_cell BK104.out 4).trans rfl
                    have hcz23_5 : wr.cell? ⟨gb104, 5, none⟩ = some (.slice A0_5 l0_5.length c0_5) := (blk_cell BK104.out 5).trans rfl
                    have hfz23_0 := blk_frozen BK104.out 0
                    have hfz23_1 := blk_frozen BK104.out 1
                    have hfz23_2 := blk_frozen BK104.out 2
                    have hfz23_3 := blk_frozen BK104.out 3
                    have hfz23_4 := blk_frozen BK104.out 4
                    have hfz23_5 := blk_frozen BK104.out 5
                    go_wp2
                    go_meet
                    case rel => exact ⟨_, (true), (by first | rfl | (simp; done) | (simp [*]; done)), H', ⟨by have := HK1.out; have := HK2.out; first | omega | exact Nat.le_refl _⟩, ⟨by (with_reducible repeat (first | refine blk_drewN ?_ _ | refine blk_drew ?_ | refine blk_alloc ?_ _)); exact BK104.out⟩, ⟨by repeat (first | (with_reducible first | exact HB.out | apply below_alloc | apply pw_below_drewN | apply below_drew1 | refine below_set ?_ GE104.out) | exact HB.out)⟩⟩
                  · rw [if_neg c22] at H
                    have c22b0 : decide (6 < (l0_0.length : Int)) = false := decide_eq_false c22
                    have c22b1 : decide (6 < l0_0.length) = false := decide_eq_false (by omega)
                    clear c22
                    by_cases c24 : (l0_2.length : Int) > 8
                    · rw [if_pos c24] at H
                      have c24b0 : decide (8 < (l0_2.length : Int)) = true := decide_eq_true c24
                      have c24b1 : decide (8 < l0_2.length) = true := decide_eq_true (by omega)
                      clear c24
                      have H' := Aside0.mk H
                      clear H
                      have hcz25_0 : wr.cell? ⟨gb104, 0, none⟩ = some (.slice A0_0 l0_0.length c0_0) := (blk_cell BK104.out 0).trans rfl
                      have hcz25_1 : wr.cell? ⟨gb104, 1, none⟩ = some (.string a0_1) := (blk_cell BK104.out 1).trans rfl
                      have hcz25_2 : wr.cell? ⟨gb104, 2, none⟩ = some (.slice A0_2 l0_2.length c0_2) := (blk_cell BK104.out 2).trans rfl
                      have hcz25_3 : wr.cell? ⟨gb104, 3, none⟩ = some (.bool a0_3) := (blk_cell BK104.out 3).trans rfl
                      have hcz25_4 : wr.cell? ⟨gb104, 4, none⟩ = some (.bool a0_4) := (blk_cell BK104.out 4).trans rfl
                      have hcz25_5 : wr.cell? ⟨gb104, 5, none⟩ = some (.slice A0_5 l0_5.length c0_5) := (blk_cell BK104.out 5).trans rfl
                      have hfz25_0 := blk_frozen BK104.out 0
                      have hfz25_1 := blk_frozen BK104.out 1
                      have hfz25_2 := blk_frozen BK104.out 2
                      have hfz25_3 := blk_frozen BK104.out 3
                      have hfz25_4 := blk_frozen BK104.out 4
                      have hfz25_5 := blk_frozen BK104.out 5
                      go_wp2
                      go_meet
                      case rel => exact ⟨_, (true), (by first | rfl | (simp; done) | (simp [*]; done)), H', ⟨by have := HK1.out; have := HK2.out; first | omega | exact Nat.le_refl _⟩, ⟨by (with_reducible repeat (first | refine blk_drewN ?_ _ | refine blk_drew ?_ | refine blk_alloc ?_ _)); exact BK104.out⟩, ⟨by repeat (first | (with_reducible first | exact HB.out | apply below_alloc | apply pw_below_drewN | apply below_drew1 | refine below_set ?_ GE104.out) | exact HB.out)⟩⟩
                    · rw [if_neg c24] at H
                      have c24b0 : decide (8 < (l0_2.length : Int)) = false := decide_eq_false c24
                      have c24b1 : decide (8 < l0_2.length) = false := decide_eq_false (by omega)
                      clear c24
                      by_cases c26 : (l0_2.length : Int) > 0
                      · rw [if_pos c26] at H
                        have c26b0 : decide (0 < (l0_2.length : Int)) = true := decide_eq_true c26
                        have c26b1 : decide (0 < l0_2.length) = true := decide_eq_true (by omega)
                        clear c26
                        by_cases c27 : a0_1.toList = ([72, 69, 65, 68, 69, 82] : List UInt8)
                        · rw [if_pos c27] at H
                          have c27b0 : (a0_1.toList == ([72, 69, 65, 68, 69, 82] : List UInt8)) = true := beq_iff_eq.mpr c27
                          have c27b1 : (a0_1.toList != ([72, 69, 65, 68, 69, 82] : List UInt8)) = false := bne_eq_false_iff_eq.mpr c27
                          clear c27
                          by_cases c28 : a0_3 = true
                          · subst c28
                            have H1 : (spec_SectionRight.j2 k2 ((l0_2.length : Int) == 0) l0_0 a0_1 l0_2 true a0_4 l0_5) = some r := by rw [if_pos rfl] at H; exact H
                            clear H
                            have H := H1
                            clear H1
                            have H' := Aside0.mk H
                            clear H
                            have hcz29_0 : wr.cell? ⟨gb104, 0, none⟩ = some (.slice A0_0 l0_0.length c0_0) := (blk_cell BK104.out 0).trans rfl
                            have hcz29_1 : wr.cell? ⟨gb104, 1, none⟩ = some (.string a0_1) := (blk_cell BK104.out 1).trans rfl
                            have hcz29_2 : wr.cell? ⟨gb104, 2, none⟩ = some (.slice A0_2 l0_2.length c0_2) := (blk_cell BK104.out 2).trans rfl
                            have hcz29_3 : wr.cell? ⟨gb104, 3, none⟩ = some (.bool true) := (blk_cell BK104.out 3).trans rfl
                            have hcz29_4 : wr.cell? ⟨gb104, 4, none⟩ = some (.bool a0_4) := (blk_cell BK104.out 4).trans rfl
                            have hcz29_5 : wr.cell? ⟨gb104, 5, none⟩ = some (.slice A0_5 l0_5.length c0_5) := (blk_cell BK104.out 5).trans rfl
                            have hfz29_0 := blk_frozen BK104.out 0
                            have hfz29_1 := blk_frozen BK104.out 1
                            have hfz29_2 := blk_frozen BK104.out 2
                            have hfz29_3 := blk_frozen BK104.out 3
                            have hfz29_4 := blk_frozen BK104.out 4
                            have hfz29_5 := blk_frozen BK104.out 5
                            go_wp2
                            go_meet
                            case rel => exact ⟨_, (((l0_2.length : Int) == 0)), (by first | rfl | (simp; done) | (simp [*]; done)), H', ⟨by have := HK1.out; have := HK2.out; first | omega | exact Nat.le_refl _⟩, ⟨by (with_reducible repeat (first | refine blk_drewN ?_ _ | refine blk_drew ?_ | refine blk_alloc ?_ _)); exact BK104.out⟩, ⟨by repeat (first | (with_reducible first | exact HB.out | apply below_alloc | apply pw_below_drewN | apply below_drew1 | refine below_set ?_ GE104.out) | exact HB.out)⟩⟩
                          · replace c28 := Bool.eq_false_iff.mpr c28
                            subst c28
                            have H1 : (spec_SectionRight.j2 k2 false l0_0 a0_1 l0_2 false a0_4 l0_5) = some r := by rw [if_neg (show ¬ (false = true) by decide)] at H; exact H
                            clear H
                            have H := H1
                            clear H1
                            have H' := Aside0.mk H
                            clear H
                            have hcz30_0 : wr.cell? ⟨gb104, 0, none⟩ = some (.slice A0_0 l0_0.length c0_0) := (blk_cell BK104.out 0).trans rfl
                            have hcz30_1 : wr.cell? ⟨gb104, 1, none⟩ = some (.string a0_1) := (blk_cell BK104.out 1).trans rfl
                            have hcz30_2 : wr.cell? ⟨gb104, 2, none⟩ = some (.slice A0_2 l0_2.length c0_2) := (blk_cell BK104.out 2).trans rfl
                            have hcz30_3 : wr.cell? ⟨gb104, 3, none⟩ = some (.bool false) := (blk_cell BK104.out 3).trans rfl
                            have hcz30_4 : wr.cell? ⟨gb104, 4, none⟩ = some (.bool a0_4) := (blk_cell BK104.out 4).trans rfl
                            have hcz30_5 : wr.cell? ⟨gb104, 5, none⟩ = some (.slice A0_5 l0_5.length c0_5) := (blk_cell BK104.out 5).trans rfl
                            have hfz30_0 := blk_frozen BK104.out 0
                            have hfz30_1 := blk_frozen BK104.out 1
                            have hfz30_2 := blk_frozen BK104.out 2
                            have hfz30_3 := blk_frozen BK104.out 3
                            have hfz30_4 := blk_frozen BK104.out 4
                            have hfz30_5 := blk_frozen BK104.out 5
                            go_wp2
                            go_meet
                            case rel => exact ⟨_, (false), (by first | rfl | (simp; done) | (simp [*]; done)), H', ⟨by have := HK1.out; have := HK2.out; first | omega | exact Nat.le_refl _⟩, ⟨by (with_reducible repeat (first | refine blk_drewN ?_ _ | refine blk_drew ?_ | refine blk_alloc ?_ _)); exact BK104.out⟩, ⟨by repeat (first | (with_reducible first | exact HB.out | apply below_alloc | apply pw_below_drewN | apply below_drew1 | refine below_set ?_ GE104.out) | exact HB.out)⟩⟩
                        · rw [if_neg c27] at H
                          have c27b0 : (a0_1.toList == ([72, 69, 65, 68, 69, 82] : List UInt8)) = false := beq_eq_false_iff_ne.mpr c27
                          have c27b1 : (a0_1.toList != ([72, 69, 65, 68, 69, 82] : List UInt8)) = true := bne_iff_ne.mpr c27
                          have H' := Aside0.mk H
                          clear H
                          have hcz31_0 : wr.cell? ⟨gb104, 0, none⟩ = some (.slice A0_0 l0_0.length c0_0) := (blk_cell BK104.out 0).trans rfl
                          have hcz31_1 : wr.cell? ⟨gb104, 1, none⟩ = some (.string a0_1) := (blk_cell BK104.out 1).trans rfl
                          have hcz31_2 : wr.cell? ⟨gb104, 2, none⟩ = some (.slice A0_2 l0_2.length c0_2) := (blk_cell BK104.out 2).trans rfl
                          have hcz31_3 : wr.cell? ⟨gb104, 3, none⟩ = some (.bool a0_3) := (blk_cell BK104.out 3).trans rfl
                          have hcz31_4 : wr.cell? ⟨gb104, 4, none⟩ = some (.bool a0_4) := (blk_cell BK104.out 4).trans rfl
                          have hcz31_5 : wr.cell? ⟨gb104, 5, none⟩ = some (.slice A0_5 l0_5.length c0_5) := (blk_cell BK104.out 5).trans rfl
                          have hfz31_0 := blk_frozen BK104.out 0
                          have hfz31_1 := blk_frozen BK104.out 1
                          have hfz31_2 := blk_frozen BK104.out 2
                          have hfz31_3 := blk_frozen BK104.out 3
                          have hfz31_4 := blk_frozen BK104.out 4
                          have hfz31_5 := blk_frozen BK104.out 5
                          go_wp2
                          go_meet
                          case rel => exact ⟨_, (true), (by first | rfl | (simp; done) | (simp [*]; done)), H', ⟨by have := HK1.out; have := HK2.out; first | omega | exact Nat.le_refl _⟩, ⟨by (with_reducible repeat (first | refine blk_drewN ?_ _ | refine blk_drew ?_ | refine blk_alloc ?_ _)); exact BK104.out⟩, ⟨by repeat (first | (with_reducible first | exact HB.out | apply below_alloc | apply pw_below_drewN | apply below_drew1 | refine below_set ?_ GE104.out) | exact HB.out)⟩⟩
                      · rw [if_neg c26] at H
                        have c26b0 : decide (0 < (l0_2.length : Int)) = false := decide_eq_false c26
                        have c26b1 : decide (0 < l0_2.length) = false := decide_eq_false (by omega)
                        clear c26
                        by_cases c32 : a0_3 = true
                        · subst c32
                          have H1 : (spec_SectionRight.j2 k2 ((l0_2.length : Int) == 0) l0_0 a0_1 l0_2 true a0_4 l0_5) = some r := by rw [if_pos rfl] at H; exact H
                          clear H
                          have H := H1
                          clear H1
                          have H' := Aside0.mk H
                          clear H
                          have hcz33_0 : wr.cell? ⟨gb104, 0, none⟩ = some (.slice A0_0 l0_0.length c0_0) := (blk_cell BK104.out 0).trans rfl
                          have hcz33_1 : wr.cell? ⟨gb104, 1, none⟩ = some (.string a0_1) := (blk_cell BK104.out 1).trans rfl
                          have hcz33_2 : wr.cell? ⟨gb104, 2, none⟩ = some (.slice A0_2 l0_2.length c0_2) := (blk_cell BK104.out 2).trans rfl
                          have hcz33_3 : wr.cell? ⟨gb104, 3, none⟩ = some (.bool true) := (blk_cell BK104.out 3).trans rfl
                          have hcz33_4 : wr.cell? ⟨gb104, 4, none⟩ = some (.bool a0_4) := (blk_cell BK104.out 4).trans rfl
                          have hcz33_5 : wr.cell? ⟨gb104, 5, none⟩ = some (.slice A0_5 l0_5.length c0_5) := (blk_cell BK104.out 5).trans rfl
                          have hfz33_0 := blk_frozen BK104.out 0
                          have hfz33_1 := blk_frozen BK104.out 1
                          have hfz33_2 := blk_frozen BK104.out 2
                          have hfz33_3 := blk_frozen BK104.out 3
                          have hfz33_4 := blk_frozen BK104.out 4
                          have hfz33_5 := blk_frozen BK104.out 5
                          go_wp2
                          go_meet
                          case rel => exact ⟨_, (((l0_2.length : Int) == 0)), (by first | rfl | (simp; done) | (simp [*]; done)), H', ⟨by have := HK1.out; have := HK2.out; first | omega | exact Nat.le_refl _⟩, ⟨by (with_reducible repeat (first | refine blk_drewN ?_ _ | refine blk_drew ?_ | refine blk_alloc ?_ _)); exact BK104.out⟩, ⟨by repeat (first | (with_reducible first | exact HB.out | apply below_alloc | apply pw_below_drewN | apply below_drew1 | refine below_set ?_ GE104.out) | exact HB.out)⟩⟩
                        · replace c32 := Bool.eq_false_iff.mpr c32
                          subst c32
                          have H1 : (spec_SectionRight.j2 k2 false l0_0 a0_1 l0_2 false a0_4 l0_5) = some r := by rw [if_neg (show ¬ (false = true) by decide)] at H; exact H
                          clear H
                          have H := H1
                          clear H1
                          have H' := Aside0.mk H
                          clear H
                          have hcz34_0 : wr.cell? ⟨gb104, 0, none⟩ = some (.slice A0_0 l0_0.length c0_0) := (blk_cell BK104.out 0).trans rfl
                          have hcz34_1 : wr.cell? ⟨gb104, 1, none⟩ = some (.string a0_1) := (blk_cell BK104.out 1).trans rfl
                          have hcz34_2 : wr.cell? ⟨gb104, 2, none⟩ = some (.slice A0_2 l0_2.length c0_2) := (blk_cell BK104.out 2).trans rfl
                          have hcz34_3 : wr.cell? ⟨gb104, 3, none⟩ = some (.bool false) := (blk_cell BK104.out 3).trans rfl
                          have hcz34_4 : wr.cell? ⟨gb104, 4, none⟩ = some (.bool a0_4) := (blk_cell BK104.out 4).trans rfl
                          have hcz34_5 : wr.cell? ⟨gb104, 5, none⟩ = some (.slice A0_5 l0_5.length c0_5) := (blk_cell BK104.out 5).trans rfl
                          have hfz34_0 := blk_frozen BK104.out 0
                          have hfz34_1 := blk_frozen BK104.out 1
                          have hfz34_2 := blk_frozen BK104.out 2
                          have hfz34_3 := blk_frozen BK104.out 3
                          have hfz34_4 := blk_frozen BK104.out 4
                          have hfz34_5 := blk_frozen BK104.out 5
                          go_wp2
                          go_meet
                          case rel => exact ⟨_, (false), (by first | rfl | (simp; done) | (simp [*]; done)), H', ⟨by have := HK1.out; have := HK2.out; first | omega | exact Nat.le_refl _⟩, ⟨by (with_reducible repeat (first | refine blk_drewN ?_ _ | refine blk_drew ?_ | refine blk_alloc ?_ _)); exact BK104.out⟩, ⟨by repeat (first | (with_reducible first | exact HB.out | apply below_alloc | apply pw_below_drewN | apply below_drew1 | refine below_set ?_ GE104.out) | exact HB.out)⟩⟩
                · rw [if_neg c21] at H
                  have c21b0 : (a0_1.toList == ([] : List UInt8)) = false := beq_eq_false_iff_ne.mpr c21
                  have c21b1 : (a0_1.toList != ([] : List UInt8)) = true := bne_iff_ne.mpr c21
                  (first | rw [c21b0] | (simp only [i64_w, i32_w]; rw [c21b0]) | skip)
                  by_cases c35 : a0_1.toList = ([72, 69, 65, 68, 69, 82] : List UInt8)
                  · rw [if_pos c35] at H
                    have c35b0 : (a0_1.toList == ([72, 69, 65, 68, 69, 82] : List UInt8)) = true := beq_iff_eq.mpr c35
                    have c35b1 : (a0_1.toList != ([72, 69, 65, 68, 69, 82] : List UInt8)) = false := bne_eq_false_iff_eq.mpr c35
                    clear c35
                    by_cases c36 : (l0_0.length : Int) > 6
                    · rw [if_pos c36] at H
                      have c36b0 : decide (6 < (l0_0.length : Int)) = true := decide_eq_true c36
                      have c36b1 : decide (6 < l0_0.length) = true := decide_eq_true (by omega)
                      clear c36
                      have H' := Aside0.mk H
                      clear H
                      have hcz37_0 : wr.cell? ⟨gb104, 0, none⟩ = some (.slice A0_0 l0_0.length c0_0) := (blk_cell BK104.out 0).trans rfl
                      have hcz37_1 : wr.cell? ⟨gb104, 1, none⟩ = some (.string a0_1) := (blk_cell BK104.out 1).trans rfl
                      have hcz37_2 : wr.cell? ⟨gb104, 2, none⟩ = some (.slice A0_2 l0_2.length c0_2) := (blk_cell BK104.out 2).trans rfl
                      have hcz37_3 : wr.cell? ⟨gb104, 3, none⟩ = some (.bool a0_3) := (blk_cell BK104.out 3).trans rfl
                      have hcz37_4 : wr.cell? ⟨gb104, 4, none⟩ = some (.bool a0_4) := (blk_cell BK104.out 4).trans rfl
                      have hcz37_5 : wr.cell? ⟨gb104, 5, none⟩ = some (.slice A0_5 l0_5.length c0_5) := (blk_cell BK104.out 5).trans rfl
                      have hfz37_0 := blk_frozen BK104.out 0
                      have hfz37_1 := blk_frozen BK104.out 1
                      have hfz37_2 := blk_frozen BK104.out 2
                      have hfz37_3 := blk_frozen BK104.out 3
                      have hfz37_4 := blk_frozen BK104.out 4
                      have hfz37_5 := blk_frozen BK104.out 5
                      go_wp2
                      go_meet
                      case rel => exact ⟨_, (true), (by first | rfl | (simp; done) | (simp [*]; done)), H', ⟨by have := HK1.out; have := HK2.out; first | omega | exact Nat.le_refl _⟩, ⟨by (with_reducible repeat (first | refine blk_drewN ?_ _ | refine blk_drew ?_ | refine blk_alloc ?_ _)); exact BK104.out⟩, ⟨by repeat (first | (with_reducible first | exact HB.out | apply below_alloc | apply pw_below_drewN | apply below_drew1 | refine below_set ?_ GE104.out) | exact HB.out)⟩⟩
                    · rw [if_neg c36] at H
                      have c36b0 : decide (6 < (l0_0.length : Int)) = false := decide_eq_false c36
                      have c36b1 : decide (6 < l0_0.length) = false := decide_eq_false (by omega)
                      clear c36
                      by_cases c38 : (l0_2.length : Int) > 8
                      · rw [if_pos c38] at H
                        have c38b0 : decide (8 < (l0_2.length : Int)) = true := decide_eq_true c38
                        have c38b1 : decide (8 < l0_2.length) = true := decide_eq_true (by omega)
                        clear c38
                        have H' := Aside0.mk H
                        clear H
                        have hcz39_0 : wr.cell? ⟨gb104, 0, none⟩ = some (.slice A0_0 l0_0.length c0_0) := (blk_cell BK104.out 0).trans rfl
                        have hcz39_1 : wr.cell? ⟨gb104, 1, none⟩ = some (.string a0_1) := (blk_cell BK104.out 1).trans rfl
                        have hcz39_2 : wr.cell? ⟨gb104, 2, none⟩ = some (.slice A0_2 l0_2.length c0_2) := (blk_cell BK104.out 2).trans rfl
                        have hcz39_3 : wr.cell? ⟨gb104, 3, none⟩ = some (.bool a0_3) := (blk_cell BK104.out 3).trans rfl
                        have hcz39_4 : wr.cell? ⟨gb104, 4, none⟩ = some (.bool a0_4) := (blk_cell BK104.out 4).trans rfl
                        have hcz39_5 : wr.cell? ⟨gb104, 5, none⟩ = some (.slice A0_5 l0_5.length c0_5) := (blk_cell BK104.out 5).trans rfl
                        have hfz39_0 := blk_frozen BK104.out 0
                        have hfz39_1 := blk_frozen BK104.out 1
                        have hfz39_2 := blk_frozen BK104.out 2
                        have hfz39_3 := blk_frozen BK104.out 3
                        have hfz39_4 := blk_frozen BK104.out 4
                        have hfz39_5 := blk_frozen BK104.out 5
                        go_wp2
                        go_meet
                        case rel => exact ⟨_, (true), (by first | rfl | (simp; done) | (simp [*]; done)), H', ⟨by have := HK1.out; have := HK2.out; first | omega | exact Nat.le_refl _⟩, ⟨by (with_reducible repeat (first | refine blk_drewN ?_ _ | refine blk_drew ?_ | refine blk_alloc ?_ _)); exact BK104.out⟩, ⟨by repeat (first | (with_reducible first | exact HB.out | apply below_alloc | apply pw_below_drewN | apply below_drew1 | refine below_set ?_ GE104.out) | exact HB.out)⟩⟩
                      · rw [if_neg c38] at H
                        have c38b0 : decide (8 < (l0_2.length : Int)) = false := decide_eq_false c38
                        have c38b1 : decide (8 < l0_2.length) = false := decide_eq_false (by omega)
                        clear c38
                        by_cases c40 : (l0_2.length : Int) > 0
                        · rw [if_pos c40] at H
                          have c40b0 : decide (0 < (l0_2.length : Int)) = true := decide_eq_true c40
                          have c40b1 : decide (0 < l0_2.length) = true := decide_eq_true (by omega)
                          clear c40
                          by_cases c41 : a0_3 = true
                          · subst c41
                            have H1 : (spec_SectionRight.j2 k2 ((l0_2.length : Int) == 0) l0_0 a0_1 l0_2 true a0_4 l0_5) = some r := by rw [if_pos rfl] at H; exact H
                            clear H
                            have H := H1
                            clear H1
                            have H' := Aside0.mk H
                            clear H
                            have hcz42_0 : wr.cell? ⟨gb104, 0, none⟩ = some (.slice A0_0 l0_0.length c0_0) := (blk_cell BK104.out 0).trans rfl
                            have hcz42_1 : wr.cell? ⟨gb104, 1, none⟩ = some (.string a0_1) := (blk_cell BK104.out 1).trans rfl
                            have hcz42_2 : wr.cell? ⟨gb104, 2, none⟩ = some (.slice A0_2 l0_2.length c0_2) := (blk_cell BK104.out 2).trans rfl
                            have hcz42_3 : wr.cell? ⟨gb104, 3, none⟩ = some (.bool true) := (blk_cell BK104.out 3).trans rfl
                            have hcz42_4 : wr.cell? ⟨gb104, 4, none⟩ = some (.bool a0_4) := (blk_cell BK104.out 4).trans rfl
                            have hcz42_5 : wr.cell? ⟨gb104, 5, none⟩ = some (.slice A0_5 l0_5.length c0_5) := (blk_cell BK104.out 5).trans rfl
                            have hfz42_0 := blk_frozen BK104.out 0
                            have hfz42_1 := blk_frozen BK104.out 1
                            have hfz42_2 := blk_frozen BK104.out 2
                            have hfz42_3 := blk_frozen BK104.out 3
                            have hfz42_4 := blk_frozen BK104.out 4
                            have hfz42_5 := blk_frozen BK104.out 5
                            go_wp2
                            go_meet
                            case rel => exact ⟨_, (((l0_2.length : Int) == 0)), (by first | rfl | (simp; done) | (simp [*]; done)), H', ⟨by have := HK1.out; have := HK2.out; first | omega | exact Nat.le_refl _⟩, ⟨by (with_reducible repeat (first | refine blk_drewN ?_ _ | refine blk_drew ?_ | refine blk_alloc ?_ _)); exact BK104.out⟩, ⟨by repeat (first | (with_reducible first | exact HB.out | apply below_alloc | apply pw_below_drewN | apply below_drew1 | refine below_set ?_ GE104.out) | exact HB.out)⟩⟩
                          · replace c41 := Bool.eq_false_iff.mpr c41
                            subst c41
                            have H1 : (spec_SectionRight.j2 k2 false l0_0 a0_1 l0_2 false a0_4 l0_5) = some r := by rw [if_neg (show ¬ (false = true) by decide)] at H; exact H
                            clear H
                            have H := H1
                            clear H1
                            have H' := Aside0.mk H
                            clear H
                            have hcz43_0 : wr.cell? ⟨gb104, 0, none⟩ = some (.slice A0_0 l0_0.length c0_0) := (blk_cell BK104.out 0).trans rfl
                            have hcz43_1 : wr.cell? ⟨gb104, 1, none⟩ = some (.string a0_1) := (blk_cell BK104.out 1).trans rfl
                            have hcz43_2 : wr.cell? ⟨gb104, 2, none⟩ = some (.slice A0_2 l0_2.length c0_2) := (blk_cell BK104.out 2).trans rfl
                            have hcz43_3 : wr.cell? ⟨gb104, 3, none⟩ = some (.bool false) := (blk_cell BK104.out 3).trans rfl
                            have hcz43_4 : wr.cell? ⟨gb104, 4, none⟩ = some (.bool a0_4) := (blk_cell BK104.out 4).trans rfl
                            have hcz43_5 : wr.cell? ⟨gb104, 5, none⟩ = some (.slice A0_5 l0_5.length c0_5) := (blk_cell BK104.out 5).trans rfl
                            have hfz43_0 := blk_frozen BK104.out 0
                            have hfz43_1 := blk_frozen BK104.out 1
                            have hfz43_2 := blk_frozen BK104.out 2
                            have hfz43_3 := blk_frozen BK104.out 3
                            have hfz43_4 := blk_frozen BK104.out 4
                            have hfz43_5 := blk_frozen BK104.out 5
                            go_wp2
                            go_meet
                            case rel => exact ⟨_, (false), (by first | rfl | (simp; done) | (simp [*]; done)), H', ⟨by have := HK1.out; have := HK2.out; first | omega | exact Nat.le_refl _⟩, ⟨by (with_reducible repeat (first | refine blk_drewN ?_ _ | refine blk_drew ?_ | refine blk_alloc ?_ _)); exact BK104.out⟩, ⟨by repeat (first | (with_reducible first | exact HB.out | apply below_alloc | apply pw_below_drewN | apply below_drew1 | refine below_set ?_ GE104.out) | exact HB.out)⟩⟩
                        · rw [if_neg c40] at H
                          have c40b0 : decide (0 < (l0_2.length : Int)) = false := decide_eq_false c40
                          have c40b1 : decide (0 < l0_2.length) = false := decide_eq_false (by omega)
                          clear c40
                          by_cases c44 : a0_3 = true
                          · subst c44
                            have H1 : (spec_SectionRight.j2 k2 ((l0_2.length : Int) == 0) l0_0 a0_1 l0_2 true a0_4 l0_5) = some r := by rw [if_pos rfl] at H; exact H
                            clear H
                            have H := H1
                            clear H1
                            have H' := Aside0.mk H
                            clear H
                            have hcz45_0 : wr.cell? ⟨gb104, 0, none⟩ = some (.slice A0_0 l0_0.length c0_0) := (blk_cell BK104.out 0).trans rfl
                            have hcz45_1 : wr.cell? ⟨gb104, 1, none⟩ = some (.string a0_1) := (blk_cell BK104.out 1).trans rfl
                            have hcz45_2 : wr.cell? ⟨gb104, 2, none⟩ = some (.slice A0_2 l0_2.length c0_2) := (blk_cell BK104.out 2).trans rfl
                            have hcz45_3 : wr.cell? ⟨gb104, 3, none⟩ = some (.bool true) := (blk_cell BK104.out 3).trans rfl
                            have hcz45_4 : wr.cell? ⟨gb104, 4, none⟩ = some (.bool a0_4) := (blk_cell BK104.out 4).trans rfl
                            have hcz45_5 : wr.cell? ⟨gb104, 5, none⟩ = some (.slice A0_5 l0_5.length c0_5) := (blk_cell BK104.out 5).trans rfl
                            have hfz45_0 := blk_frozen BK104.out 0
                            have hfz45_1 := blk_frozen BK104.out 1
                            have hfz45_2 := blk_frozen BK104.out 2
                            have hfz45_3 := blk_frozen BK104.out 3
                            have hfz45_4 := blk_frozen BK104.out 4
                            have hfz45_5 := blk_frozen BK104.out 5
                            go_wp2
                            go_meet
                            case rel => exact ⟨_, (((l0_2.length : Int) == 0)), (by first | rfl | (simp; done) | (simp [*]; done)), H', ⟨by have := HK1.out; have := HK2.out; first | omega | exact Nat.le_refl _⟩, ⟨by (with_reducible repeat (first | refine blk_drewN ?_ _ | refine blk_drew ?_ | refine blk_alloc ?_ _)); exact BK104.out⟩, ⟨by repeat (first | (with_reducible first | exact HB.out | apply below_alloc | apply pw_below_drewN | apply below_drew1 | refine below_set ?_ GE104.out) | exact HB.out)⟩⟩
                          · replace c44 := Bool.eq_false_iff.mpr c44
                            subst c44
                            have H1 : (spec_SectionRight.j2 k2 false l0_0 a0_1 l0_2 false a0_4 l0_5) = some r := by rw [if_neg (show ¬ (false = true) by decide)] at H; exact H
                            clear H
                            have H := H1
                            clear H1
                            have H' := Aside0.mk H
                            clear H
                            have hcz46_0 : wr.cell? ⟨gb104, 0, none⟩ = some (.slice A0_0 l0_0.length c0_0) := (blk_cell BK104.out 0).trans rfl
                            have hcz46_1 : wr.cell? ⟨gb104, 1, none⟩ = some (.string a0_1) := (blk_cell BK104.out 1).trans rfl
                            have hcz46_2 : wr.cell? ⟨gb104, 2, none⟩ = some (.slice A0_2 l0_2.length c0_2) := (blk_cell BK104.out 2).trans rfl
                            have hcz46_3 : wr.cell? ⟨gb104, 3, none⟩ = some (.bool false) := (blk_cell BK104.out 3).trans rfl
                            have hcz46_4 : wr.cell? ⟨gb104, 4, none⟩ = some (.bool a0_4) := (blk_cell BK104.out 4).trans rfl
                            have hcz46_5 : wr.cell? ⟨gb104, 5, none⟩ = some (.slice A0_5 l0_5.length c0_5) := (blk_cell BK104.out 5).trans rfl
                            have hfz46_0 := blk_frozen BK104.out 0
                            have hfz46_1 := blk_frozen BK104.out 1
                            have hfz46_2 := blk_frozen BK104.out 2
                            have hfz46_3 := blk_frozen BK104.out 3
                            have hfz46_4 := blk_frozen BK104.out 4
                            have hfz46_5 := blk_frozen BK104.out 5
                            go_wp2
                            go_meet
                            case rel => exact ⟨_, (false), (by first | rfl | (simp; done) | (simp [*]; done)), H', ⟨by have := HK1.out; have := HK2.out; first | omega | exact Nat.le_refl _⟩, ⟨by (with_reducible repeat (first | refine blk_drewN ?_ _ | refine blk_drew ?_ | refine blk_alloc ?_ _)); exact BK104.out⟩, ⟨by repeat (first | (with_reducible first | exact HB.out | apply below_alloc | apply pw_below_drewN | apply below_drew1 | refine below_set ?_ GE104.out) | exact HB.out)⟩⟩
                  · rw [if_neg c35] at H
                    have c35b0 : (a0_1.toList == ([72, 69, 65, 68, 69, 82] : List UInt8)) = false := beq_eq_false_iff_ne.mpr c35
                    have c35b1 : (a0_1.toList != ([72, 69, 65, 68, 69, 82] : List UInt8)) = true := bne_iff_ne.mpr c35
                    by_cases c47 : a0_1.toList = ([84, 69, 88, 84] : List UInt8)
                    · rw [if_pos c47] at H
                      have c47b0 : (a0_1.toList == ([84, 69, 88, 84] : List UInt8)) = true := beq_iff_eq.mpr c47
                      have c47b1 : (a0_1.toList != ([84, 69, 88, 84] : List UInt8)) = false := bne_eq_false_iff_eq.mpr c47
                      clear c47
                      by_cases c48 : (l0_0.length : Int) > 6
                      · rw [if_pos c48] at H
                        have c48b0 : decide (6 < (l0_0.length : Int)) = true := decide_eq_true c48
                        have c48b1 : decide (6 < l0_0.length) = true := decide_eq_true (by omega)
                        clear c48
                        have H' := Aside0.mk H
                        clear H
                        have hcz49_0 : wr.cell? ⟨gb104, 0, none⟩ = some (.slice A0_0 l0_0.length c0_0) := (blk_cell BK104.out 0).trans rfl
                        have hcz49_1 : wr.cell? ⟨gb104, 1, none⟩ = some (.string a0_1) := (blk_cell BK104.out 1).trans rfl
                        have hcz49_2 : wr.cell? ⟨gb104, 2, none⟩ = some (.slice A0_2 l0_2.length c0_2) := (blk_cell BK104.out 2).trans rfl
                        have hcz49_3 : wr.cell? ⟨gb104, 3, none⟩ = some (.bool a0_3) := (blk_cell BK104.out 3).trans rfl
                        have hcz49_4 : wr.cell? ⟨gb104, 4, none⟩ = some (.bool a0_4) := (blk_cell BK104.out 4).trans rfl
                        have hcz49_5 : wr.cell? ⟨gb104, 5, none⟩ = some (.slice A0_5 l0_5.length c0_5) := (blk_cell BK104.out 5).trans rfl
                        have hfz49_0 := blk_frozen BK104.out 0
                        have hfz49_1 := blk_frozen BK104.out 1
                        have hfz49_2 := blk_frozen BK104.out 2
                        have hfz49_3 := blk_frozen BK104.out 3
                        have hfz49_4 := blk_frozen BK104.out 4
                        have hfz49_5 := blk_frozen BK104.out 5
                        go_wp2
                        go_meet
                        case rel => exact ⟨_, (true), (by first | rfl | (simp; done) | (simp [*]; done)), H', ⟨by have := HK1.out; have := HK2.out; first | omega | exact Nat.le_refl _⟩, ⟨by (with_reducible repeat (first | refine blk_drewN ?_ _ | refine blk_drew ?_ | refine blk_alloc ?_ _)); exact BK104.out⟩, ⟨by repeat (first | (with_reducible first | exact HB.out | apply below_alloc | apply pw_below_drewN | apply below_drew1 | refine below_set ?_ GE104.out) | exact HB.out)⟩⟩
                      · rw [if_neg c48] at H
                        have c48b0 : decide (6 < (l0_0.length : Int)) = false := decide_eq_false c48
                        have c48b1 : decide (6 < l0_0.length) = false := decide_eq_false (by omega)
                        clear c48
                        by_cases c50 : (l0_2.length : Int) > 8
                        · rw [if_pos c50] at H
                          have c50b0 : decide (8 < (l0_2.length : Int)) = true := decide_eq_true c50
                          have c50b1 : decide (8 < l0_2.length) = true := decide_eq_true (by omega)
                          clear c50
                          have H' := Aside0.mk H
                          clear H
                          have hcz51_0 : wr.cell? ⟨gb104, 0, none⟩ = some (.slice A0_0 l0_0.length c0_0) := (blk_cell BK104.out 0).trans rfl
                          have hcz51_1 : wr.cell? ⟨gb104, 1, none⟩ = some (.string a0_1) := (blk_cell BK104.out 1).trans rfl
                          have hcz51_2 : wr.cell? ⟨gb104, 2, none⟩ = some (.slice A0_2 l0_2.length c0_2) := (blk_cell BK104.out 2).trans rfl
                          have hcz51_3 : wr.cell? ⟨gb104, 3, none⟩ = some (.bool a0_3) := (blk_cell BK104.out 3).trans rfl
                          have hcz51_4 : wr.cell? ⟨gb104, 4, none⟩ = some (.bool a0_4) := (blk_cell BK104.out 4).trans rfl
                          have hcz51_5 : wr.cell? ⟨gb104, 5, none⟩ = some (.slice A0_5 l0_5.length c0_5) := (blk_cell BK104.out 5).trans rfl
                          have hfz51_0 := blk_frozen BK104.out 0
                          have hfz51_1 := blk_frozen BK104.out 1
                          have hfz51_2 := blk_frozen BK104.out 2
                          have hfz51_3 := blk_frozen BK104.out 3
                          have hfz51_4 := blk_frozen BK104.out 4
                          have hfz51_5 := blk_frozen BK104.out 5
                          go_wp2
                          go_meet
                          case rel => exact ⟨_, (true), (by first | rfl | (simp; done) | (simp [*]; done)), H', ⟨by have := HK1.out; have := HK2.out; first | omega | exact Nat.le_refl _⟩, ⟨by (with_reducible repeat (first | refine blk_drewN ?_ _ | refine blk_drew ?_ | refine blk_alloc ?_ _)); exact BK104.out⟩, ⟨by repeat (first | (with_reducible first | exact HB.out | apply below_alloc | apply pw_below_drewN | apply below_drew1 | refine below_set ?_ GE104.out) | exact HB.out)⟩⟩
                        · rw [if_neg c50] at H
                          have c50b0 : decide (8 < (l0_2.length : Int)) = false := decide_eq_false c50
                          have c50b1 : decide (8 < l0_2.length) = false := decide_eq_false (by omega)
                          clear c50
                          by_cases c52 : (l0_2.length : Int) > 0
                          · rw [if_pos c52] at H
                            have c52b0 : decide (0 < (l0_2.length : Int)) = true := decide_eq_true c52
                            have c52b1 : decide (0 < l0_2.length) = true := decide_eq_true (by omega)
                            clear c52
                            have H' := Aside0.mk H
                            clear H
                            have hcz53_0 : wr.cell? ⟨gb104, 0, none⟩ = some (.slice A0_0 l0_0.length c0_0) := (blk_cell BK104.out 0).trans rfl
                            have hcz53_1 : wr.cell? ⟨gb104, 1, none⟩ = some (.string a0_1) := (blk_cell BK104.out 1).trans rfl
                            have hcz53_2 : wr.cell? ⟨gb104, 2, none⟩ = some (.slice A0_2 l0_2.length c0_2) := (blk_cell BK104.out 2).trans rfl
                            have hcz53_3 : wr.cell? ⟨gb104, 3, none⟩ = some (.bool a0_3) := (blk_cell BK104.out 3).trans rfl
                            have hcz53_4 : wr.cell? ⟨gb104, 4, none⟩ = some (.bool a0_4) := (blk_cell BK104.out 4).trans rfl
                            have hcz53_5 : wr.cell? ⟨gb104, 5, none⟩ = some (.slice A0_5 l0_5.length c0_5) := (blk_cell BK104.out 5).trans rfl
                            have hfz53_0 := blk_frozen BK104.out 0
                            have hfz53_1 := blk_frozen BK104.out 1
                            have hfz53_2 := blk_frozen BK104.out 2
                            have hfz53_3 := blk_frozen BK104.out 3
                            have hfz53_4 := blk_frozen BK104.out 4
                            have hfz53_5 := blk_frozen BK104.out 5
                            go_wp2
                            go_meet
                            case rel => exact ⟨_, (true), (by first | rfl | (simp; done) | (simp [*]; done)), H', ⟨by have := HK1.out; have := HK2.out; first | omega | exact Nat.le_refl _⟩, ⟨by (with_reducible repeat (first | refine blk_drewN ?_ _ | refine blk_drew ?_ | refine blk_alloc ?_ _)); exact BK104.out⟩, ⟨by repeat (first | (with_reducible first | exact HB.out | apply below_alloc | apply pw_below_drewN | apply below_drew1 | refine below_set ?_ GE104.out) | exact HB.out)⟩⟩
                          · rw [if_neg c52] at H
                            have c52b0 : decide (0 < (l0_2.length : Int)) = false := decide_eq_false c52
                            have c52b1 : decide (0 < l0_2.length) = false := decide_eq_false (by omega)
                            clear c52
                            by_cases c54 : a0_3 = true
                            · subst c54
                              have H1 : (spec_SectionRight.j2 k2 ((l0_2.length : Int) == 0) l0_0 a0_1 l0_2 true a0_4 l0_5) = some r := by rw [if_pos rfl] at H; exact H
                              clear H
                              have H := H1
                              clear H1
                              have H' := Aside0.mk H
                              clear H
                              have hcz55_0 : wr.cell? ⟨gb104, 0, none⟩ = some (.slice A0_0 l0_0.length c0_0) := (blk_cell BK104.out 0).trans rfl
                              have hcz55_1 : wr.cell? ⟨gb104, 1, none⟩ = some (.string a0_1) := (blk_cell BK104.out 1).trans rfl
                              have hcz55_2 : wr.cell? ⟨gb104, 2, none⟩ = some (.slice A0_2 l0_2.length c0_2) := (blk_cell BK104.out 2).trans rfl
                              have hcz55_3 : wr.cell? ⟨gb104, 3, none⟩ = some (.bool true) := (blk_cell BK104.out 3).trans rfl
                              have hcz55_4 : wr.cell? ⟨gb104, 4, none⟩ = some (.bool a0_4) := (blk_cell BK104.out 4).trans rfl
                              have hcz55_5 : wr.cell? ⟨gb104, 5, none⟩ = some (.slice A0_5 l0_5.length c0_5) := (blk_cell BK104.out 5).trans rfl
                              have hfz55_0 := blk_frozen BK104.out 0
                              have hfz55_1 := blk_frozen BK104.out 1
                              have hfz55_2 := blk_frozen BK104.out 2
                              have hfz55_3 := blk_frozen BK104.out 3
                              have hfz55_4 := blk_frozen BK104.out 4
                              have hfz55_5 := blk_frozen BK104.out 5
                              go_wp2
                              go_meet
                              case rel => exact ⟨_, (((l0_2.length : Int) == 0)), (by first | rfl | (simp; done) | (simp [*]; done)), H', ⟨by have := HK1.out; have := HK2.out; first | omega | exact Nat.le_refl _⟩, ⟨by (with_reducible repeat (first | refine blk_drewN ?_ _ | refine blk_drew ?_ | refine blk_alloc ?_ _)); exact BK104.out⟩, ⟨by repeat (first | (with_reducible first | exact HB.out | apply below_alloc | apply pw_below_drewN | apply below_drew1 | refine below_set ?_ GE104.out) | exact HB.out)⟩⟩
                            · replace c54 := Bool.eq_false_iff.mpr c54
                              subst c54
                              have H1 : (spec_SectionRight.j2 k2 false l0_0 a0_1 l0_2 false a0_4 l0_5) = some r := by rw [if_neg (show ¬ (false = true) by decide)] at H; exact H
                              clear H
                              have H := H1
                              clear H1
                              have H' := Aside0.mk H
                              clear H
                              have hcz56_0 : wr.cell? ⟨gb104, 0, none⟩ = some (.slice A0_0 l0_0.length c0_0) := (blk_cell BK104.out 0).trans rfl
                              have hcz56_1 : wr.cell? ⟨gb104, 1, none⟩ = some (.string a0_1) := (blk_cell BK104.out 1).trans rfl
                              have hcz56_2 : wr.cell? ⟨gb104, 2, none⟩ = some (.slice A0_2 l0_2.length c0_2) := (blk_cell BK104.out 2).trans rfl
                              have hcz56_3 : wr.cell? ⟨gb104, 3, none⟩ = some (.bool false) := (blk_cell BK104.out 3).trans rfl
                              have hcz56_4 : wr.cell? ⟨gb104, 4, none⟩ = some (.bool a0_4) := (blk_cell BK104.out 4).trans rfl
                              have hcz56_5 : wr.cell? ⟨gb104, 5, none⟩ = some (.slice A0_5 l0_5.length c0_5) := (blk_cell BK104.out 5).trans rfl
                              have hfz56_0 := blk_frozen BK104.out 0
                              have hfz56_1 := blk_frozen BK104.out 1
                              have hfz56_2 := blk_frozen BK104.out 2
                              have hfz56_3 := blk_frozen BK104.out 3
                              have hfz56_4 := blk_frozen BK104.out 4
                              have hfz56_5 := blk_frozen BK104.out 5
                              go_wp2
                              go_meet
                              case rel => exact ⟨_, (false), (by first | rfl | (simp; done) | (simp [*]; done)), H', ⟨by have := HK1.out; have := HK2.out; first | omega | exact Nat.le_refl _⟩, ⟨by (with_reducible repeat (first | refine blk_drewN ?_ _ | refine blk_drew ?_ | refine blk_alloc ?_ _)); exact BK104.out⟩, ⟨by repeat (first | (with_reducible first | exact HB.out | apply below_alloc | apply pw_below_drewN | apply below_drew1 | refine below_set ?_ GE104.out) | exact HB.out)⟩⟩
                    · rw [if_neg c47] at H
                      have c47b0 : (a0_1.toList == ([84, 69, 88, 84] : List UInt8)) = false := beq_eq_false_iff_ne.mpr c47
                      have c47b1 : (a0_1.toList != ([84, 69, 88, 84] : List UInt8)) = true := bne_iff_ne.mpr c47
                      by_cases c57 : a0_1.toList = ([77, 73, 77, 69] : List UInt8)
                      · rw [if_pos c57] at H
                        have c57b0 : (a0_1.toList == ([77, 73, 77, 69] : List UInt8)) = true := beq_iff_eq.mpr c57
                        have c57b1 : (a0_1.toList != ([77, 73, 77, 69] : List UInt8)) = false := bne_eq_false_iff_eq.mpr c57
                        clear c57
                        by_cases c58 : (l0_0.length : Int) = 0
                        · rw [if_pos c58] at H
                          have c58b0 : ((l0_0.length : Int) == 0) = true := beq_iff_eq.mpr c58
                          have c58b1 : ((l0_0.length : Int) != 0) = false := bne_eq_false_iff_eq.mpr c58
                          clear c58
                          have H' := Aside0.mk H
                          clear H
                          have hcz59_0 : wr.cell? ⟨gb104, 0, none⟩ = some (.slice A0_0 l0_0.length c0_0) := (blk_cell BK104.out 0).trans rfl
                          have hcz59_1 : wr.cell? ⟨gb104, 1, none⟩ = some (.string a0_1) := (blk_cell BK104.out 1).trans rfl
                          have hcz59_2 : wr.cell? ⟨gb104, 2, none⟩ = some (.slice A0_2 l0_2.length c0_2) := (blk_cell BK104.out 2).trans rfl
                          have hcz59_3 : wr.cell? ⟨gb104, 3, none⟩ = some (.bool a0_3) := (blk_cell BK104.out 3).trans rfl
                          have hcz59_4 : wr.cell? ⟨gb104, 4, none⟩ = some (.bool a0_4) := (blk_cell BK104.out 4).trans rfl
                          have hcz59_5 : wr.cell? ⟨gb104, 5, none⟩ = some (.slice A0_5 l0_5.length c0_5) := (blk_cell BK104.out 5).trans rfl
                          have hfz59_0 := blk_frozen BK104.out 0
                          have hfz59_1 := blk_frozen BK104.out 1
                          have hfz59_2 := blk_frozen BK104.out 2
                          have hfz59_3 := blk_frozen BK104.out 3
                          have hfz59_4 := blk_frozen BK104.out 4
                          have hfz59_5 := blk_frozen BK104.out 5
                          go_wp2
                          go_meet
                          case rel => exact ⟨_, (true), (by first | rfl | (simp; done) | (simp [*]; done)), H', ⟨by have := HK1.out; have := HK2.out; first | omega | exact Nat.le_refl _⟩, ⟨by (with_reducible repeat (first | refine blk_drewN ?_ _ | refine blk_drew ?_ | refine blk_alloc ?_ _)); exact BK104.out⟩, ⟨by repeat (first | (with_reducible first | exact HB.out | apply below_alloc | apply pw_below_drewN | apply below_drew1 | refine below_set ?_ GE104.out) | exact HB.out)⟩⟩
                        · rw [if_neg c58] at H
                          have c58b0 : ((l0_0.length : Int) == 0) = false := beq_eq_false_iff_ne.mpr c58
                          have c58b1 : ((l0_0.length : Int) != 0) = true := bne_iff_ne.mpr c58
                          have c58b2 : ¬ (l0_0 = []) := fun h_ => c58 (by rw [h_]; rfl)
                          by_cases c60 : (l0_0.length : Int) > 6
                          · rw [if_pos c60] at H
                            have c60b0 : decide (6 < (l0_0.length : Int)) = true := decide_eq_true c60
                            have c60b1 : decide (6 < l0_0.length) = true := decide_eq_true (by omega)
                            clear c60
                            have H' := Aside0.mk H
                            clear H
                            have hcz61_0 : wr.cell? ⟨gb104, 0, none⟩ = some (.slice A0_0 l0_0.length c0_0) := (blk_cell BK104.out 0).trans rfl
                            have hcz61_1 : wr.cell? ⟨gb104, 1, none⟩ = some (.string a0_1) := (blk_cell BK104.out 1).trans rfl
                            have hcz61_2 : wr.cell? ⟨gb104, 2, none⟩ = some (.slice A0_2 l0_2.length c0_2) := (blk_cell BK104.out 2).trans rfl
                            have hcz61_3 : wr.cell? ⟨gb104, 3, none⟩ = some (.bool a0_3) := (blk_cell BK104.out 3).trans rfl
                            have hcz61_4 : wr.cell? ⟨gb104, 4, none⟩ = some (.bool a0_4) := (blk_cell BK104.out 4).trans rfl
                            have hcz61_5 : wr.cell? ⟨gb104, 5, none⟩ = some (.slice A0_5 l0_5.length c0_5) := (blk_cell BK104.out 5).trans rfl
                            have hfz61_0 := blk_frozen BK104.out 0
                            have hfz61_1 := blk_frozen BK104.out 1
                            have hfz61_2 := blk_frozen BK104.out 2
                            have hfz61_3 := blk_frozen BK104.out 3
                            have hfz61_4 := blk_frozen BK104.out 4
                            have hfz61_5 := blk_frozen BK104.out 5
                            go_wp2
                            go_meet
                            case rel => exact ⟨_, (true), (by first | rfl | (simp; done) | (simp [*]; done)), H', ⟨by have := HK1.out; have := HK2.out; first | omega | exact Nat.le_refl _⟩, ⟨by (with_reducible repeat (first | refine blk_drewN ?_ _ | refine blk_drew ?_ | refine blk_alloc ?_ _)); exact BK104.out⟩, ⟨by repeat (first | (with_reducible first | exact HB.out | apply below_alloc | apply pw_below_drewN | apply below_drew1 | refine below_set ?_ GE104.out) | exact HB.out)⟩⟩
                          · rw [if_neg c60] at H
                            have c60b0 : decide (6 < (l0_0.length : Int)) = false := decide_eq_false c60
                            have c60b1 : decide (6 < l0_0.length) = false := decide_eq_false (by omega)
                            clear c60
                            by_cases c62 : (l0_2.length : Int) > 8
                            · rw [if_pos c62] at H
                              have c62b0 : decide (8 < (l0_2.length : Int)) = true := decide_eq_true c62
                              have c62b1 : decide (8 < l0_2.length) = true := decide_eq_true (by omega)
                              clear c62
                              have H' := Aside0.mk H
                              clear H
                              have hcz63_0 : wr.cell? ⟨gb104, 0, none⟩ = some (.slice A0_0 l0_0.length c0_0) := (blk_cell BK104.out 0).trans rfl
                              have hcz63_1 : wr.cell? ⟨gb104, 1, none⟩ = some (.string a0_1) := (blk_cell BK104.out 1).trans rfl
                              have hcz63_2 : wr.cell? ⟨gb104, 2, none⟩ = some (.slice A0_2 l0_2.length c0_2) := (blk_cell BK104.out 2).trans rfl
                              have hcz63_3 : wr.cell? ⟨gb104, 3, none⟩ = some (.bool a0_3) := (blk_cell BK104.out 3).trans rfl
                              have hcz63_4 : wr.cell? ⟨gb104, 4, none⟩ = some (.bool a0_4) := (blk_cell BK104.out 4).trans rfl
                              have hcz63_5 : wr.cell? ⟨gb104, 5, none⟩ = some (.slice A0_5 l0_5.length c0_5) := (blk_cell BK104.out 5).trans rfl
                              have hfz63_0 := blk_frozen BK104.out 0
                              have hfz63_1 := blk_frozen BK104.out 1
                              have hfz63_2 := blk_frozen BK104.out 2
                              have hfz63_3 := blk_frozen BK104.out 3
                              have hfz63_4 := blk_frozen BK104.out 4
                              have hfz63_5 := blk_frozen BK104.out 5
                              go_wp2
                              go_meet
                              case rel => exact ⟨_, (true), (by first | rfl | (simp; done) | (simp [*]; done)), H', ⟨by have := HK1.out; have := HK2.out; first | omega | exact Nat.le_refl _⟩, ⟨by (with_reducible repeat (first | refine blk_drewN ?_ _ | refine blk_drew ?_ | refine blk_alloc ?_ _)); exact BK104.out⟩, ⟨by repeat (first | (with_reducible first | exact HB.out | apply below_alloc | apply pw_below_drewN | apply below_drew1 | refine below_set ?_ GE104.out) | exact HB.out)⟩⟩
                            · rw [if_neg c62] at H
                              have c62b0 : decide (8 < (l0_2.length : Int)) = false := decide_eq_false c62
                              have c62b1 : decide (8 < l0_2.length) = false := decide_eq_false (by omega)
                              clear c62
                              by_cases c64 : (l0_2.length : Int) > 0
                              · rw [if_pos c64] at H
                                have c64b0 : decide (0 < (l0_2.length : Int)) = true := decide_eq_true c64
                                have c64b1 : decide (0 < l0_2.length) = true := decide_eq_true (by omega)
                                clear c64
                                have H' := Aside0.mk H
                                clear H
                                have hcz65_0 : wr.cell? ⟨gb104, 0, none⟩ = some (.slice A0_0 l0_0.length c0_0) := (blk_cell BK104.out 0).trans rfl
                                have hcz65_1 : wr.cell? ⟨gb104, 1, none⟩ = some (.string a0_1) := (blk_cell BK104.out 1).trans rfl
                                have hcz65_2 : wr.cell? ⟨gb104, 2, none⟩ = some (.slice A0_2 l0_2.length c0_2) := (blk_cell BK104.out 2).trans rfl
                                have hcz65_3 : wr.cell? ⟨gb104, 3, none⟩ = some (.bool a0_3) := (blk_cell BK104.out 3).trans rfl
                                have hcz65_4 : wr.cell? ⟨gb104, 4, none⟩ = some (.bool a0_4) := (blk_cell BK104.out 4).trans rfl
                                have hcz65_5 : wr.cell? ⟨gb104, 5, none⟩ = some (.slice A0_5 l0_5.length c0_5) := (blk_cell BK104.out 5).trans rfl
                                have hfz65_0 := blk_frozen BK104.out 0
                                have hfz65_1 := blk_frozen BK104.out 1
                                have hfz65_2 := blk_frozen BK104.out 2
                                have hfz65_3 := blk_frozen BK104.out 3
                                have hfz65_4 := blk_frozen BK104.out 4
                                have hfz65_5 := blk_frozen BK104.out 5
                                go_wp2
                                go_meet
                                case rel => exact ⟨_, (true), (by first | rfl | (simp; done) | (simp [*]; done)), H', ⟨by have := HK1.out; have := HK2.out; first | omega | exact Nat.le_refl _⟩, ⟨by (with_reducible repeat (first | refine blk_drewN ?_ _ | refine blk_drew ?_ | refine blk_alloc ?_ _)); exact BK104.out⟩, ⟨by repeat (first | (with_reducible first | exact HB.out | apply below_alloc | apply pw_below_drewN | apply below_drew1 | refine below_set ?_ GE104.out) | exact HB.out)⟩⟩
                              · rw [if_neg c64] at H
                                have c64b0 : decide (0 < (l0_2.length : Int)) = false := decide_eq_false c64
                                have c64b1 : decide (0 < l0_2.length) = false := decide_eq_false (by omega)
                                clear c64
                                by_cases c66 : a0_3 = true
                                · subst c66
                                  have H1 : (spec_SectionRight.j2 k2 ((l0_2.length : Int) == 0) l0_0 a0_1 l0_2 true a0_4 l0_5) = some r := by rw [if_pos rfl] at H; exact H
                                  clear H
                                  have H := H1
                                  clear H1
                                  have H' := Aside0.mk H
                                  clear H
                                  have hcz67_0 : wr.cell? ⟨gb104, 0, none⟩ = some (.slice A0_0 l0_0.length c0_0) := (blk_cell BK104.out 0).trans rfl
                                  have hcz67_1 : wr.cell? ⟨gb104, 1, none⟩ = some (.string a0_1) := (blk_cell BK104.out 1).trans rfl
                                  have hcz67_2 : wr.cell? ⟨gb104, 2, none⟩ = some (.slice A0_2 l0_2.length c0_2) := (blk_cell BK104.out 2).trans rfl
                                  have hcz67_3 : wr.cell? ⟨gb104, 3, none⟩ = some (.bool true) := (blk_cell BK104.out 3).trans rfl
                                  have hcz67_4 : wr.cell? ⟨gb104, 4, none⟩ = some (.bool a0_4) := (blk_cell BK104.out 4).trans rfl
                                  have hcz67_5 : wr.cell? ⟨gb104, 5, none⟩ = some (.slice A0_5 l0_5.length c0_5) := (blk_cell BK104.out 5).trans rfl
                                  have hfz67_0 := blk_frozen BK104.out 0
                                  have hfz67_1 := blk_frozen BK104.out 1
                                  have hfz67_2 := blk_frozen BK104.out 2
                                  have hfz67_3 := blk_frozen BK104.out 3
                                  have hfz67_4 := blk_frozen BK104.out 4
                                  have hfz67_5 := blk_frozen BK104.out 5
                                  go_wp2
                                  go_meet
                                  case rel => exact ⟨_, (((l0_2.length : Int) == 0)), (by first | rfl | (simp; done) | (simp [*]; done)), H', ⟨by have := HK1.out; have := HK2.out; first | omega | exact Nat.le_refl _⟩, ⟨by (with_reducible repeat (first | refine blk_drewN ?_ _ | refine blk_drew ?_ | refine blk_alloc ?_ _)); exact BK104.out⟩, ⟨by repeat (first | (with_reducible first | exact HB.out | apply below_alloc | apply pw_below_drewN | apply below_drew1 | refine below_set ?_ GE104.out) | exact HB.out)⟩⟩
                                · replace c66 := Bool.eq_false_iff.mpr c66
                                  subst c66
                                  have H1 : (spec_SectionRight.j2 k2 false l0_0 a0_1 l0_2 false a0_4 l0_5) = some r := by rw [if_neg (show ¬ (false = true) by decide)] at H; exact H
                                  clear H
                                  have H := H1
                                  clear H1
                                  have H' := Aside0.mk H
                                  clear H
                                  have hcz68_0 : wr.cell? ⟨gb104, 0, none⟩ = some (.slice A0_0 l0_0.length c0_0) := (blk_cell BK104.out 0).trans rfl
                                  have hcz68_1 : wr.cell? ⟨gb104, 1, none⟩ = some (.string a0_1) := (blk_cell BK104.out 1).trans rfl
                                  have hcz68_2 : wr.cell? ⟨gb104, 2, none⟩ = some (.slice A0_2 l0_2.length c0_2) := (blk_cell BK104.out 2).trans rfl
                                  have hcz68_3 : wr.cell? ⟨gb104, 3, none⟩ = some (.bool false) := (blk_cell BK104.out 3).trans rfl
                                  have hcz68_4 : wr.cell? ⟨gb104, 4, none⟩ = some (.bool a0_4) := (blk_cell BK104.out 4).trans rfl
                                  have hcz68_5 : wr.cell? ⟨gb104, 5, none⟩ = some (.slice A0_5 l0_5.length c0_5) := (blk_cell BK104.out 5).trans rfl
                                  have hfz68_0 := blk_frozen BK104.out 0
                                  have hfz68_1 := blk_frozen BK104.out 1
                                  have hfz68_2 := blk_frozen BK104.out 2
                                  have hfz68_3 := blk_frozen BK104.out 3
                                  have hfz68_4 := blk_frozen BK104.out 4
                                  have hfz68_5 := blk_frozen BK104.out 5
                                  go_wp2
                                  go_meet
                                  case rel => exact ⟨_, (false), (by first | rfl | (simp; done) | (simp [*]; done)), H', ⟨by have := HK1.out; have := HK2.out; first | omega | exact Nat.le_refl _⟩, ⟨by (with_reducible repeat (first | refine blk_drewN ?_ _ | refine blk_drew ?_ | refine blk_alloc ?_ _)); exact BK104.out⟩, ⟨by repeat (first | (with_reducible first | exact HB.out | apply below_alloc | apply pw_below_drewN | apply below_drew1 | refine below_set ?_ GE104.out) | exact HB.out)⟩⟩
                      · rw [if_neg c57] at H
                        have c57b0 : (a0_1.toList == ([77, 73, 77, 69] : List UInt8)) = false := beq_eq_false_iff_ne.mpr c57
                        have c57b1 : (a0_1.toList != ([77, 73, 77, 69] : List UInt8)) = true := bne_iff_ne.mpr c57
                        have H' := Aside0.mk H
                        clear H
                        have hcz69_0 : wr.cell? ⟨gb104, 0, none⟩ = some (.slice A0_0 l0_0.length c0_0) := (blk_cell BK104.out 0).trans rfl
                        have hcz69_1 : wr.cell? ⟨gb104, 1, none⟩ = some (.string a0_1) := (blk_cell BK104.out 1).trans rfl
                        have hcz69_2 : wr.cell? ⟨gb104, 2, none⟩ = some (.slice A0_2 l0_2.length c0_2) := (blk_cell BK104.out 2).trans rfl
                        have hcz69_3 : wr.cell? ⟨gb104, 3, none⟩ = some (.bool a0_3) := (blk_cell BK104.out 3).trans rfl
                        have hcz69_4 : wr.cell? ⟨gb104, 4, none⟩ = some (.bool a0_4) := (blk_cell BK104.out 4).trans rfl
                        have hcz69_5 : wr.cell? ⟨gb104, 5, none⟩ = some (.slice A0_5 l0_5.length c0_5) := (blk_cell BK104.out 5).trans rfl
                        have hfz69_0 := blk_frozen BK104.out 0
                        have hfz69_1 := blk_frozen BK104.out 1
                        have hfz69_2 := blk_frozen BK104.out 2
                        have hfz69_3 := blk_frozen BK104.out 3
                        have hfz69_4 := blk_frozen BK104.out 4
                        have hfz69_5 := blk_frozen BK104.out 5
                        go_wp2
                        go_meet
                        case rel => exact ⟨_, (true), (by first | rfl | (simp; done) | (simp [*]; done)), H', ⟨by have := HK1.out; have := HK2.out; first | omega | exact Nat.le_refl _⟩, ⟨by (with_reducible repeat (first | refine blk_drewN ?_ _ | refine blk_drew ?_ | refine blk_alloc ?_ _)); exact BK104.out⟩, ⟨by repeat (first | (with_reducible first | exact HB.out | apply below_alloc | apply pw_below_drewN | apply below_drew1 | refine below_set ?_ GE104.out) | exact HB.out)⟩⟩
              case rest =>
                clear HC20
                try clear c2
                try clear p2
                try clear c3
                try clear c4
                try clear c5
                try clear c6
                try clear c21
                try clear c21b0
                try clear c21b1
                try clear c26
                try clear c26b0
                try clear c26b1
                try clear c27
                try clear c27b0
                try clear c27b1
                try clear c28
                try clear c32
                try clear c35
                try clear c35b0
                try clear c35b1
                try clear c36
                try clear c36b0
                try clear c36b1
                try clear c38
                try clear c38b0
                try clear c38b1
                try clear c40
                try clear c40b0
                try clear c40b1
                try clear c41
                try clear c44
                try clear c47
                try clear c47b0
                try clear c47b1
                try clear c48
                try clear c48b0
                try clear c48b1
                try clear c50
                try clear c50b0
                try clear c50b1
                try clear c52
                try clear c52b0
                try clear c52b1
                try clear c54
                try clear c57
                try clear c57b0
                try clear c57b1
                try clear c58
                try clear c58b0
                try clear c58b1
                try clear c58b2
                try clear c60
                try clear c60b0
                try clear c60b1
                try clear c62
                try clear c62b0
                try clear c62b1
                try clear c64
                try clear c64b0
                try clear c64b1
                try clear c66
                try clear hcz29_0
                try clear hcz29_1
                try clear hcz29_2
                try clear hcz29_3
                try clear hcz29_4
                try clear hcz29_5
                try clear hcz30_0
                try clear hcz30_1
                try clear hcz30_2
                try clear hcz30_3
                try clear hcz30_4
                try clear hcz30_5
                try clear hcz31_0
                try clear hcz31_1
                try clear hcz31_2
                try clear hcz31_3
                try clear hcz31_4
                try clear hcz31_5
                try clear hcz33_0
                try clear hcz33_1
                try clear hcz33_2
                try clear hcz33_3
                try clear hcz33_4
                try clear hcz33_5
                try clear hcz34_0
                try clear hcz34_1
                try clear hcz34_2
                try clear hcz34_3
                try clear hcz34_4
                try clear hcz34_5
                try clear hcz37_0
                try clear hcz37_1
                try clear hcz37_2
                try clear hcz37_3
                try clear hcz37_4
                try clear hcz37_5
                try clear hcz39_0
                try clear hcz39_1
                try clear hcz39_2
                try clear hcz39_3
                try clear hcz39_4
                try clear hcz39_5
                try clear hcz42_0
                try clear hcz42_1
                try clear hcz42_2
                try clear hcz42_3
                try clear hcz42_4
                try clear hcz42_5
                try clear hcz43_0
                try clear hcz43_1
                try clear hcz43_2
                try clear hcz43_3
                try clear hcz43_4
                try clear hcz43_5
                try clear hcz45_0
                try clear hcz45_1
                try clear hcz45_2
                try clear hcz45_3
                try clear hcz45_4
                try clear hcz45_5
                try clear hcz46_0
                try clear hcz46_1
                try clear hcz46_2
                try clear hcz46_3
                try clear hcz46_4
                try clear hcz46_5
                try clear hcz49_0
                try clear hcz49_1
                try clear hcz49_2
                try clear hcz49_3
                try clear hcz49_4
                try clear hcz49_5
                try clear hcz51_0
                try clear hcz51_1
                try clear hcz51_2
                try clear hcz51_3
                try clear hcz51_4
                try clear hcz51_5
                try clear hcz53_0
                try clear hcz53_1
                try clear hcz53_2
                try clear hcz53_3
                try clear hcz53_4
                try clear hcz53_5
                try clear hcz55_0
                try clear hcz55_1
                try clear hcz55_2
                try clear hcz55_3
                try clear hcz55_4
                try clear hcz55_5
                try clear hcz56_0
                try clear hcz56_1
                try clear hcz56_2
                try clear hcz56_3
                try clear hcz56_4
                try clear hcz56_5
                try clear hcz59_0
                try clear hcz59_1
                try clear hcz59_2
                try clear hcz59_3
                try clear hcz59_4
                try clear hcz59_5
                try clear hcz61_0
                try clear hcz61_1
                try clear hcz61_2
                try clear hcz61_3
                try clear hcz61_4
                try clear hcz61_5
                try clear hcz63_0
                try clear hcz63_1
                try clear hcz63_2
                try clear hcz63_3
                try clear hcz63_4
                try clear hcz63_5
                try clear hcz65_0
                try clear hcz65_1
                try clear hcz65_2
                try clear hcz65_3
                try clear hcz65_4
                try clear hcz65_5
                try clear hcz67_0
                try clear hcz67_1
                try clear hcz67_2
                try clear hcz67_3
                try clear hcz67_4
                try clear hcz67_5
                try clear hcz68_0
                try clear hcz68_1
                try clear hcz68_2
                try clear hcz68_3
                try clear hcz68_4
                try clear hcz68_5
                try clear hcz69_0
                try clear hcz69_1
                try clear hcz69_2
                try clear hcz69_3
                try clear hcz69_4
                try clear hcz69_5
                try clear hfz29_0
                try clear hfz29_1
                try clear hfz29_2
                try clear hfz29_3
                try clear hfz29_4
                try clear hfz29_5
                try clear hfz30_0
                try clear hfz30_1
                try clear hfz30_2
                try clear hfz30_3
                try clear hfz30_4
                try clear hfz30_5
                try clear hfz31_0
                try clear hfz31_1
                try clear hfz31_2
                try clear hfz31_3
                try clear hfz31_4
                try clear hfz31_5
                try clear hfz33_0
                try clear hfz33_1
                try clear hfz33_2
                try clear hfz33_3
                try clear hfz33_4
                try clear hfz33_5
                try clear hfz34_0
                try clear hfz34_1
                try clear hfz34_2
                try clear hfz34_3
                try clear hfz34_4
                try clear hfz34_5
                try clear hfz37_0
                try clear hfz37_1
                try clear hfz37_2
                try clear hfz37_3
                try clear hfz37_4
                try clear hfz37_5
                try clear hfz39_0
                try clear hfz39_1
                try clear hfz39_2
                try clear hfz39_3
                try clear hfz39_4
                try clear hfz39_5
                try clear hfz42_0
                try clear hfz42_1
                try clear hfz42_2
                try clear hfz42_3
                try clear hfz42_4
                try clear hfz42_5
                try clear hfz43_0
                try clear hfz43_1
                try clear hfz43_2
                try clear hfz43_3
                try clear hfz43_4
                try clear hfz43_5
                try clear hfz45_0
                try clear hfz45_1
                try clear hfz45_2
                try clear hfz45_3
                try clear hfz45_4
                try clear hfz45_5
                try clear hfz46_0
                try clear hfz46_1
                try clear hfz46_2
                try clear hfz46_3
                try clear hfz46_4
                try clear hfz46_5
                try clear hfz49_0
                try clear hfz49_1
                try clear hfz49_2
                try clear hfz49_3
                try clear hfz49_4
                try clear hfz49_5
                try clear hfz51_0
                try clear hfz51_1
                try clear hfz51_2
                try clear hfz51_3
                try clear hfz51_4
                try clear hfz51_5
                try clear hfz53_0
                try clear hfz53_1
                try clear hfz53_2
                try clear hfz53_3
                try clear hfz53_4
                try clear hfz53_5
                try clear hfz55_0
                try clear hfz55_1
                try clear hfz55_2
                try clear hfz55_3
                try clear hfz55_4
                try clear hfz55_5
                try clear hfz56_0
                try clear hfz56_1
                try clear hfz56_2
                try clear hfz56_3
                try clear hfz56_4
                try clear hfz56_5
                try clear hfz59_0
                try clear hfz59_1
                try clear hfz59_2
                try clear hfz59_3
                try clear hfz59_4
                try clear hfz59_5
                try clear hfz61_0
                try clear hfz61_1
                try clear hfz61_2
                try clear hfz61_3
                try clear hfz61_4
                try clear hfz61_5
                try clear hfz63_0
                try clear hfz63_1
                try clear hfz63_2
                try clear hfz63_3
                try clear hfz63_4
                try clear hfz63_5
                try clear hfz65_0
                try clear hfz65_1
                try clear hfz65_2
                try clear hfz65_3
                try clear hfz65_4
                try clear hfz65_5
                try clear hfz67_0
                try clear hfz67_1
                try clear hfz67_2
                try clear hfz67_3
                try clear hfz67_4
                try clear hfz67_5
                try clear hfz68_0
                try clear hfz68_1
                try clear hfz68_2
                try clear hfz68_3
                try clear hfz68_4
                try clear hfz68_5
                try clear hfz69_0
                try clear hfz69_1
                try clear hfz69_2
                try clear hfz69_3
                try clear hfz69_4
                try clear hfz69_5
                obtain ⟨kq, x97_19, rfl, HA, HJ19, BK104, HB⟩ := hcut
                cases kq with
                | zero => exact absurd HA.out (by simp [spec_SectionRight.j2])
                | succ kj19 =>
                  have H := HA.out
                  clear HA
                  simp only [spec_SectionRight.j2] at H
                  by_cases c70 : x97_19 = true
                  · subst c70
                    have H1 : (some false) = some r := by rw [if_pos rfl] at H; exact H
                    clear H
                    have H := H1
                    clear H1
                    obtain rfl := Option.some.inj H
                    go_wp2
                    go_ret
                    exact ⟨by first | rfl | (simp [errW_none, errW_some] <;> rfl) | (simp [*, errW_none, errW_some] <;> rfl), by repeat (first | (with_reducible first | exact HB.out | apply below_alloc | apply pw_below_drewN | apply below_drew1 | refine below_set ?_ GE104.out) | exact HB.out)⟩
                  · replace c70 := Bool.eq_false_iff.mpr c70
                    subst c70
                    have H1 : (spec_SectionRight.l2 kj19 (l0_5.length : Int) 0 l0_0 a0_1 l0_2 a0_3 a0_4 l0_5) = some r := by rw [if_neg (show ¬ (false = true) by decide)] at H; exact H
                    clear H
                    have H := H1
                    clear H1
                    have H' := Aside0.mk H
                    clear H
                    have hcz71_0 : wc.cell? ⟨gb104, 0, none⟩ = some (.slice A0_0 l0_0.length c0_0) := (blk_cell BK104.out 0).trans rfl
                    have hcz71_1 : wc.cell? ⟨gb104, 1, none⟩ = some (.string a0_1) := (blk_cell BK104.out 1).trans rfl
                    have hcz71_2 : wc.cell? ⟨gb104, 2, none⟩ = some (.slice A0_2 l0_2.length c0_2) := (blk_cell BK104.out 2).trans rfl
                    have hcz71_3 : wc.cell? ⟨gb104, 3, none⟩ = some (.bool a0_3) := (blk_cell BK104.out 3).trans rfl
                    have hcz71_4 : wc.cell? ⟨gb104, 4, none⟩ = some (.bool a0_4) := (blk_cell BK104.out 4).trans rfl
                    have hcz71_5 : wc.cell? ⟨gb104, 5, none⟩ = some (.slice A0_5 l0_5.length c0_5) := (blk_cell BK104.out 5).trans rfl
                    have hfz71_0 := blk_frozen BK104.out 0
                    have hfz71_1 := blk_frozen BK104.out 1
                    have hfz71_2 := blk_frozen BK104.out 2
                    have hfz71_3 := blk_frozen BK104.out 3
                    have hfz71_4 := blk_frozen BK104.out 4
                    have hfz71_5 := blk_frozen BK104.out 5
                    go_wp2
                    go_loopg [101] kj19 (fun kq v101 w' => ∃ (x101_4 : Int), v101 = .int .i64 x101_4 ∧ Aside0 (spec_SectionRight.l2 kq (l0_5.length : Int) x101_4 l0_0 a0_1 l0_2 a0_3 a0_4 l0_5 = some r) ∧ Aside0 (kq ≤ kj19) ∧ Aside0 (w'.heap[gb104]? = some (.cells #[(.slice A0_0 l0_0.length c0_0), .string a0_1, (.slice A0_2 l0_2.length c0_2), .bool a0_3, .bool a0_4, (.slice A0_5 l0_5.length c0_5)] 25 (0, 0))) ∧ Aside0 (Below w.heap.size w w'))
                    case atStart => exact ⟨(0), (by first | rfl | (simp; done) | (simp [*]; done)), H', ⟨Nat.le_refl _⟩, ⟨by (with_reducible repeat (first | refine blk_drewN ?_ _ | refine blk_drew ?_ | refine blk_alloc ?_ _)); exact BK104.out⟩, ⟨by repeat (first | (with_reducible first | exact HB.out | apply below_alloc | apply pw_below_drewN | apply below_drew1 | refine below_set ?_ GE104.out) | exact HB.out)⟩⟩
                    case round =>
                      clear H'
                      try clear c2
                      try clear p2
                      try clear c3
                      try clear c4
                      try clear c5
                      try clear c6
                      try clear c7
                      try clear c21
                      try clear c21b0
                      try clear c21b1
                      try clear c26
                      try clear c26b0
                      try clear c26b1
                      try clear c27
                      try clear c27b0
                      try clear c27b1
                      try clear c28
                      try clear c32
                      try clear c35
                      try clear c35b0
                      try clear c35b1
                      try clear c36
                      try clear c36b0
                      try clear c36b1
                      try clear c38
                      try clear c38b0
                      try clear c38b1
                      try clear c40
                      try clear c40b0
                      try clear c40b1
                      try clear c41
                      try clear c44
                      try clear c47
                      try clear c47b0
                      try clear c47b1
                      try clear c48
                      try clear c48b0
                      try clear c48b1
                      try clear c50
                      try clear c50b0
                      try clear c50b1
                      try clear c52
                      try clear c52b0
                      try clear c52b1
                      try clear c54
                      try clear c57
                      try clear c57b0
                      try clear c57b1
                      try clear c58
                      try clear c58b0
                      try clear c58b1
                      try clear c58b2
                      try clear c60
                      try clear c60b0
                      try clear c60b1
                      try clear c62
                      try clear c62b0
                      try clear c62b1
                      try clear c64
                      try clear c64b0
                      try clear c64b1
                      try clear c66
                      try clear c70
                      try clear hcz29_0
                      try clear hcz29_1
                      try clear hcz29_2
                      try clear hcz29_3
                      try clear hcz29_4
                      try clear hcz29_5
                      try clear hcz30_0
                      try clear hcz30_1
                      try clear hcz30_2
                      try clear hcz30_3
                      try clear hcz30_4
                      try clear hcz30_5
                      try clear hcz31_0
                      try clear hcz31_1
                      try clear hcz31_2
                      try clear hcz31_3
                      try clear hcz31_4
                      try clear hcz31_5
                      try clear hcz33_0
                      try clear hcz33_1
                      try clear hcz33_2
                      try clear hcz33_3
                      try clear hcz33_4
                      try clear hcz33_5
                      try clear hcz34_0
                      try clear hcz34_1
                      try clear hcz34_2
                      try clear hcz34_3
                      try clear hcz34_4
                      try clear hcz34_5
                      try clear hcz37_0
                      try clear hcz37_1
                      try clear hcz37_2
                      try clear hcz37_3
                      try clear hcz37_4
                      try clear hcz37_5
                      try clear hcz39_0
                      try clear hcz39_1
                      try clear hcz39_2
                      try clear hcz39_3
                      try clear hcz39_4
                      try clear hcz39_5
                      try clear hcz42_0
                      try clear hcz42_1
                      try clear hcz42_2
                      try clear hcz42_3
                      try clear hcz42_4
                      try clear hcz42_5
                      try clear hcz43_0
                      try clear hcz43_1
                      try clear hcz43_2
                      try clear hcz43_3
                      try clear hcz43_4
                      try clear hcz43_5
                      try clear hcz45_0
                      try clear hcz45_1
                      try clear hcz45_2
                      try clear hcz45_3
                      try clear hcz45_4
                      try clear hcz45_5
                      try clear hcz46_0
                      try clear hcz46_1
                      try clear hcz46_2
                      try clear hcz46_3
                      try clear hcz46_4
                      try clear hcz46_5
                      try clear hcz49_0
                      try clear hcz49_1
                      try clear hcz49_2
                      try clear hcz49_3
                      try clear hcz49_4
                      try clear hcz49_5
                      try clear hcz51_0
                      try clear hcz51_1
                      try clear hcz51_2
                      try clear hcz51_3
                      try clear hcz51_4
                      try clear hcz51_5
                      try clear hcz53_0
                      try clear hcz53_1
                      try clear hcz53_2
                      try clear hcz53_3
                      try clear hcz53_4
                      try clear hcz53_5
                      try clear hcz55_0
                      try clear hcz55_1
                      try clear hcz55_2
                      try clear hcz55_3
                      try clear hcz55_4
                      try clear hcz55_5
                      try clear hcz56_0
                      try clear hcz56_1
                      try clear hcz56_2
                      try clear hcz56_3
                      try clear hcz56_4
                      try clear hcz56_5
                      try clear hcz59_0
                      try clear hcz59_1
                      try clear hcz59_2
                      try clear hcz59_3
                      try clear hcz59_4
                      try clear hcz59_5
                      try clear hcz61_0
                      try clear hcz61_1
                      try clear hcz61_2
                      try clear hcz61_3
                      try clear hcz61_4
                      try clear hcz61_5
                      try clear hcz63_0
                      try clear hcz63_1
                      try clear hcz63_2
                      try clear hcz63_3
                      try clear hcz63_4
                      try clear hcz63_5
                      try clear hcz65_0
                      try clear hcz65_1
                      try clear hcz65_2
                      try clear hcz65_3
                      try clear hcz65_4
                      try clear hcz65_5
                      try clear hcz67_0
                      try clear hcz67_1
                      try clear hcz67_2
                      try clear hcz67_3
                      try clear hcz67_4
                      try clear hcz67_5
                      try clear hcz68_0
                      try clear hcz68_1
                      try clear hcz68_2
                      try clear hcz68_3
                      try clear hcz68_4
                      try clear hcz68_5
                      try clear hcz69_0
                      try clear hcz69_1
                      try clear hcz69_2
                      try clear hcz69_3
                      try clear hcz69_4
                      try clear hcz69_5
                      try clear hcz71_0
                      try clear hcz71_1
                      try clear hcz71_2
                      try clear hcz71_3
                      try clear hcz71_4
                      try clear hcz71_5
                      try clear hfz29_0
                      try clear hfz29_1
                      try clear hfz29_2
                      try clear hfz29_3
                      try clear hfz29_4
                      try clear hfz29_5
                      try clear hfz30_0
                      try clear hfz30_1
                      try clear hfz30_2
                      try clear hfz30_3
                      try clear hfz30_4
                      try clear hfz30_5
                      try clear hfz31_0
                      try clear hfz31_1
                      try clear hfz31_2
                      try clear hfz31_3
                      try clear hfz31_4
                      try clear hfz31_5
                      try clear hfz33_0
                      try clear hfz33_1
                      try clear hfz33_2
                      try clear hfz33_3
                      try clear hfz33_4
                      try clear hfz33_5
                      try clear hfz34_0
                      try clear hfz34_1
                      try clear hfz34_2
                      try clear hfz34_3
                      try clear hfz34_4
                      try clear hfz34_5
                      try clear hfz37_0
                      try clear hfz37_1
                      try clear hfz37_2
                      try clear hfz37_3
                      try clear hfz37_4
                      try clear hfz37_5
                      try clear hfz39_0
                      try clear hfz39_1
                      try clear hfz39_2
                      try clear hfz39_3
                      try clear hfz39_4
                      try clear hfz39_5
                      try clear hfz42_0
                      try clear hfz42_1
                      try clear hfz42_2
                      try clear hfz42_3
                      try clear hfz42_4
                      try clear hfz42_5
                      try clear hfz43_0
                      try clear hfz43_1
                      try clear hfz43_2
                      try clear hfz43_3
                      try clear hfz43_4
                      try clear hfz43_5
                      try clear hfz45_0
                      try clear hfz45_1
                      try clear hfz45_2
                      try clear hfz45_3
                      try clear hfz45_4
                      try clear hfz45_5
                      try clear hfz46_0
                      try clear hfz46_1
                      try clear hfz46_2
                      try clear hfz46_3
                      try clear hfz46_4
                      try clear hfz46_5
                      try clear hfz49_0
                      try clear hfz49_1
                      try clear hfz49_2
                      try clear hfz49_3
                      try clear hfz49_4
                      try clear hfz49_5
                      try clear hfz51_0
                      try clear hfz51_1
                      try clear hfz51_2
                      try clear hfz51_3
                      try clear hfz51_4
                      try clear hfz51_5
                      try clear hfz53_0
                      try clear hfz53_1
                      try clear hfz53_2
                      try clear hfz53_3
                      try clear hfz53_4
                      try clear hfz53_5
                      try clear hfz55_0
                      try clear hfz55_1
                      try clear hfz55_2
                      try clear hfz55_3
                      try clear hfz55_4
                      try clear hfz55_5
                      try clear hfz56_0
                      try clear hfz56_1
                      try clear hfz56_2
                      try clear hfz56_3
                      try clear hfz56_4
                      try clear hfz56_5
                      try clear hfz59_0
                      try clear hfz59_1
                      try clear hfz59_2
                      try clear hfz59_3
                      try clear hfz59_4
                      try clear hfz59_5
                      try clear hfz61_0
                      try clear hfz61_1
                      try clear hfz61_2
                      try clear hfz61_3
                      try clear hfz61_4
                      try clear hfz61_5
                      try clear hfz63_0
                      try clear hfz63_1
                      try clear hfz63_2
                      try clear hfz63_3
                      try clear hfz63_4
                      try clear hfz63_5
                      try clear hfz65_0
                      try clear hfz65_1
                      try clear hfz65_2
                      try clear hfz65_3
                      try clear hfz65_4
                      try clear hfz65_5
                      try clear hfz67_0
                      try clear hfz67_1
                      try clear hfz67_2
                      try clear hfz67_3
                      try clear hfz67_4
                      try clear hfz67_5
                      try clear hfz68_0
                      try clear hfz68_1
                      try clear hfz68_2
                      try clear hfz68_3
                      try clear hfz68_4
                      try clear hfz68_5
                      try clear hfz69_0
                      try clear hfz69_1
                      try clear hfz69_2
                      try clear hfz69_3
                      try clear hfz69_4
                      try clear hfz69_5
                      try clear hfz71_0
                      try clear hfz71_1
                      try clear hfz71_2
                      try clear hfz71_3
                      try clear hfz71_4
                      try clear hfz71_5
                      try clear p2
                      obtain ⟨x101_4, rfl, HA, HK4, BK104, HB⟩ := hrel
                      cases gk with
                      | zero => exact absurd HA.out (by simp [spec_SectionRight.l2])
                      | succ k4 =>
                        have H := HA.out
                        clear HA
                        simp only [spec_SectionRight.l2] at H
                        by_cases c72 : x101_4 < (l0_5.length : Int)
                        · rw [if_pos c72] at H
                          have c72b0 : decide (x101_4 < (l0_5.length : Int)) = true := decide_eq_true c72
                          clear c72
                          by_cases c73 : 0 ≤ x101_4
                          · rw [if_pos c73] at H
                            have c73b0 : decide (0 ≤ x101_4) = true := decide_eq_true c73
                            clear c73
                            by_cases c74 : x101_4 < (l0_5.length : Int)
                            · rw [if_pos c74] at H
                              have c74b0 : decide (x101_4 < (l0_5.length : Int)) = true := decide_eq_true c74
                              clear c74
                              by_cases c75 : (rd l0_5 x101_4) < 0
                              · rw [if_pos c75] at H
                                have c75b0 : decide ((rd l0_5 x101_4) < 0) = true := decide_eq_true c75
                                clear c75
                                obtain rfl := Option.some.inj H
                                have hcz76_0 : wr.cell? ⟨gb104, 0, none⟩ = some (.slice A0_0 l0_0.length c0_0) := (blk_cell BK104.out 0).trans rfl
                                have hcz76_1 : wr.cell? ⟨gb104, 1, none⟩ = some (.string a0_1) := (blk_cell BK104.out 1).trans rfl
                                have hcz76_2 : wr.cell? ⟨gb104, 2, none⟩ = some (.slice A0_2 l0_2.length c0_2) := (blk_cell BK104.out 2).trans rfl
                                have hcz76_3 : wr.cell? ⟨gb104, 3, none⟩ = some (.bool a0_3) := (blk_cell BK104.out 3).trans rfl
                                have hcz76_4 : wr.cell? ⟨gb104, 4, none⟩ = some (.bool a0_4) := (blk_cell BK104.out 4).trans rfl
                                have hcz76_5 : wr.cell? ⟨gb104, 5, none⟩ = some (.slice A0_5 l0_5.length c0_5) := (blk_cell BK104.out 5).trans rfl
                                have hfz76_0 := blk_frozen BK104.out 0
                                have hfz76_1 := blk_frozen BK104.out 1
                                have hfz76_2 := blk_frozen BK104.out 2
                                have hfz76_3 := blk_frozen BK104.out 3
                                have hfz76_4 := blk_frozen BK104.out 4
                                have hfz76_5 := blk_frozen BK104.out 5
                                have p109 : 0 ≤ (x101_4 : Int) := of_decide_eq_true (by first | (with_reducible assumption) | assumption)
                                have q109 : x101_4 < (l0_5.length : Int) := of_decide_eq_true (by first | (with_reducible assumption) | assumption)
                                obtain ⟨ad109, e109, hx109_0⟩ := Kd.at_int HR0_5.out x101_4 p109 q109
                                cases e109
                                replace hx109_0 := (HB.out.cell (World.block_lt_of_cell? w _ hx109_0)).trans hx109_0
                                replace p109 := eq_true p109
                                replace q109 := eq_true q109
                                go_wp2
                                go_ret
                                exact ⟨by first | rfl | (simp [errW_none, errW_some] <;> rfl) | (simp [*, errW_none, errW_some] <;> rfl), by repeat (first | (with_reducible first | exact HB.out | apply below_alloc | apply pw_below_drewN | apply below_drew1 | refine below_set ?_ GE104.out) | exact HB.out)⟩
                              · rw [if_neg c75] at H
                                have c75b0 : decide ((rd l0_5 x101_4) < 0) = false := decide_eq_false c75
                                clear c75
                                by_cases c77 : (rd l0_5 x101_4) > 1000000
                                · rw [if_pos c77] at H
                                  have c77b0 : decide (1000000 < (rd l0_5 x101_4)) = true := decide_eq_true c77
                                  clear c77
                                  obtain rfl := Option.some.inj H
                                  have hcz78_0 : wr.cell? ⟨gb104, 0, none⟩ = some (.slice A0_0 l0_0.length c0_0) := (blk_cell BK104.out 0).trans rfl
                                  have hcz78_1 : wr.cell? ⟨gb104, 1, none⟩ = some (.string a0_1) := (blk_cell BK104.out 1).trans rfl
                                  have hcz78_2 : wr.cell? ⟨gb104, 2, none⟩ = some (.slice A0_2 l0_2.length c0_2) := (blk_cell BK104.out 2).trans rfl
                                  have hcz78_3 : wr.cell? ⟨gb104, 3, none⟩ = some (.bool a0_3) := (blk_cell BK104.out 3).trans rfl
                                  have hcz78_4 : wr.cell? ⟨gb104, 4, none⟩ = some (.bool a0_4) := (blk_cell BK104.out 4).trans rfl
                                  have hcz78_5 : wr.cell? ⟨gb104, 5, none⟩ = some (.slice A0_5 l0_5.length c0_5) := (blk_cell BK104.out 5).trans rfl
                                  have hfz78_0 := blk_frozen BK104.out 0
                                  have hfz78_1 := blk_frozen BK104.out 1
                                  have hfz78_2 := blk_frozen BK104.out 2
                                  have hfz78_3 := blk_frozen BK104.out 3
                                  have hfz78_4 := blk_frozen BK104.out 4
                                  have hfz78_5 := blk_frozen BK104.out 5
                                  have p109 : 0 ≤ (x101_4 : Int) := of_decide_eq_true (by first | (with_reducible assumption) | assumption)
                                  have q109 : x101_4 < (l0_5.length : Int) := of_decide_eq_true (by first | (with_reducible assumption) | assumption)
                                  obtain ⟨ad109, e109, hx109_0⟩ := Kd.at_int HR0_5.out x101_4 p109 q109
                                  cases e109
                                  replace hx109_0 := (HB.out.cell (World.block_lt_of_cell? w _ hx109_0)).trans hx109_0
                                  replace p109 := eq_true p109
                                  replace q109 := eq_true q109
                                  have p110 : 0 ≤ (x101_4 : Int) := of_decide_eq_true (by first | (with_reducible assumption) | assumption)
                                  have q110 : x101_4 < (l0_5.length : Int) := of_decide_eq_true (by first | (with_reducible assumption) | assumption)
                                  obtain ⟨ad110, e110, hx110_0⟩ := Kd.at_int HR0_5.out x101_4 p110 q110
                                  obtain rfl : ad109 = ad110 := (by injection e110)
                                  replace hx110_0 := (HB.out.cell (World.block_lt_of_cell? w _ hx110_0)).trans hx110_0
                                  replace p110 := eq_true p110
                                  replace q110 := eq_true q110
                                  go_wp2
                                  go_ret
                                  exact ⟨by first | rfl | (simp [errW_none, errW_some] <;> rfl) | (simp [*, errW_none, errW_some] <;> rfl), by repeat (first | (with_reducible first | exact HB.out | apply below_alloc | apply pw_below_drewN | apply below_drew1 | refine below_set ?_ GE104.out) | exact HB.out)⟩
                                · rw [if_neg c77] at H
                                  have c77b0 : decide (1000000 < (rd l0_5 x101_4)) = false := decide_eq_false c77
                                  clear c77
                                  have H' := Aside0.mk H
                                  clear H
                                  have hcz79_0 : wr.cell? ⟨gb104, 0, none⟩ = some (.slice A0_0 l0_0.length c0_0) := (blk_cell BK104.out 0).trans rfl
                                  have hcz79_1 : wr.cell? ⟨gb104, 1, none⟩ = some (.string a0_1) := (blk_cell BK104.out 1).trans rfl
                                  have hcz79_2 : wr.cell? ⟨gb104, 2, none⟩ = some (.slice A0_2 l0_2.length c0_2) := (blk_cell BK104.out 2).trans rfl
                                  have hcz79_3 : wr.cell? ⟨gb104, 3, none⟩ = some (.bool a0_3) := (blk_cell BK104.out 3).trans rfl
                                  have hcz79_4 : wr.cell? ⟨gb104, 4, none⟩ = some (.bool a0_4) := (blk_cell BK104.out 4).trans rfl
                                  have hcz79_5 : wr.cell? ⟨gb104, 5, none⟩ = some (.slice A0_5 l0_5.length c0_5) := (blk_cell BK104.out 5).trans rfl
                                  have hfz79_0 := blk_frozen BK104.out 0
                                  have hfz79_1 := blk_frozen BK104.out 1
                                  have hfz79_2 := blk_frozen BK104.out 2
                                  have hfz79_3 := blk_frozen BK104.out 3
                                  have hfz79_4 := blk_frozen BK104.out 4
                                  have hfz79_5 := blk_frozen BK104.out 5
                                  have p109 : 0 ≤ (x101_4 : Int) := of_decide_eq_true (by first | (with_reducible assumption) | assumption)
                                  have q109 : x101_4 < (l0_5.length : Int) := of_decide_eq_true (by first | (with_reducible assumption) | assumption)
                                  obtain ⟨ad109, e109, hx109_0⟩ := Kd.at_int HR0_5.out x101_4 p109 q109
                                  cases e109
                                  replace hx109_0 := (HB.out.cell (World.block_lt_of_cell? w _ hx109_0)).trans hx109_0
                                  replace p109 := eq_true p109
                                  replace q109 := eq_true q109
                                  have p110 : 0 ≤ (x101_4 : Int) := of_decide_eq_true (by first | (with_reducible assumption) | assumption)
                                  have q110 : x101_4 < (l0_5.length : Int) := of_decide_eq_true (by first | (with_reducible assumption) | assumption)
                                  obtain ⟨ad110, e110, hx110_0⟩ := Kd.at_int HR0_5.out x101_4 p110 q110
                                  obtain rfl : ad109 = ad110 := (by injection e110)
                                  replace hx110_0 := (HB.out.cell (World.block_lt_of_cell? w _ hx110_0)).trans hx110_0
                                  replace p110 := eq_true p110
                                  replace q110 := eq_true q110
                                  go_wp2
                                  go_roundg k4
                                  case measure => have := HK1.out; have := HK2.out; have := HJ19.out; have := HK4.out; omega
                                  case rel => exact ⟨(wrap64 (x101_4 + 1)), (by first | rfl | (simp; done) | (simp [*]; done)), H', ⟨by have := HK1.out; have := HK2.out; have := HJ19.out; have := HK4.out; omega⟩, ⟨by (with_reducible repeat (first | refine blk_drewN ?_ _ | refine blk_drew ?_ | refine blk_alloc ?_ _)); exact BK104.out⟩, ⟨by repeat (first | (with_reducible first | exact HB.out | apply below_alloc | apply pw_below_drewN | apply below_drew1 | refine below_set ?_ GE104.out) | exact HB.out)⟩⟩
                            · rw [if_neg c74] at H
                              exact absurd H (by simp)
                          · rw [if_neg c73] at H
                            exact absurd H (by simp)
                        · rw [if_neg c72] at H
                          have c72b0 : decide (x101_4 < (l0_5.length : Int)) = false := decide_eq_false c72
                          clear c72
                          by_cases c80 : (l0_5.length : Int) = 0
                          · rw [if_pos c80] at H
                            have c80b0 : ((l0_5.length : Int) == 0) = true := beq_iff_eq.mpr c80
                            have c80b1 : ((l0_5.length : Int) != 0) = false := bne_eq_false_iff_eq.mpr c80
                            clear c80
                            obtain rfl := Option.some.inj H
                            have hcz81_0 : wr.cell? ⟨gb104, 0, none⟩ = some (.slice A0_0 l0_0.length c0_0) := (blk_cell BK104.out 0).trans rfl
                            have hcz81_1 : wr.cell? ⟨gb104, 1, none⟩ = some (.string a0_1) := (blk_cell BK104.out 1).trans rfl
                            have hcz81_2 : wr.cell? ⟨gb104, 2, none⟩ = some (.slice A0_2 l0_2.length c0_2) := (blk_cell BK104.out 2).trans rfl
                            have hcz81_3 : wr.cell? ⟨gb104, 3, none⟩ = some (.bool a0_3) := (blk_cell BK104.out 3).trans rfl
                            have hcz81_4 : wr.cell? ⟨gb104, 4, none⟩ = some (.bool a0_4) := (blk_cell BK104.out 4).trans rfl
                            have hcz81_5 : wr.cell? ⟨gb104, 5, none⟩ = some (.slice A0_5 l0_5.length c0_5) := (blk_cell BK104.out 5).trans rfl
                            have hfz81_0 := blk_frozen BK104.out 0
                            have hfz81_1 := blk_frozen BK104.out 1
                            have hfz81_2 := blk_frozen BK104.out 2
                            have hfz81_3 := blk_frozen BK104.out 3
                            have hfz81_4 := blk_frozen BK104.out 4
                            have hfz81_5 := blk_frozen BK104.out 5
                            go_wp2
                            go_ret
                            exact ⟨by first | rfl | (simp [errW_none, errW_some] <;> rfl) | (simp [*, errW_none, errW_some] <;> rfl), by repeat (first | (with_reducible first | exact HB.out | apply below_alloc | apply pw_below_drewN | apply below_drew1 | refine below_set ?_ GE104.out) | exact HB.out)⟩
                          · rw [if_neg c80] at H
                            have c80b0 : ((l0_5.length : Int) == 0) = false := beq_eq_false_iff_ne.mpr c80
                            have c80b1 : ((l0_5.length : Int) != 0) = true := bne_iff_ne.mpr c80
                            have c80b2 : ¬ (l0_5 = []) := fun h_ => c80 (by rw [h_]; rfl)
                            obtain rfl := Option.some.inj H
                            have hcz82_0 : wr.cell? ⟨gb104, 0, none⟩ = some (.slice A0_0 l0_0.length c0_0) := (blk_cell BK104.out 0).trans rfl
                            have hcz82_1 : wr.cell? ⟨gb104, 1, none⟩ = some (.string a0_1) := (blk_cell BK104.out 1).trans rfl
                            have hcz82_2 : wr.cell? ⟨gb104, 2, none⟩ = some (.slice A0_2 l0_2.length c0_2) := (blk_cell BK104.out 2).trans rfl
                            have hcz82_3 : wr.cell? ⟨gb104, 3, none⟩ = some (.bool a0_3) := (blk_cell BK104.out 3).trans rfl
                            have hcz82_4 : wr.cell? ⟨gb104, 4, none⟩ = some (.bool a0_4) := (blk_cell BK104.out 4).trans rfl
                            have hcz82_5 : wr.cell? ⟨gb104, 5, none⟩ = some (.slice A0_5 l0_5.length c0_5) := (blk_cell BK104.out 5).trans rfl
                            have hfz82_0 := blk_frozen BK104.out 0
                            have hfz82_1 := blk_frozen BK104.out 1
                            have hfz82_2 := blk_frozen BK104.out 2
                            have hfz82_3 := blk_frozen BK104.out 3
                            have hfz82_4 := blk_frozen BK104.out 4
                            have hfz82_5 := blk_frozen BK104.out 5
                            go_wp2
                            go_ret
                            exact ⟨by first | rfl | (simp [errW_none, errW_some] <;> rfl) | (simp [*, errW_none, errW_some] <;> rfl), by repeat (first | (with_reducible first | exact HB.out | apply below_alloc | apply pw_below_drewN | apply below_drew1 | refine below_set ?_ GE104.out) | exact HB.out)⟩

end Go.Proofs.YtanombfdfpfcoaaGreatDoor.PFnSection
