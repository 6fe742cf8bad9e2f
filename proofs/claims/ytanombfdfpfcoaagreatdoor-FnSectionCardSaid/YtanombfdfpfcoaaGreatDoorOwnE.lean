/- The reference's text of a section, for the proof of FnSection, at right sections. -/
import Derived.Test.YtanombfdfpfcoaaGreatDoorOwnD
import Derived.Test.YtanombfdfpfcoaaGreatDoorOwnA
namespace Go.Proofs.YtanombfdfpfcoaaGreatDoor
set_option linter.unusedVariables false
set_option linter.unusedSimpArgs false
open Go.RowKit

theorem joinB_snoc (c : UInt8) (a : List UInt8) : ∀ xs : List (List UInt8), xs ≠ [] → joinB c (xs ++ [a]) = joinB c xs ++ c :: a
  | [], h => absurd rfl h
  | [x], _ => rfl
  | x :: y :: r, _ => by
    have ih := joinB_snoc c a (y :: r) (by simp)
    show x ++ c :: joinB c ((y :: r) ++ [a]) = (x ++ c :: joinB c (y :: r)) ++ c :: a
    rw [ih]
    simp

theorem joinB_app (c : UInt8) (y : List UInt8) (ys : List (List UInt8)) : ∀ xs : List (List UInt8), xs ≠ [] → joinB c (xs ++ y :: ys) = joinB c xs ++ c :: joinB c (y :: ys)
  | [], h => absurd rfl h
  | [x], _ => rfl
  | x :: z :: r, _ => by
    have ih := joinB_app c y ys (z :: r) (by simp)
    show x ++ c :: joinB c ((z :: r) ++ y :: ys) = (x ++ c :: joinB c (z :: r)) ++ c :: joinB c (y :: ys)
    rw [ih]
    simp
/-- What stands ahead of the fields. -/
def midH (path : List Nat) (nt : Bool) : List UInt8 := joinB 46 (path.map dig ++ cHEADER :: cFIELDS :: (if nt then [cNOT] else []))
theorem midH_tail (nt : Bool) : joinB 46 (cHEADER :: cFIELDS :: (if nt then [cNOT] else [])) = cHEADER ++ [46, 70, 73, 69, 76, 68, 83] ++ (if nt then [46, 78, 79, 84] else []) := by
  cases nt <;> rfl
theorem midH_nil (path : List Nat) (nt : Bool) (h : path.length = 0) : midH path nt = cHEADER ++ [46, 70, 73, 69, 76, 68, 83] ++ (if nt then [46, 78, 79, 84] else []) := by
  rw [midH, List.eq_nil_of_length_eq_zero h]
  exact midH_tail nt
theorem midH_pos (path : List Nat) (nt : Bool) (h : 0 < path.length) : midH path nt = joinB 46 (path.map dig) ++ [46] ++ (cHEADER ++ [46, 70, 73, 69, 76, 68, 83] ++ (if nt then [46, 78, 79, 84] else [])) := by
  rw [midH, joinB_app _ _ _ _ (by intro h2; have h3 := congrArg List.length h2; rw [List.length_map, List.length_nil] at h3; omega), midH_tail]
  simp
theorem midH_len (path : List Nat) (nt : Bool) (hp : path.length ≤ 6) (h : ∀ p ∈ path, p < 1000) : (midH path nt).length ≤ 72 := by
  have h1 := joinB_len 46 7 (path.map dig ++ cHEADER :: cFIELDS :: (if nt then [cNOT] else [])) (by
    intro x hx
    rcases List.mem_append.1 hx with hx | hx
    · obtain ⟨n, hn, rfl⟩ := List.mem_map.1 hx
      exact dig_len7 n (by have := h n hn; omega)
    · cases nt <;> simp at hx <;> rcases hx with rfl | rfl | rfl <;> decide)
  have h2 : (path.map dig ++ cHEADER :: cFIELDS :: (if nt then [cNOT] else [])).length ≤ 9 := by
    cases nt <;> simp <;> omega
  have h3 : (path.map dig ++ cHEADER :: cFIELDS :: (if nt then [cNOT] else [])).length * (7 + 1) ≤ 9 * (7 + 1) := Nat.mul_le_mul_right _ h2
  unfold midH
  omega
theorem secT_fields (path : List Nat) (fs : List (List UInt8)) (nt pk : Bool) (o : Option (Nat × Nat)) (h : fs ≠ []) :
    secT path cHEADER fs nt pk o = preT pk ++ 91 :: (midH path nt ++ 32 :: 40 :: joinB 32 fs) ++ [41] ++ [93] ++ sufT o := by
  have hc : (cHEADER = []) = False := by simp [cHEADER]
  simp [secT, midT, partsT, fieldsP, h, midH, hc]

set_option maxRecDepth 100000 in
set_option maxHeartbeats 8000000 in
theorem t_text9 (w : World) (path : List Nat) (part : List UInt8) (fs : List (List UInt8)) (nt pk : Bool) (o : Option (Nat × Nat)) (a0 a2 a5 : Option Addr) (c0 c2 c5 : Nat) (R : Right path part fs nt o)
    (h0 : Arg w.heap.size w a0 path.length (path.map nI)) (h2 : Arg w.heap.size w a2 fs.length (fs.map strV)) (h5 : Arg w.heap.size w a5 (partI o).length ((partI o).map nI)) :
    Calls Tryz.prog 7 #[secV path part fs nt pk o a0 a2 a5 c0 c2 c5] w fun e w' => e = .returned (.string (bs (secT path part fs nt pk o))) ∧ Keep (fun _ => False) w w' := by
  have htl2 : ∀ l, (bs l).toList = l := bs_toList
  have hsz : ∀ l, (bs l).size = l.length := bs_size
  have hpl := R.pl
  have hfl := R.fl
  have H0 := Lib.hid h0
  have H2 := Lib.hid h2
  have H5 := Lib.hid h5
  have HR := Lib.hid R
  unfold secV
  clear h0 h2 h5 R
  have L1 : (⟨#[66, 79, 68, 89]⟩ : ByteArray) = bs [66, 79, 68, 89] := (bs_def _).symm
  have L2 : (⟨#[46, 80, 69, 69, 75]⟩ : ByteArray) = bs [46, 80, 69, 69, 75] := (bs_def _).symm
  have L3 : (⟨#[91]⟩ : ByteArray) = bs [91] := (bs_def _).symm
  have L4 : (⟨#[93]⟩ : ByteArray) = bs [93] := (bs_def _).symm
  have L5 : (⟨#[60]⟩ : ByteArray) = bs [60] := (bs_def _).symm
  have L6 : (⟨#[46]⟩ : ByteArray) = bs [46] := (bs_def _).symm
  have L7 : (⟨#[62]⟩ : ByteArray) = bs [62] := (bs_def _).symm
  have HL := Lib.hid (And.intro L1 (And.intro L2 (And.intro L3 (And.intro L4 (And.intro L5 (And.intro L6 L7))))))
  clear L1 L2 L3 L4 L5 L6 L7
  have M1 : (⟨#[46, 70, 73, 69, 76, 68, 83]⟩ : ByteArray) = bs [46, 70, 73, 69, 76, 68, 83] := (bs_def _).symm
  have M2 : (⟨#[46, 78, 79, 84]⟩ : ByteArray) = bs [46, 78, 79, 84] := (bs_def _).symm
  have M3 : (⟨#[32, 40]⟩ : ByteArray) = bs [32, 40] := (bs_def _).symm
  have M4 : (⟨#[41]⟩ : ByteArray) = bs [41] := (bs_def _).symm
  have M5 : (⟨#[32]⟩ : ByteArray) = bs [32] := (bs_def _).symm
  have HM := Lib.hid (And.intro M1 (And.intro M2 (And.intro M3 (And.intro M4 M5))))
  clear M1 M2 M3 M4 M5
  obtain ⟨NT, hNT⟩ : ∃ NT, NT = nt := ⟨_, rfl⟩
  have HNT := Lib.hid hNT
  clear hNT
  have hw1 : Blk (w.alloc (.cells #[.slice a0 path.length c0, .string (bs part), .slice a2 fs.length c2, .bool nt, .bool pk, .slice a5 (partI o).length c5] 25)) w.heap.size #[.slice a0 path.length c0, .string (bs part), .slice a2 fs.length c2, .bool nt, .bool pk, .slice a5 (partI o).length c5] 25 := Blk.new w _ _
  have HB := Lib.hid hw1
  have HK0 := Lib.hid (((Keep.refl (fun _ => False) w).alloc (.cells #[.slice a0 path.length c0, .string (bs part), .slice a2 fs.length c2, .bool nt, .bool pk, .slice a5 (partI o).length c5] 25)))
  clear hw1
  obtain ⟨PR, hPR⟩ : ∃ PR, PR = preT pk := ⟨_, rfl⟩
  have hprl : PR.length ≤ 9 := by rw [hPR]; cases pk <;> decide
  have HPR := Lib.hid hPR
  clear hPR
  go_enter Tryz.func7, Tryz.ntmps7
  cases pk
  all_goals
    go_wp2
    generalize hW1 : w.alloc _ = W1 at HB HK0 ⊢
    clear hW1
    go_loopg [3, 15] path.length (fun k v3 v wr => ∃ i l, v = .int .i64 (i : Nat) ∧ i + k = path.length ∧ v3 = .string (bs l) ∧ l = PR ++ 91 :: joinB 46 ((path.take i).map dig) ∧ Keep (fun _ => False) W1 wr)
    case atStart =>
      obtain ⟨L1, L2, L3, L4, L5, L6, L7⟩ := HL.out
      exact ⟨0, PR ++ [91], rfl, by omega, by simp only [L1, L2, L3, bs_app]; rw [HPR.out]; rfl, by simp [joinB], Keep.refl _ _⟩
    case round =>
      obtain ⟨i, l, rfl, hik, rfl, hl, hk⟩ := hrel
      have hb := HB.out.keep hk id
      have b0 : wr.cell? ⟨w.heap.size, 0, none⟩ = some (.slice a0 path.length c0) := (hb.cell 0).trans rfl
      have hk0 := HK0.out.trans hk
      have h0r := H0.out.keep hk0 (Nat.le_refl _) (fun _ _ => id)
      have hjl := joinB_len 46 7 ((path.take i).map dig) (fun x hx => by
        obtain ⟨n, hn, rfl⟩ := List.mem_map.1 hx
        exact dig_len7 n (by have := (HR.out.ph n (List.mem_of_mem_take hn)).2; omega))
      have hll : l.length ≤ 200 := by
        rw [hl]
        simp only [List.length_map, List.length_take, List.length_append, List.length_cons] at hjl ⊢
        have : min i path.length ≤ 6 := by omega
        have : min i path.length * (7 + 1) ≤ 6 * (7 + 1) := Nat.mul_le_mul_right _ this
        omega
      have HLL := Lib.hid hl
      have HB1 := Lib.hid hb
      have HK1 := Lib.hid hk
      clear hl hb hk hk0 hjl
      by_cases hlt : i < path.length
      · obtain ⟨b, oo, rfl, hbb, hcc⟩ := h0r.2 (by omega)
        obtain ⟨p, hp⟩ : ∃ p, p = path.getD i 0 := ⟨_, rfl⟩
        have hc3 : wr.cell? ⟨b, oo + i, none⟩ = some (.int .i64 p) := by
          rw [hcc i hlt, hp]
          simp [List.getD, hlt, nI]
        have hpp : p < 1000 := by rw [hp]; exact (HR.out.ph _ (by simp [List.getD, hlt])).2
        have hdl := dig_len7 p (by omega)
        have HPP := Lib.hid hp
        clear hcc h0r hp
        have hcase : i = 0 ∨ 0 < i := by omega
        rcases hcase with rfl | hi0
        · rw [Nat.add_zero] at hc3
          go_wp2_with (go_at_call 15; refine (t_number9 p (by omega) _).mono ?_; rintro e w3 ⟨rfl, hk3⟩; have HK3 := Lib.hid (HK1.out.trans hk3); clear hk3)
          obtain ⟨L1, L2, L3, L4, L5, L6, L7⟩ := HL.out
          go_roundg (gk - 1)
          case measure => omega
          case rel =>
            refine ⟨1, l ++ dig p, rfl, by omega, by rw [bs_app], ?_, HK3.out⟩
            rw [HLL.out, HPP.out]
            cases path with
            | nil => cases hlt
            | cons y ys => simp [joinB]
        · go_wp2_with (go_at_call 15; refine (t_number9 p (by omega) _).mono ?_; rintro e w3 ⟨rfl, hk3⟩; have HK3 := Lib.hid (HK1.out.trans hk3); clear hk3)
          obtain ⟨L1, L2, L3, L4, L5, L6, L7⟩ := HL.out
          go_roundg (gk - 1)
          case measure => omega
          case rel =>
            refine ⟨i + 1, l ++ [46] ++ dig p, rfl, by omega, by simp only [L6, bs_app], ?_, HK3.out⟩
            rw [HLL.out, show path.take (i + 1) = path.take i ++ [p] from by rw [HPP.out, List.take_add_one]; simp [List.getD, hlt], List.map_append, show [p].map dig = [dig p] from rfl, joinB_snoc 46 (dig p) _ (by intro h; have h2 := congrArg List.length h; rw [List.length_map, List.length_take, List.length_nil] at h2; omega)]
            simp
      · have hi : i = path.length := by omega
        subst hi
        rw [List.take_length] at HLL
        have b1 : wr.cell? ⟨w.heap.size, 1, none⟩ = some (.string (bs part)) := (HB1.out.cell 1).trans rfl
        have b2 : wr.cell? ⟨w.heap.size, 2, none⟩ = some (.slice a2 fs.length c2) := (HB1.out.cell 2).trans rfl
        have b3 : wr.cell? ⟨w.heap.size, 3, none⟩ = some (.bool nt) := (HB1.out.cell 3).trans rfl
        have b5 : wr.cell? ⟨w.heap.size, 5, none⟩ = some (.slice a5 (partI o).length c5) := (HB1.out.cell 5).trans rfl
        have hp10 := HR.out.part10
        clear h0r
        have hpl0 : path.length = 0 ∨ 0 < path.length := by omega
        by_cases hpe : part = []
        · have hfe : fs = [] := by
            rcases Decidable.em (fs = []) with h | h
            · exact h
            · have := HR.out.fp h; rw [hpe] at this; cases this
          subst hpe
          subst hfe
          rcases o with _ | ⟨a, b⟩
          · have e0 : (partI none).length = 0 := rfl
            rw [e0] at b5
            rcases hpl0 with hp0 | hp0
            all_goals
              go_wp2
              go_ret
              refine ⟨?_, HK0.out.trans (HK1.out)⟩
              obtain ⟨L1, L2, L3, L4, L5, L6, L7⟩ := HL.out
              simp only [L1, L2, L3, L4, L5, L6, L7, bs_app]
              simp [secT, midT, partsT, fieldsP, preT, sufT, HLL.out, HPR.out]
          · have e0 : (partI (some (a, b))).length = 2 := rfl
            have h5 := H5.out
            rw [e0] at b5 h5
            obtain ⟨bb, ob, rfl, hbb, hcc⟩ := h5.2 (by decide)
            obtain ⟨ha7, hb7⟩ := HR.out.oo a b rfl
            have hk0 := HK0.out.trans HK1.out
            have hc5 : ∀ w', Keep (fun _ => False) wr w' → w'.cell? ⟨w.heap.size, 5, none⟩ = some (.slice (some ⟨bb, ob, none⟩) 2 c5) := fun w' hk => ((HB1.out.keep hk id).cell 5).trans rfl
            have hca : ∀ w', Keep (fun _ => False) wr w' → w'.cell? ⟨bb, ob, none⟩ = some (.int .i64 a) := fun w' hk => (World.cell?_of_block (a := ⟨bb, ob, none⟩) ((hk0.trans hk).block bb hbb id)).trans (hcc 0 (by decide))
            have hcb : ∀ w', Keep (fun _ => False) wr w' → w'.cell? ⟨bb, ob + 1, none⟩ = some (.int .i64 b) := fun w' hk => (World.cell?_of_block (a := ⟨bb, ob + 1, none⟩) ((hk0.trans hk).block bb hbb id)).trans (hcc 1 (by decide))
            have hda := dig_len7 a ha7
            have hdb := dig_len7 b hb7
            clear hcc h5 hk0
            rcases hpl0 with hp0 | hp0
            all_goals
              go_wp2
              refine Mix.wp_region_mixc [(0, 0), (1, 0), (2, 0), (3, 0), (4, 0), (8, 0), (9, 0), (10, 0), (11, 0), (5, 1), (6, 0), (7, 0), (12, 1), (13, 0), (14, 0), (15, 3), (16, 3)] (Keep (fun _ => False) wr) (by kernel_rfl) (by kernel_rfl) (fun _ _ _ _ h => h) ?_ ?_
              focus exact (Keep.refl (fun _ => False) wr).drew
              repeat (first | (refine Mix.mix_pure rfl rfl (fun K hK => ?_); go_big_quiet_op; (first | (refine hK _ ?_; clear hK K) | (refine ⟨_, fun _ _ => rfl, ?_⟩; refine hK _ ?_; clear hK K) | (refine ⟨_, fun w_ h_ => (by simp [go_sem, hc5 w_ h_, hca w_ h_, hcb w_ h_]; rfl), ?_⟩; refine hK _ ?_; clear hK K))) | (refine Mix.mix_free rfl rfl (fun K hK => ?_); go_big_quiet_op; (first | (refine hK _ ?_; clear hK K) | (refine ⟨_, fun _ _ => rfl, ?_⟩; refine hK _ ?_; clear hK K) | (refine ⟨_, fun w_ h_ => (by simp [go_sem, hc5 w_ h_, hca w_ h_, hcb w_ h_]; rfl), ?_⟩; refine hK _ ?_; clear hK K))) | (refine Mix.mix_pure_want rfl rfl (fun K hK => ?_); go_big_quiet_op; (first | (refine hK _ ?_; clear hK K) | (refine ⟨_, fun _ _ => rfl, ?_⟩; refine hK _ ?_; clear hK K) | (refine ⟨_, fun w_ h_ => (by simp [go_sem, hc5 w_ h_, hca w_ h_, hcb w_ h_]; rfl), ?_⟩; refine hK _ ?_; clear hK K))) | (refine Mix.mix_free_want rfl rfl (fun K hK => ?_); go_big_quiet_op; (first | (refine hK _ ?_; clear hK K) | (refine ⟨_, fun _ _ => rfl, ?_⟩; refine hK _ ?_; clear hK K) | (refine ⟨_, fun w_ h_ => (by simp [go_sem, hc5 w_ h_, hca w_ h_, hcb w_ h_]; rfl), ?_⟩; refine hK _ ?_; clear hK K))) | refine Mix.mix_skip rfl rfl (by decide) ?_)
              refine Mix.mix_keep rfl rfl (fun K hK => ?_)
              go_wp2_with (go_at_call 15; refine (t_number9 a ha7 _).mono ?_; rintro e w3 ⟨rfl, hk3⟩; have HK3 := Lib.hid ((Keep.refl (fun _ => False) wr).drew.trans hk3); clear hk3)
              refine ⟨HK3.out, ?_⟩
              repeat (first | (refine Mix.mix_pure rfl rfl (fun K hK => ?_); go_big_quiet_op; (first | (refine hK _ ?_; clear hK K) | (refine ⟨_, fun _ _ => rfl, ?_⟩; refine hK _ ?_; clear hK K) | (refine ⟨_, fun w_ h_ => (by simp [go_sem, hc5 w_ h_, hca w_ h_, hcb w_ h_]; rfl), ?_⟩; refine hK _ ?_; clear hK K))) | (refine Mix.mix_free rfl rfl (fun K hK => ?_); go_big_quiet_op; (first | (refine hK _ ?_; clear hK K) | (refine ⟨_, fun _ _ => rfl, ?_⟩; refine hK _ ?_; clear hK K) | (refine ⟨_, fun w_ h_ => (by simp [go_sem, hc5 w_ h_, hca w_ h_, hcb w_ h_]; rfl), ?_⟩; refine hK _ ?_; clear hK K))) | (refine Mix.mix_pure_want rfl rfl (fun K hK => ?_); go_big_quiet_op; (first | (refine hK _ ?_; clear hK K) | (refine ⟨_, fun _ _ => rfl, ?_⟩; refine hK _ ?_; clear hK K) | (refine ⟨_, fun w_ h_ => (by simp [go_sem, hc5 w_ h_, hca w_ h_, hcb w_ h_]; rfl), ?_⟩; refine hK _ ?_; clear hK K))) | (refine Mix.mix_free_want rfl rfl (fun K hK => ?_); go_big_quiet_op; (first | (refine hK _ ?_; clear hK K) | (refine ⟨_, fun _ _ => rfl, ?_⟩; refine hK _ ?_; clear hK K) | (refine ⟨_, fun w_ h_ => (by simp [go_sem, hc5 w_ h_, hca w_ h_, hcb w_ h_]; rfl), ?_⟩; refine hK _ ?_; clear hK K))) | refine Mix.mix_skip rfl rfl (by decide) ?_)
              refine Mix.mix_keep rfl rfl (fun K hK => ?_)
              go_wp2_with (go_at_call 15; refine (t_number9 b hb7 _).mono ?_; rintro e w4 ⟨rfl, hk4⟩; have HK4 := Lib.hid (HK3.out.trans hk4); clear hk4)
              refine ⟨HK4.out, ?_⟩
              repeat (first | (refine Mix.mix_pure rfl rfl (fun K hK => ?_); go_big_quiet_op; (first | (refine hK _ ?_; clear hK K) | (refine ⟨_, fun _ _ => rfl, ?_⟩; refine hK _ ?_; clear hK K) | (refine ⟨_, fun w_ h_ => (by simp [go_sem, hc5 w_ h_, hca w_ h_, hcb w_ h_]; rfl), ?_⟩; refine hK _ ?_; clear hK K))) | (refine Mix.mix_free rfl rfl (fun K hK => ?_); go_big_quiet_op; (first | (refine hK _ ?_; clear hK K) | (refine ⟨_, fun _ _ => rfl, ?_⟩; refine hK _ ?_; clear hK K) | (refine ⟨_, fun w_ h_ => (by simp [go_sem, hc5 w_ h_, hca w_ h_, hcb w_ h_]; rfl), ?_⟩; refine hK _ ?_; clear hK K))) | (refine Mix.mix_pure_want rfl rfl (fun K hK => ?_); go_big_quiet_op; (first | (refine hK _ ?_; clear hK K) | (refine ⟨_, fun _ _ => rfl, ?_⟩; refine hK _ ?_; clear hK K) | (refine ⟨_, fun w_ h_ => (by simp [go_sem, hc5 w_ h_, hca w_ h_, hcb w_ h_]; rfl), ?_⟩; refine hK _ ?_; clear hK K))) | (refine Mix.mix_free_want rfl rfl (fun K hK => ?_); go_big_quiet_op; (first | (refine hK _ ?_; clear hK K) | (refine ⟨_, fun _ _ => rfl, ?_⟩; refine hK _ ?_; clear hK K) | (refine ⟨_, fun w_ h_ => (by simp [go_sem, hc5 w_ h_, hca w_ h_, hcb w_ h_]; rfl), ?_⟩; refine hK _ ?_; clear hK K))) | refine Mix.mix_skip rfl rfl (by decide) ?_)
              repeat (first | (refine Mix.mix_pure rfl rfl (fun K hK => ?_); go_big_quiet_op; refine hK _ ?_; clear hK K) | (refine Mix.mix_free rfl rfl (fun K hK => ?_); go_big_quiet_op; refine hK _ ?_; clear hK K) | (refine Mix.mix_pure_want rfl rfl (fun K hK => ?_); go_big_quiet_op; refine hK _ ?_; clear hK K) | (refine Mix.mix_free_want rfl rfl (fun K hK => ?_); go_big_quiet_op; refine hK _ ?_; clear hK K) | refine Mix.mix_skip rfl rfl (by decide) ?_)
              refine Mix.mix_nil ?_
              go_wp2
              go_ret
              refine ⟨?_, HK0.out.trans (HK1.out.trans HK4.out)⟩
              obtain ⟨L1, L2, L3, L4, L5, L6, L7⟩ := HL.out
              simp only [L1, L2, L3, L4, L5, L6, L7, bs_app]
              simp [secT, midT, partsT, fieldsP, preT, sufT, HLL.out, HPR.out]
        · have hpb : (part == []) = false := by rw [beq_eq_false_iff_ne]; exact hpe
          have hpn : 0 < part.length := by cases part with | nil => exact absurd rfl hpe | cons x y => simp
          by_cases hfe : fs = []
          · subst hfe
            rcases o with _ | ⟨a, b⟩
            · have e0 : (partI none).length = 0 := rfl
              rw [e0] at b5
              have hjp : joinB 46 (path.map dig ++ [part]) = if path.length = 0 then part else joinB 46 (path.map dig) ++ 46 :: part := by
                split
                · rename_i h
                  rw [List.eq_nil_of_length_eq_zero h]
                  rfl
                · rename_i h
                  exact joinB_snoc 46 part _ (by intro h2; have h3 := congrArg List.length h2; rw [List.length_map, List.length_nil] at h3; omega)
              have HJP := Lib.hid hjp
              clear hjp
              rcases hpl0 with hp0 | hp0
              all_goals
                go_wp2
                go_ret
                refine ⟨?_, HK0.out.trans (HK1.out)⟩
                obtain ⟨L1, L2, L3, L4, L5, L6, L7⟩ := HL.out
                have hjp := HJP.out
                (first | rw [if_pos hp0] at hjp | rw [if_neg (by omega)] at hjp)
                have hjn : path.length = 0 → joinB 46 (path.map dig) = [] := fun h => by rw [List.eq_nil_of_length_eq_zero h]; rfl
                (try rw [hjn hp0] at HLL)
                simp only [L1, L2, L3, L4, L5, L6, L7, bs_app]
                simp [secT, midT, partsT, fieldsP, preT, sufT, HLL.out, HPR.out, hpe, hjp]
            · have e0 : (partI (some (a, b))).length = 2 := rfl
              have h5 := H5.out
              rw [e0] at b5 h5
              obtain ⟨bb, ob, rfl, hbb, hcc⟩ := h5.2 (by decide)
              obtain ⟨ha7, hb7⟩ := HR.out.oo a b rfl
              have hk0 := HK0.out.trans HK1.out
              have hc5 : ∀ w', Keep (fun _ => False) wr w' → w'.cell? ⟨w.heap.size, 5, none⟩ = some (.slice (some ⟨bb, ob, none⟩) 2 c5) := fun w' hk => ((HB1.out.keep hk id).cell 5).trans rfl
              have hca : ∀ w', Keep (fun _ => False) wr w' → w'.cell? ⟨bb, ob, none⟩ = some (.int .i64 a) := fun w' hk => (World.cell?_of_block (a := ⟨bb, ob, none⟩) ((hk0.trans hk).block bb hbb id)).trans (hcc 0 (by decide))
              have hcb : ∀ w', Keep (fun _ => False) wr w' → w'.cell? ⟨bb, ob + 1, none⟩ = some (.int .i64 b) := fun w' hk => (World.cell?_of_block (a := ⟨bb, ob + 1, none⟩) ((hk0.trans hk).block bb hbb id)).trans (hcc 1 (by decide))
              have hda := dig_len7 a ha7
              have hdb := dig_len7 b hb7
              clear hcc h5 hk0
              have hjp : joinB 46 (path.map dig ++ [part]) = if path.length = 0 then part else joinB 46 (path.map dig) ++ 46 :: part := by
                split
                · rename_i h
                  rw [List.eq_nil_of_length_eq_zero h]
                  rfl
                · rename_i h
                  exact joinB_snoc 46 part _ (by intro h2; have h3 := congrArg List.length h2; rw [List.length_map, List.length_nil] at h3; omega)
              have HJP := Lib.hid hjp
              clear hjp
              rcases hpl0 with hp0 | hp0
              all_goals
                go_wp2
                refine Mix.wp_region_mixc [(0, 0), (1, 0), (2, 0), (3, 0), (4, 0), (8, 0), (9, 0), (10, 0), (11, 0), (5, 1), (6, 0), (7, 0), (12, 1), (13, 0), (14, 0), (15, 3), (16, 3)] (Keep (fun _ => False) wr) (by kernel_rfl) (by kernel_rfl) (fun _ _ _ _ h => h) ?_ ?_
                focus exact (Keep.refl (fun _ => False) wr).drew
                repeat (first | (refine Mix.mix_pure rfl rfl (fun K hK => ?_); go_big_quiet_op; (first | (refine hK _ ?_; clear hK K) | (refine ⟨_, fun _ _ => rfl, ?_⟩; refine hK _ ?_; clear hK K) | (refine ⟨_, fun w_ h_ => (by simp [go_sem, hc5 w_ h_, hca w_ h_, hcb w_ h_]; rfl), ?_⟩; refine hK _ ?_; clear hK K))) | (refine Mix.mix_free rfl rfl (fun K hK => ?_); go_big_quiet_op; (first | (refine hK _ ?_; clear hK K) | (refine ⟨_, fun _ _ => rfl, ?_⟩; refine hK _ ?_; clear hK K) | (refine ⟨_, fun w_ h_ => (by simp [go_sem, hc5 w_ h_, hca w_ h_, hcb w_ h_]; rfl), ?_⟩; refine hK _ ?_; clear hK K))) | (refine Mix.mix_pure_want rfl rfl (fun K hK => ?_); go_big_quiet_op; (first | (refine hK _ ?_; clear hK K) | (refine ⟨_, fun _ _ => rfl, ?_⟩; refine hK _ ?_; clear hK K) | (refine ⟨_, fun w_ h_ => (by simp [go_sem, hc5 w_ h_, hca w_ h_, hcb w_ h_]; rfl), ?_⟩; refine hK _ ?_; clear hK K))) | (refine Mix.mix_free_want rfl rfl (fun K hK => ?_); go_big_quiet_op; (first | (refine hK _ ?_; clear hK K) | (refine ⟨_, fun _ _ => rfl, ?_⟩; refine hK _ ?_; clear hK K) | (refine ⟨_, fun w_ h_ => (by simp [go_sem, hc5 w_ h_, hca w_ h_, hcb w_ h_]; rfl), ?_⟩; refine hK _ ?_; clear hK K))) | refine Mix.mix_skip rfl rfl (by decide) ?_)
                refine Mix.mix_keep rfl rfl (fun K hK => ?_)
                go_wp2_with (go_at_call 15; refine (t_number9 a ha7 _).mono ?_; rintro e w3 ⟨rfl, hk3⟩; have HK3 := Lib.hid ((Keep.refl (fun _ => False) wr).drew.trans hk3); clear hk3)
                refine ⟨HK3.out, ?_⟩
                repeat (first | (refine Mix.mix_pure rfl rfl (fun K hK => ?_); go_big_quiet_op; (first | (refine hK _ ?_; clear hK K) | (refine ⟨_, fun _ _ => rfl, ?_⟩; refine hK _ ?_; clear hK K) | (refine ⟨_, fun w_ h_ => (by simp [go_sem, hc5 w_ h_, hca w_ h_, hcb w_ h_]; rfl), ?_⟩; refine hK _ ?_; clear hK K))) | (refine Mix.mix_free rfl rfl (fun K hK => ?_); go_big_quiet_op; (first | (refine hK _ ?_; clear hK K) | (refine ⟨_, fun _ _ => rfl, ?_⟩; refine hK _ ?_; clear hK K) | (refine ⟨_, fun w_ h_ => (by simp [go_sem, hc5 w_ h_, hca w_ h_, hcb w_ h_]; rfl), ?_⟩; refine hK _ ?_; clear hK K))) | (refine Mix.mix_pure_want rfl rfl (fun K hK => ?_); go_big_quiet_op; (first | (refine hK _ ?_; clear hK K) | (refine ⟨_, fun _ _ => rfl, ?_⟩; refine hK _ ?_; clear hK K) | (refine ⟨_, fun w_ h_ => (by simp [go_sem, hc5 w_ h_, hca w_ h_, hcb w_ h_]; rfl), ?_⟩; refine hK _ ?_; clear hK K))) | (refine Mix.mix_free_want rfl rfl (fun K hK => ?_); go_big_quiet_op; (first | (refine hK _ ?_; clear hK K) | (refine ⟨_, fun _ _ => rfl, ?_⟩; refine hK _ ?_; clear hK K) | (refine ⟨_, fun w_ h_ => (by simp [go_sem, hc5 w_ h_, hca w_ h_, hcb w_ h_]; rfl), ?_⟩; refine hK _ ?_; clear hK K))) | refine Mix.mix_skip rfl rfl (by decide) ?_)
                refine Mix.mix_keep rfl rfl (fun K hK => ?_)
                go_wp2_with (go_at_call 15; refine (t_number9 b hb7 _).mono ?_; rintro e w4 ⟨rfl, hk4⟩; have HK4 := Lib.hid (HK3.out.trans hk4); clear hk4)
                refine ⟨HK4.out, ?_⟩
                repeat (first | (refine Mix.mix_pure rfl rfl (fun K hK => ?_); go_big_quiet_op; (first | (refine hK _ ?_; clear hK K) | (refine ⟨_, fun _ _ => rfl, ?_⟩; refine hK _ ?_; clear hK K) | (refine ⟨_, fun w_ h_ => (by simp [go_sem, hc5 w_ h_, hca w_ h_, hcb w_ h_]; rfl), ?_⟩; refine hK _ ?_; clear hK K))) | (refine Mix.mix_free rfl rfl (fun K hK => ?_); go_big_quiet_op; (first | (refine hK _ ?_; clear hK K) | (refine ⟨_, fun _ _ => rfl, ?_⟩; refine hK _ ?_; clear hK K) | (refine ⟨_, fun w_ h_ => (by simp [go_sem, hc5 w_ h_, hca w_ h_, hcb w_ h_]; rfl), ?_⟩; refine hK _ ?_; clear hK K))) | (refine Mix.mix_pure_want rfl rfl (fun K hK => ?_); go_big_quiet_op; (first | (refine hK _ ?_; clear hK K) | (refine ⟨_, fun _ _ => rfl, ?_⟩; refine hK _ ?_; clear hK K) | (refine ⟨_, fun w_ h_ => (by simp [go_sem, hc5 w_ h_, hca w_ h_, hcb w_ h_]; rfl), ?_⟩; refine hK _ ?_; clear hK K))) | (refine Mix.mix_free_want rfl rfl (fun K hK => ?_); go_big_quiet_op; (first | (refine hK _ ?_; clear hK K) | (refine ⟨_, fun _ _ => rfl, ?_⟩; refine hK _ ?_; clear hK K) | (refine ⟨_, fun w_ h_ => (by simp [go_sem, hc5 w_ h_, hca w_ h_, hcb w_ h_]; rfl), ?_⟩; refine hK _ ?_; clear hK K))) | refine Mix.mix_skip rfl rfl (by decide) ?_)
                repeat (first | (refine Mix.mix_pure rfl rfl (fun K hK => ?_); go_big_quiet_op; refine hK _ ?_; clear hK K) | (refine Mix.mix_free rfl rfl (fun K hK => ?_); go_big_quiet_op; refine hK _ ?_; clear hK K) | (refine Mix.mix_pure_want rfl rfl (fun K hK => ?_); go_big_quiet_op; refine hK _ ?_; clear hK K) | (refine Mix.mix_free_want rfl rfl (fun K hK => ?_); go_big_quiet_op; refine hK _ ?_; clear hK K) | refine Mix.mix_skip rfl rfl (by decide) ?_)
                refine Mix.mix_nil ?_
                go_wp2
                go_ret
                refine ⟨?_, HK0.out.trans (HK1.out.trans HK4.out)⟩
                obtain ⟨L1, L2, L3, L4, L5, L6, L7⟩ := HL.out
                have hjp := HJP.out
                (first | rw [if_pos hp0] at hjp | rw [if_neg (by omega)] at hjp)
                have hjn : path.length = 0 → joinB 46 (path.map dig) = [] := fun h => by rw [List.eq_nil_of_length_eq_zero h]; rfl
                (try rw [hjn hp0] at HLL)
                simp only [L1, L2, L3, L4, L5, L6, L7, bs_app]
                simp [secT, midT, partsT, fieldsP, preT, sufT, HLL.out, HPR.out, hpe, hjp]
          · have hph : part = cHEADER := HR.out.fp hfe
            subst hph
            have hfl0 : 0 < fs.length := by cases fs with | nil => exact absurd rfl hfe | cons x y => simp
            obtain ⟨wa, hwa⟩ : ∃ wa, wa = wr := ⟨_, rfl⟩
            subst hwa
            have h2r := H2.out.keep (HK0.out.trans HK1.out) (Nat.le_refl _) (fun _ _ => id)
            obtain ⟨fb, fo, rfl, hfb, hfc⟩ := h2r.2 hfl0
            have hfb2 : fb < wa.heap.size := Nat.lt_of_lt_of_le hfb (HK0.out.trans HK1.out).size
            have HFC := Lib.hid hfc
            have hml := midH_len path NT hpl (fun p hp => (HR.out.ph p hp).2)
            have HFE := Lib.hid hfe
            clear hfc h2r hfe
            have hch : cHEADER.length = 6 := rfl
            rcases hpl0 with hp0 | hp0
            all_goals
              cases nt
              all_goals
                go_wp2
                go_loopg [3, 61] fs.length (fun k v3 v wr => ∃ i l2, v = .int .i64 (i : Nat) ∧ i + k = fs.length ∧ v3 = .string (bs l2) ∧ l2 = PR ++ 91 :: (midH path NT ++ 32 :: 40 :: joinB 32 (fs.take i)) ∧ Keep (fun _ => False) wa wr)
                case atStart =>
                  obtain ⟨L1, L2, L3, L4, L5, L6, L7⟩ := HL.out
                  obtain ⟨M1, M2, M3, M4, M5⟩ := HM.out
                  refine ⟨0, PR ++ 91 :: (midH path NT ++ 32 :: 40 :: []), rfl, by omega, ?_, by simp [joinB], Keep.refl _ _⟩
                  have hjn : path.length = 0 → joinB 46 (path.map dig) = [] := fun h => by rw [List.eq_nil_of_length_eq_zero h]; rfl
                  simp only [L1, L2, L3, L4, L5, L6, L7, M1, M2, M3, M4, M5, bs_app]
                  (first
                    | rw [midH_nil path NT hp0, HLL.out, HNT.out, hjn hp0]
                    | rw [midH_pos path NT hp0, HLL.out, HNT.out])
                  simp
                case round =>
                  obtain ⟨i, l2, rfl, hik, rfl, hl2, hk2⟩ := hrel
                  have hb2 := HB1.out.keep hk2 id
                  have d2 : wr.cell? ⟨w.heap.size, 2, none⟩ = some (.slice (some ⟨fb, fo, none⟩) fs.length c2) := (hb2.cell 2).trans rfl
                  have d5 : wr.cell? ⟨w.heap.size, 5, none⟩ = some (.slice a5 (partI o).length c5) := (hb2.cell 5).trans rfl
                  have hjl := joinB_len 32 40 (fs.take i) (fun x hx => HR.out.f40 x (List.mem_of_mem_take hx))
                  have hll2 : l2.length ≤ 420 := by
                    rw [hl2]
                    simp only [List.length_take, List.length_append, List.length_cons] at hjl ⊢
                    have : min i fs.length ≤ 8 := by omega
                    have : min i fs.length * (40 + 1) ≤ 8 * (40 + 1) := Nat.mul_le_mul_right _ this
                    omega
                  have HLL2 := Lib.hid hl2
                  have HB2 := Lib.hid hb2
                  have HK2 := Lib.hid hk2
                  clear hl2 hb2 hk2 hjl
                  by_cases hlt : i < fs.length
                  · obtain ⟨f, hf⟩ : ∃ f, f = fs.getD i [] := ⟨_, rfl⟩
                    have hc3 : wr.cell? ⟨fb, fo + i, none⟩ = some (.string (bs f)) := by
                      rw [World.cell?_of_block (a := ⟨fb, fo + i, none⟩) (HK2.out.block fb hfb2 id), HFC.out i hlt, hf]
                      simp [List.getD, hlt, strV]
                    have hf40 : f.length ≤ 40 := by rw [hf]; exact HR.out.f40 _ (by simp [List.getD, hlt])
                    have HF := Lib.hid hf
                    clear hf
                    have hcase : i = 0 ∨ 0 < i := by omega
                    rcases hcase with rfl | hi0
                    · rw [Nat.add_zero] at hc3
                      go_wp2
                      go_roundg (gk - 1)
                      case measure => omega
                      case rel =>
                        refine ⟨1, l2 ++ f, rfl, by omega, by rw [bs_app], ?_, HK2.out⟩
                        rw [HLL2.out, HF.out]
                        cases fs with
                        | nil => cases hlt
                        | cons y ys => simp [joinB]
                    · go_wp2
                      go_roundg (gk - 1)
                      case measure => omega
                      case rel =>
                        obtain ⟨M1, M2, M3, M4, M5⟩ := HM.out
                        refine ⟨i + 1, l2 ++ [32] ++ f, rfl, by omega, by simp only [M5, bs_app], ?_, HK2.out⟩
                        rw [HLL2.out, show fs.take (i + 1) = fs.take i ++ [f] from by rw [HF.out, List.take_add_one]; simp [List.getD, hlt], joinB_snoc 32 f _ (by intro h; have h2 := congrArg List.length h; rw [List.length_take, List.length_nil] at h2; omega)]
                        simp
                  · have hi : i = fs.length := by omega
                    subst hi
                    rw [List.take_length] at HLL2
                    rcases o with _ | ⟨a, b⟩
                    · have e0 : (partI none).length = 0 := rfl
                      rw [e0] at d5
                      go_wp2
                      go_ret
                      refine ⟨?_, HK0.out.trans (HK1.out.trans HK2.out)⟩
                      obtain ⟨L1, L2, L3, L4, L5, L6, L7⟩ := HL.out
                      obtain ⟨M1, M2, M3, M4, M5⟩ := HM.out
                      simp only [L1, L2, L3, L4, L5, L6, L7, M1, M2, M3, M4, M5, bs_app]
                      rw [secT_fields _ _ _ _ _ HFE.out, HLL2.out, HNT.out, HPR.out]
                      simp [sufT]
                    · have e0 : (partI (some (a, b))).length = 2 := rfl
                      have h5 := H5.out
                      rw [e0] at d5 h5
                      obtain ⟨bb, ob, rfl, hbb, hcc⟩ := h5.2 (by decide)
                      obtain ⟨ha7, hb7⟩ := HR.out.oo a b rfl
                      have hk0 := HK0.out.trans (HK1.out.trans HK2.out)
                      have hc5 : ∀ w', Keep (fun _ => False) wr w' → w'.cell? ⟨w.heap.size, 5, none⟩ = some (.slice (some ⟨bb, ob, none⟩) 2 c5) := fun w' hk => ((HB2.out.keep hk id).cell 5).trans rfl
                      have hca : ∀ w', Keep (fun _ => False) wr w' → w'.cell? ⟨bb, ob, none⟩ = some (.int .i64 a) := fun w' hk => (World.cell?_of_block (a := ⟨bb, ob, none⟩) ((hk0.trans hk).block bb hbb id)).trans (hcc 0 (by decide))
                      have hcb : ∀ w', Keep (fun _ => False) wr w' → w'.cell? ⟨bb, ob + 1, none⟩ = some (.int .i64 b) := fun w' hk => (World.cell?_of_block (a := ⟨bb, ob + 1, none⟩) ((hk0.trans hk).block bb hbb id)).trans (hcc 1 (by decide))
                      have hda := dig_len7 a ha7
                      have hdb := dig_len7 b hb7
                      clear hcc h5 hk0
                      go_wp2
                      refine Mix.wp_region_mixc [(0, 0), (1, 0), (2, 0), (3, 0), (4, 0), (8, 0), (9, 0), (10, 0), (11, 0), (5, 1), (6, 0), (7, 0), (12, 1), (13, 0), (14, 0), (15, 3), (16, 3)] (Keep (fun _ => False) wr) (by kernel_rfl) (by kernel_rfl) (fun _ _ _ _ h => h) ?_ ?_
                      focus exact (Keep.refl (fun _ => False) wr).drew
                      repeat (first | (refine Mix.mix_pure rfl rfl (fun K hK => ?_); go_big_quiet_op; (first | (refine hK _ ?_; clear hK K) | (refine ⟨_, fun _ _ => rfl, ?_⟩; refine hK _ ?_; clear hK K) | (refine ⟨_, fun w_ h_ => (by simp [go_sem, hc5 w_ h_, hca w_ h_, hcb w_ h_]; rfl), ?_⟩; refine hK _ ?_; clear hK K))) | (refine Mix.mix_free rfl rfl (fun K hK => ?_); go_big_quiet_op; (first | (refine hK _ ?_; clear hK K) | (refine ⟨_, fun _ _ => rfl, ?_⟩; refine hK _ ?_; clear hK K) | (refine ⟨_, fun w_ h_ => (by simp [go_sem, hc5 w_ h_, hca w_ h_, hcb w_ h_]; rfl), ?_⟩; refine hK _ ?_; clear hK K))) | (refine Mix.mix_pure_want rfl rfl (fun K hK => ?_); go_big_quiet_op; (first | (refine hK _ ?_; clear hK K) | (refine ⟨_, fun _ _ => rfl, ?_⟩; refine hK _ ?_; clear hK K) | (refine ⟨_, fun w_ h_ => (by simp [go_sem, hc5 w_ h_, hca w_ h_, hcb w_ h_]; rfl), ?_⟩; refine hK _ ?_; clear hK K))) | (refine Mix.mix_free_want rfl rfl (fun K hK => ?_); go_big_quiet_op; (first | (refine hK _ ?_; clear hK K) | (refine ⟨_, fun _ _ => rfl, ?_⟩; refine hK _ ?_; clear hK K) | (refine ⟨_, fun w_ h_ => (by simp [go_sem, hc5 w_ h_, hca w_ h_, hcb w_ h_]; rfl), ?_⟩; refine hK _ ?_; clear hK K))) | refine Mix.mix_skip rfl rfl (by decide) ?_)
                      refine Mix.mix_keep rfl rfl (fun K hK => ?_)
                      go_wp2_with (go_at_call 15; refine (t_number9 a ha7 _).mono ?_; rintro e w3 ⟨rfl, hk3⟩; have HK3 := Lib.hid ((Keep.refl (fun _ => False) wr).drew.trans hk3); clear hk3)
                      refine ⟨HK3.out, ?_⟩
                      repeat (first | (refine Mix.mix_pure rfl rfl (fun K hK => ?_); go_big_quiet_op; (first | (refine hK _ ?_; clear hK K) | (refine ⟨_, fun _ _ => rfl, ?_⟩; refine hK _ ?_; clear hK K) | (refine ⟨_, fun w_ h_ => (by simp [go_sem, hc5 w_ h_, hca w_ h_, hcb w_ h_]; rfl), ?_⟩; refine hK _ ?_; clear hK K))) | (refine Mix.mix_free rfl rfl (fun K hK => ?_); go_big_quiet_op; (first | (refine hK _ ?_; clear hK K) | (refine ⟨_, fun _ _ => rfl, ?_⟩; refine hK _ ?_; clear hK K) | (refine ⟨_, fun w_ h_ => (by simp [go_sem, hc5 w_ h_, hca w_ h_, hcb w_ h_]; rfl), ?_⟩; refine hK _ ?_; clear hK K))) | (refine Mix.mix_pure_want rfl rfl (fun K hK => ?_); go_big_quiet_op; (first | (refine hK _ ?_; clear hK K) | (refine ⟨_, fun _ _ => rfl, ?_⟩; refine hK _ ?_; clear hK K) | (refine ⟨_, fun w_ h_ => (by simp [go_sem, hc5 w_ h_, hca w_ h_, hcb w_ h_]; rfl), ?_⟩; refine hK _ ?_; clear hK K))) | (refine Mix.mix_free_want rfl rfl (fun K hK => ?_); go_big_quiet_op; (first | (refine hK _ ?_; clear hK K) | (refine ⟨_, fun _ _ => rfl, ?_⟩; refine hK _ ?_; clear hK K) | (refine ⟨_, fun w_ h_ => (by simp [go_sem, hc5 w_ h_, hca w_ h_, hcb w_ h_]; rfl), ?_⟩; refine hK _ ?_; clear hK K))) | refine Mix.mix_skip rfl rfl (by decide) ?_)
                      refine Mix.mix_keep rfl rfl (fun K hK => ?_)
                      go_wp2_with (go_at_call 15; refine (t_number9 b hb7 _).mono ?_; rintro e w4 ⟨rfl, hk4⟩; have HK4 := Lib.hid (HK3.out.trans hk4); clear hk4)
                      refine ⟨HK4.out, ?_⟩
                      repeat (first | (refine Mix.mix_pure rfl rfl (fun K hK => ?_); go_big_quiet_op; (first | (refine hK _ ?_; clear hK K) | (refine ⟨_, fun _ _ => rfl, ?_⟩; refine hK _ ?_; clear hK K) | (refine ⟨_, fun w_ h_ => (by simp [go_sem, hc5 w_ h_, hca w_ h_, hcb w_ h_]; rfl), ?_⟩; refine hK _ ?_; clear hK K))) | (refine Mix.mix_free rfl rfl (fun K hK => ?_); go_big_quiet_op; (first | (refine hK _ ?_; clear hK K) | (refine ⟨_, fun _ _ => rfl, ?_⟩; refine hK _ ?_; clear hK K) | (refine ⟨_, fun w_ h_ => (by simp [go_sem, hc5 w_ h_, hca w_ h_, hcb w_ h_]; rfl), ?_⟩; refine hK _ ?_; clear hK K))) | (refine Mix.mix_pure_want rfl rfl (fun K hK => ?_); go_big_quiet_op; (first | (refine hK _ ?_; clear hK K) | (refine ⟨_, fun _ _ => rfl, ?_⟩; refine hK _ ?_; clear hK K) | (refine ⟨_, fun w_ h_ => (by simp [go_sem, hc5 w_ h_, hca w_ h_, hcb w_ h_]; rfl), ?_⟩; refine hK _ ?_; clear hK K))) | (refine Mix.mix_free_want rfl rfl (fun K hK => ?_); go_big_quiet_op; (first | (refine hK _ ?_; clear hK K) | (refine ⟨_, fun _ _ => rfl, ?_⟩; refine hK _ ?_; clear hK K) | (refine ⟨_, fun w_ h_ => (by simp [go_sem, hc5 w_ h_, hca w_ h_, hcb w_ h_]; rfl), ?_⟩; refine hK _ ?_; clear hK K))) | refine Mix.mix_skip rfl rfl (by decide) ?_)
                      repeat (first | (refine Mix.mix_pure rfl rfl (fun K hK => ?_); go_big_quiet_op; refine hK _ ?_; clear hK K) | (refine Mix.mix_free rfl rfl (fun K hK => ?_); go_big_quiet_op; refine hK _ ?_; clear hK K) | (refine Mix.mix_pure_want rfl rfl (fun K hK => ?_); go_big_quiet_op; refine hK _ ?_; clear hK K) | (refine Mix.mix_free_want rfl rfl (fun K hK => ?_); go_big_quiet_op; refine hK _ ?_; clear hK K) | refine Mix.mix_skip rfl rfl (by decide) ?_)
                      refine Mix.mix_nil ?_
                      go_wp2
                      go_ret
                      refine ⟨?_, HK0.out.trans (HK1.out.trans (HK2.out.trans HK4.out))⟩
                      obtain ⟨L1, L2, L3, L4, L5, L6, L7⟩ := HL.out
                      obtain ⟨M1, M2, M3, M4, M5⟩ := HM.out
                      simp only [L1, L2, L3, L4, L5, L6, L7, M1, M2, M3, M4, M5, bs_app]
                      rw [secT_fields _ _ _ _ _ HFE.out, HLL2.out, HNT.out, HPR.out]
                      simp [sufT]
end Go.Proofs.YtanombfdfpfcoaaGreatDoor
