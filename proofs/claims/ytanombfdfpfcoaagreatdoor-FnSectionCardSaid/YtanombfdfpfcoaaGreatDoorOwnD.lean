/- How a section is read and written, for the proof of FnSection, at right sections. -/
import Derived.Test.YtanombfdfpfcoaaGreatDoorOwnA
import Derived.Test.YtanombfdfpfcoaaGreatDoorProg
import Derived.Tactics
import Derived.Tactics2
import Derived.Defers
import Derived.Recover
import Derived.Laws.Pointers
import Derived.Lib.Hide
import Derived.WalkKit
import Derived.Test.YtanombfdfpfcoaaGreatDoorOwnC
import Derived.Test.YtanombfdfpfcoaaGreatDoorShelf
import Derived.Lib.ItoaMem
import Derived.Lib.AppendIntMem
namespace Go.Proofs.YtanombfdfpfcoaaGreatDoor
set_option linter.unusedVariables false
set_option linter.unusedSimpArgs false
open Go.RowKit

theorem t_idle (p : Addr) (w : World) :
    CallsD Tryz.prog 21 #[.pointer (some p)] .returning w fun e u' w' => e = .returned (.tuple #[]) ∧ u' = .returning ∧ w' = w := by
  refine callsD_of_wpS Tryz.func21 rfl fun c₀ cs hu => ?_
  apply wpS_seq
  apply wpS_region
  simp [wpOpsS, go_sem, recoverD, hu, Tryz.ntmps21, Exit.thenS]
  refine wpS_cond (t := false) (by simp [Act.eval, Array.replicate]) ?_
  simp only [Bool.false_eq_true, if_false]
  refine wpS_of_wp (wp_skip ?_)
  cases c₀
  simp_all [bodyPostS, results, Tryz.results21]

set_option maxRecDepth 100000 in
theorem t_tried (w : World) (fn : Nat) (cap : Array Value) (M : Nat → Prop) (R : World → Prop) (hM : ∀ k, M k → k < w.heap.size) (hcf : ∀ w, (callFunc fn cap).run Tryz.prog w = .ok (.enter fn cap) w)
    (hC : Calls Tryz.prog fn cap (w.alloc (.cells #[.bool false] 4)) fun e w' => e = .returned (.tuple #[]) ∧ R w' ∧ Keep M (w.alloc (.cells #[.bool false] 4)) w') :
    Calls Tryz.prog 16 #[.func (.func fn) #[] cap] w fun e w' => e = .returned (.bool true) ∧ ∃ w1, R w1 ∧ Keep M (w.alloc (.cells #[.bool false] 4)) w1 ∧ w' = w1.setCell ⟨w.heap.size, 0, none⟩ (.bool true) := by
  have hmf : ∀ (fn : Fn) (first cap : Array Value) (w : World), (Instr.makeFunc fn first cap).run Tryz.prog w = .ok (.func fn first cap) w := fun _ _ _ _ => rfl
  go_enter_defers Tryz.func16, Tryz.ntmps16
  have HC := Lib.hid hC
  have HM := Lib.hid hM
  clear hC hM
  go_wp2_with ((with_reducible refine HC.out.mono ?_); rintro e w1 ⟨rfl, hR, hk⟩; have hb := (Blk.new w #[.bool false] 4).keep hk (fun hm => Nat.lt_irrefl _ (HM.out _ hm)); have hc0 : w1.cell? ⟨w.heap.size, 0, none⟩ = some (.bool false) := (hb.cell 0).trans rfl; have hbf := hb.free; have HB := Lib.hid hb; have HR := Lib.hid (And.intro hR hk); clear hR hk hb)
  refine leaves_cons (f := 21) (args := #[.pointer (some ⟨w.heap.size, 0, none⟩)]) (by simp) (by simp [go_sem]) ?_
  refine (t_idle ⟨w.heap.size, 0, none⟩ _).mono ?_
  rintro e u' w'' ⟨rfl, rfl, rfl⟩
  have h9 : (w1.setCell ⟨w.heap.size, 0, none⟩ (.bool true)).cell? ⟨w.heap.size, 0, none⟩ = some (.bool true) := ((HB.out.set 0 (.bool true)).cell 0).trans rfl
  obtain ⟨hR1, hR2⟩ := HR.out
  have hin : ∃ w2, R w2 ∧ Keep M (w.alloc (.cells #[.bool false] 4)) w2 ∧ w1.setCell ⟨w.heap.size, 0, none⟩ (.bool true) = w2.setCell ⟨w.heap.size, 0, none⟩ (.bool true) := ⟨w1, hR1, hR2, rfl⟩
  have HIN := Lib.hid hin
  clear hin hR1 hR2
  generalize w1.setCell ⟨w.heap.size, 0, none⟩ (.bool true) = W at h9 HIN ⊢
  simp [Leaves, settle, results, Tryz.results16, go_sem, h9]
  exact HIN.out
end Go.Proofs.YtanombfdfpfcoaaGreatDoor

namespace Go.Proofs.YtanombfdfpfcoaaGreatDoor
set_option linter.unusedVariables false
set_option linter.unusedSimpArgs false
open Go.RowKit

theorem Blk.new' {w : World} {b : Nat} (h : w.heap.size = b) (cs : Array Value) (t : TypeId) : Blk (w.alloc (.cells cs t)) b cs t := by
  subst h
  exact Blk.new w cs t

set_option maxRecDepth 100000 in
theorem t_secof (w : World) (a0 a2 a5 : Option Addr) (n0 n2 n5 c0 c2 c5 : Nat) (part : ByteArray) (nt pk : Bool) (h5 : n5 ≤ 2) :
    Calls Tryz.prog 13 #[.agg #[.slice a0 n0 c0, .string part, .slice a2 n2 c2, .bool nt, .bool pk, .slice a5 n5 c5]] w fun e w' => ∃ q, e = .returned (.tuple #[.pointer (some ⟨q, 0, none⟩), .bool true]) ∧ w.heap.size ≤ q ∧
      Blk w' q #[.string part, .slice a0 n0 c0, .slice a2 n2 c2, .bool nt, .bool pk, .slice a5 n5 c5, .string ⟨#[]⟩] 53 ∧ Keep (fun _ => False) w w' := by
  have hn : ¬ 2 < n5 := by omega
  go_enter Tryz.func13, Tryz.ntmps13
  go_wp2
  go_ret2
  exact ⟨_, rfl, by simp, Blk.new' (by simp) _ _, ((Keep.refl _ w).alloc _).alloc _⟩
end Go.Proofs.YtanombfdfpfcoaaGreatDoor

namespace Go.Proofs.YtanombfdfpfcoaaGreatDoor
set_option linter.unusedVariables false
set_option linter.unusedSimpArgs false
open Go.RowKit

set_option maxRecDepth 100000 in
theorem t_pbsn (w : World) (peek : Bool) (mid : List UInt8) (path : List Nat) (part : List UInt8) (fs : List (List UInt8)) (nt : Bool) (M : MidOk mid path part fs nt) (o : Option (Nat × Nat)) (ho : ∀ a b, o = some (a, b) → a < 10000000 ∧ b < 10000000)
    (T : List UInt8) (hT : T = preT peek ++ 91 :: (mid ++ 93 :: sufT o)) :
    Calls Tryz.prog 18 #[.string (bs T)] w fun e w' => ∃ q, e = .returned (.tuple #[.pointer (some ⟨q, 0, none⟩), .nilIface]) ∧ w.heap.size ≤ q ∧
      ∃ pv fv tv, Blk w' q #[.string (bs part), pv, fv, .bool nt, .bool peek, tv, .string (bs T)] 53 ∧ w'.ownsRow w.heap.size 3 1 pv path.length (path.map nI) ∧
        w'.ownsRow w.heap.size 9 1 fv fs.length (fs.map strV) ∧ w'.ownsRow w.heap.size 3 1 tv (partI o).length ((partI o).map nI) ∧ Keep (fun _ => False) w w' := by
  have HO := Lib.hid ho
  have HT := Lib.hid hT
  clear ho hT
  go_enter Tryz.func18, Tryz.ntmps18
  go_wp2_with (go_at_call 22; refine (t_bsn _ w.heap.size (Blk.new w _ _) peek mid path part fs nt M o HO.out T HT.out).mono ?_; rintro e w1 ⟨rfl, pv, fv, tv, hq, hpv, hfv, htv, hk⟩; have HQ := Lib.hid hq; have HK := Lib.hid hk; have HPV := Lib.hid (And.intro hpv (And.intro hfv htv)); clear hq hk hpv hfv htv)
  go_ret2
  obtain ⟨hpv, hfv, htv⟩ := HPV.out
  have hs : w.heap.size ≤ (w.alloc (.cells #[.string ⟨#[]⟩, .slice none 0 0, .slice none 0 0, .bool false, .bool false, .slice none 0 0, .string ⟨#[]⟩] 53)).heap.size := by simp
  refine ⟨w.heap.size, rfl, Nat.le_refl _, pv, fv, tv, HQ.out, ownsRow_base hpv hs, ownsRow_base hfv hs, ownsRow_base htv hs, ?_⟩
  exact ((Keep.refl (fun _ => False) w).alloc _).trans' HK.out (fun i hi h => by subst h; exact absurd hi (Nat.lt_irrefl _))

set_option maxRecDepth 100000 in
theorem t_clos (w : World) (b1 b2 b3 : Nat) (peek : Bool) (mid : List UInt8) (path : List Nat) (part : List UInt8) (fs : List (List UInt8)) (nt : Bool) (M : MidOk mid path part fs nt) (o : Option (Nat × Nat)) (ho : ∀ a b, o = some (a, b) → a < 10000000 ∧ b < 10000000)
    (T : List UInt8) (hT : T = preT peek ++ 91 :: (mid ++ 93 :: sufT o)) (h1 : Blk w b1 #[.string (bs T)] 9) (h2 : Blk w b2 #[.pointer none] 37) (h3 : Blk w b3 #[.nilIface] 45) :
    Calls Tryz.prog 17 #[.pointer (some ⟨b1, 0, none⟩), .pointer (some ⟨b2, 0, none⟩), .pointer (some ⟨b3, 0, none⟩)] w fun e w' => e = .returned (.tuple #[]) ∧
      (∃ q, w.heap.size ≤ q ∧ Blk w' b2 #[.pointer (some ⟨q, 0, none⟩)] 37 ∧ Blk w' b3 #[.nilIface] 45 ∧
      ∃ pv fv tv, Blk w' q #[.string (bs part), pv, fv, .bool nt, .bool peek, tv, .string (bs T)] 53 ∧ w'.ownsRow w.heap.size 3 1 pv path.length (path.map nI) ∧
        w'.ownsRow w.heap.size 9 1 fv fs.length (fs.map strV) ∧ w'.ownsRow w.heap.size 3 1 tv (partI o).length ((partI o).map nI)) ∧ Keep (fun k => k = b2 ∨ k = b3) w w' := by
  have HO := Lib.hid ho
  have HT := Lib.hid hT
  have hc1 : w.cell? ⟨b1, 0, none⟩ = some (.string (bs T)) := (h1.cell 0).trans rfl
  have h23 := h2.ne h3 (by decide)
  have h2l := h2.lt
  have h3l := h3.lt
  have H2 := Lib.hid h2
  have H3 := Lib.hid h3
  clear ho hT h1 h2 h3
  go_enter Tryz.func17, Tryz.ntmps17
  go_wp2_with (go_at_call 18; refine (t_pbsn _ peek mid path part fs nt M o HO.out T HT.out).mono ?_; rintro e w1 ⟨q, rfl, hql, pv, fv, tv, hq, hpv, hfv, htv, hk⟩; have h2' := H2.out.keep hk id; have h3' := H3.out.keep hk id; have c2 : w1.cell? ⟨b2, 0, none⟩ = some (.pointer none) := (h2'.cell 0).trans rfl; have c3 : w1.cell? ⟨b3, 0, none⟩ = some .nilIface := (h3'.cell 0).trans rfl; have f2 := h2'.free; have f3 := h3'.free; have H2' := Lib.hid h2'; have H3' := Lib.hid h3'; have HQ := Lib.hid hq; have HK := Lib.hid hk; have HPV := Lib.hid (And.intro hpv (And.intro hfv htv)); clear hq hk hpv hfv htv h2' h3')
  go_end0
  obtain ⟨hpv, hfv, htv⟩ := HPV.out
  have hk2 : Keep (fun k => k = b2 ∨ k = b3) w1 ((w1.setCell ⟨b2, 0, none⟩ (.pointer (some ⟨q, 0, none⟩))).setCell ⟨b3, 0, none⟩ .nilIface) := ((Keep.refl _ w1).at (fun _ => .inl rfl) 0 _).at (fun _ => .inr rfl) 0 _
  have hfar : ∀ k, w.heap.size ≤ k → k < w1.heap.size → ¬ (k = b2 ∨ k = b3) := fun k h1 _ h => by rcases h with rfl | rfl <;> omega
  refine ⟨rfl, ⟨q, hql, ((H2'.out.set 0 (.pointer (some ⟨q, 0, none⟩))).far h23 _), (H3'.out.far (Ne.symm h23) _).set 0 .nilIface, pv, fv, tv, HQ.out.keep hk2 (hfar q hql HQ.out.lt), ownsRow_keep hpv hk2 hfar, ownsRow_keep hfv hk2 hfar, ownsRow_keep htv hk2 hfar⟩, (HK.out.mono (fun _ _ h => absurd h id)).trans hk2⟩

set_option maxRecDepth 100000 in
set_option maxHeartbeats 1000000 in
theorem t_sectionOf (w : World) (peek : Bool) (mid : List UInt8) (path : List Nat) (part : List UInt8) (fs : List (List UInt8)) (nt : Bool) (M : MidOk mid path part fs nt) (o : Option (Nat × Nat)) (ho : ∀ a b, o = some (a, b) → a < 10000000 ∧ b < 10000000)
    (T : List UInt8) (hT : T = preT peek ++ 91 :: (mid ++ 93 :: sufT o)) :
    Calls Tryz.prog 9 #[.string (bs T)] w fun e w' => ∃ pv fv tv, e = .returned (.tuple #[.agg #[pv, .string (bs part), fv, .bool nt, .bool peek, tv], .bool true]) ∧
      w'.ownsRow w.heap.size 3 1 pv path.length (path.map nI) ∧ w'.ownsRow w.heap.size 9 1 fv fs.length (fs.map strV) ∧ w'.ownsRow w.heap.size 3 1 tv (partI o).length ((partI o).map nI) ∧ Keep (fun _ => False) w w' := by
  have hmf : ∀ (fn : Fn) (first cap : Array Value) (w : World), (Instr.makeFunc fn first cap).run Tryz.prog w = .ok (.func fn first cap) w := fun _ _ _ _ => rfl
  have HO := Lib.hid ho
  have HT := Lib.hid hT
  clear ho hT
  go_enter Tryz.func9, Tryz.ntmps9
  go_wp2_with (fail)
  generalize hW4 : (((w.alloc _).alloc _).alloc _).alloc _ = W4
  have z1 := fun (w : World) (o : Obj) => (show (w.alloc o).heap.size = w.heap.size + 1 from by simp)
  have zW : W4.heap.size = w.heap.size + 1 + 1 + 1 + 1 := by rw [← hW4]; simp
  have hk4 : Keep (fun _ => False) w W4 := by rw [← hW4]; exact ((((Keep.refl _ w).alloc _).alloc _).alloc _).alloc _
  have h1 : Blk W4 w.heap.size #[.string (bs T)] 9 := by rw [← hW4]; exact ((((Blk.new w _ _).alloc _).alloc _).alloc _)
  have h0 : Blk W4 (w.heap.size + 1) #[.slice none 0 0, .string ⟨#[]⟩, .slice none 0 0, .bool false, .bool false, .slice none 0 0] 25 := by
    rw [← hW4]
    have h := Blk.new (w.alloc (.cells #[.string (bs T)] 9)) #[.slice none 0 0, .string ⟨#[]⟩, .slice none 0 0, .bool false, .bool false, .slice none 0 0] 25
    rw [z1] at h
    exact (h.alloc _).alloc _
  have h2 : Blk W4 (w.heap.size + 1 + 1) #[.pointer none] 37 := by
    rw [← hW4]
    have h := Blk.new ((w.alloc (.cells #[.string (bs T)] 9)).alloc (.cells #[.slice none 0 0, .string ⟨#[]⟩, .slice none 0 0, .bool false, .bool false, .slice none 0 0] 25)) #[.pointer none] 37
    rw [z1, z1] at h
    exact h.alloc _
  have h3 : Blk W4 (w.heap.size + 1 + 1 + 1) #[.nilIface] 45 := by
    rw [← hW4]
    have h := Blk.new (((w.alloc (.cells #[.string (bs T)] 9)).alloc (.cells #[.slice none 0 0, .string ⟨#[]⟩, .slice none 0 0, .bool false, .bool false, .slice none 0 0] 25)).alloc (.cells #[.pointer none] 37)) #[.nilIface] 45
    rw [z1, z1, z1] at h
    exact h
  clear hW4
  refine (t_tried W4 17 _ _ _ ?_ ?_ (t_clos _ _ _ _ peek mid path part fs nt M o HO.out T HT.out (h1.alloc _) (h2.alloc _) (h3.alloc _))).mono ?_
  · intro k hk
    rcases hk with rfl | rfl <;> omega
  · intro _
    kernel_rfl
  rintro e w' ⟨rfl, w1, ⟨q, hq0, hq2, hq3, pv, fv, tv, hqq, hpv, hfv, htv⟩, hk1, rfl⟩
  simp only [z1] at hq0
  generalize hW : w1.setCell ⟨W4.heap.size, 0, none⟩ (.bool true) = W
  have far : ∀ {b : Nat} {cs : Array Value} {t : TypeId}, b ≠ W4.heap.size → Blk w1 b cs t → Blk W b cs t := fun hb h => by rw [← hW]; exact h.far hb _
  have kW : Keep (· = W4.heap.size) w1 W := by rw [← hW]; exact (Keep.refl (· = W4.heap.size) w1).at (fun _ => rfl) 0 _
  have g2 := far (by omega) hq2
  have g3 := far (by omega) hq3
  have gq := far (by omega) hqq
  have h0a := h0.alloc (.cells #[.bool false] 4)
  have g0 := far (by omega) (h0a.keep hk1 (by omega))
  have kk : Keep (fun k => w.heap.size ≤ k) w W := (((hk4.mono (fun _ _ h => absurd h id)).alloc (.cells #[.bool false] 4)).trans (hk1.mono (fun i _ h => by rcases h with rfl | rfl <;> omega))).trans (kW.mono (fun i _ h => by subst h; omega))
  have c4 : W.cell? ⟨w.heap.size + 1 + 1, 0, none⟩ = some (.pointer (some ⟨q, 0, none⟩)) := (g2.cell 0).trans rfl
  have c5 : W.cell? ⟨w.heap.size + 1 + 1 + 1, 0, none⟩ = some .nilIface := (g3.cell 0).trans rfl
  have q0 : W.cell? ⟨q, 0, none⟩ = some (.string (bs part)) := (gq.cell 0).trans rfl
  have q1 : W.cell? ⟨q, 1, none⟩ = some pv := (gq.cell 1).trans rfl
  have q2 : W.cell? ⟨q, 2, none⟩ = some fv := (gq.cell 2).trans rfl
  have q3 : W.cell? ⟨q, 3, none⟩ = some (.bool nt) := (gq.cell 3).trans rfl
  have q4 : W.cell? ⟨q, 4, none⟩ = some (.bool peek) := (gq.cell 4).trans rfl
  have q5 : W.cell? ⟨q, 5, none⟩ = some tv := (gq.cell 5).trans rfl
  have fr := g0.free
  have r0 : W.cell? ⟨w.heap.size + 1, 0, none⟩ = some (.slice none 0 0) := (g0.cell 0).trans rfl
  have r1 : W.cell? ⟨w.heap.size + 1, 1, none⟩ = some (.string ⟨#[]⟩) := (g0.cell 1).trans rfl
  have r2 : W.cell? ⟨w.heap.size + 1, 2, none⟩ = some (.slice none 0 0) := (g0.cell 2).trans rfl
  have r3 : W.cell? ⟨w.heap.size + 1, 3, none⟩ = some (.bool false) := (g0.cell 3).trans rfl
  have r4 : W.cell? ⟨w.heap.size + 1, 4, none⟩ = some (.bool false) := (g0.cell 4).trans rfl
  have r5 : W.cell? ⟨w.heap.size + 1, 5, none⟩ = some (.slice none 0 0) := (g0.cell 5).trans rfl
  have kq : Keep (· = W4.heap.size) w1 W := kW
  have hpv2 := ownsRow_keep hpv kW (fun k a b h => by simp at a; omega)
  have hfv2 := ownsRow_keep hfv kW (fun k a b h => by simp at a; omega)
  have htv2 := ownsRow_keep htv kW (fun k a b h => by simp at a; omega)
  have hs : ∀ {e : TypeId} {v : Value} {xs : List Value} {n : Nat}, pv = v ∨ fv = v ∨ tv = v → W.ownsRow (W4.alloc (.cells #[.bool false] 4)).heap.size e 1 v n xs → ∃ a l c, v = .slice a l c := by
    intro e v xs n _ h
    rcases h.2 with ⟨rfl, _⟩ | ⟨g, cap, cur, rfl, _⟩ <;> exact ⟨_, _, _, rfl⟩
  obtain ⟨pa, pl, pc, rfl⟩ := hs (.inl rfl) hpv2
  obtain ⟨fa, fl, fc, rfl⟩ := hs (.inr (.inl rfl)) hfv2
  obtain ⟨ta, tl, tc, rfl⟩ := hs (.inr (.inr rfl)) htv2
  have HPV := Lib.hid (And.intro hpv2 (And.intro hfv2 htv2))
  have KK := Lib.hid kk
  have G0 := Lib.hid g0
  clear hpv2 hfv2 htv2 hpv hfv htv hs kk g0 g2 g3 gq hqq hq2 hq3 hk1 kW kq far h0a h0 h1 h2 h3 hk4 hW
  go_wp2
  refine Mix.wp_region_mixr [(0, 0), (1, 0), (2, 0), (3, 0), (4, 0), (5, 0), (6, 0), (7, 0), (8, 0), (9, 0), (10, 0), (11, 0), (12, 0), (13, 0), (14, 0), (15, 0), (16, 0), (17, 0), (18, 0), (19, 0), (20, 0), (21, 0), (22, 0), (23, 0), (24, 0), (25, 0), (26, 0), (27, 0), (28, 3), (29, 2), (30, 3)] (by kernel_rfl) (by kernel_rfl) (fun _ _ _ _ h => h) ?_
  repeat (first | (refine Mix.mix_pure rfl rfl (fun K hK => ?_); go_big_quiet_op; refine hK _ ?_; clear hK K) | (refine Mix.mix_free rfl rfl (fun K hK => ?_); go_big_quiet_op; refine hK _ ?_; clear hK K) | (refine Mix.mix_pure_want rfl rfl (fun K hK => ?_); go_big_quiet_op; refine hK _ ?_; clear hK K) | (refine Mix.mix_free_want rfl rfl (fun K hK => ?_); go_big_quiet_op; refine hK _ ?_; clear hK K) | refine Mix.mix_skip rfl rfl (by decide) ?_)
  refine Mix.mix_step rfl rfl (fun K hK => ?_)
  go_wp2
  repeat (first | (refine Mix.mix_pure rfl rfl (fun K hK => ?_); go_big_quiet_op; refine hK _ ?_; clear hK K) | (refine Mix.mix_free rfl rfl (fun K hK => ?_); go_big_quiet_op; refine hK _ ?_; clear hK K) | (refine Mix.mix_pure_want rfl rfl (fun K hK => ?_); go_big_quiet_op; refine hK _ ?_; clear hK K) | (refine Mix.mix_free_want rfl rfl (fun K hK => ?_); go_big_quiet_op; refine hK _ ?_; clear hK K) | refine Mix.mix_skip rfl rfl (by decide) ?_)
  refine Mix.mix_nil ?_
  go_wp2
  have GF := (((((G0.out.set 0 (.slice pa pl pc)).set 1 (.string (bs part))).set 2 (.slice fa fl fc)).set 3 (.bool nt)).set 4 (.bool peek)).set 5 (.slice ta tl tc)
  have KF : Keep (· = w.heap.size + 1) W ((((((W.setCell ⟨w.heap.size + 1, 0, none⟩ (.slice pa pl pc)).setCell ⟨w.heap.size + 1, 1, none⟩ (.string (bs part))).setCell ⟨w.heap.size + 1, 2, none⟩ (.slice fa fl fc)).setCell ⟨w.heap.size + 1, 3, none⟩ (.bool nt)).setCell ⟨w.heap.size + 1, 4, none⟩ (.bool peek)).setCell ⟨w.heap.size + 1, 5, none⟩ (.slice ta tl tc)).drew :=
    (((((((Keep.refl (· = w.heap.size + 1) W).at (fun _ => rfl) 0 _).at (fun _ => rfl) 1 _).at (fun _ => rfl) 2 _).at (fun _ => rfl) 3 _).at (fun _ => rfl) 4 _).at (fun _ => rfl) 5 _).drew
  have GF2 := GF.drew
  have KFH := Lib.hid KF
  have GFH := Lib.hid GF2
  clear GF GF2 KF r0 r1 r2 r3 r4 r5
  generalize (World.drew _) = WF at KFH GFH ⊢
  have r0 : WF.cell? ⟨w.heap.size + 1, 0, none⟩ = some (.slice pa pl pc) := (GFH.out.cell 0).trans rfl
  have r1 : WF.cell? ⟨w.heap.size + 1, 1, none⟩ = some (.string (bs part)) := (GFH.out.cell 1).trans rfl
  have r2 : WF.cell? ⟨w.heap.size + 1, 2, none⟩ = some (.slice fa fl fc) := (GFH.out.cell 2).trans rfl
  have r3 : WF.cell? ⟨w.heap.size + 1, 3, none⟩ = some (.bool nt) := (GFH.out.cell 3).trans rfl
  have r4 : WF.cell? ⟨w.heap.size + 1, 4, none⟩ = some (.bool peek) := (GFH.out.cell 4).trans rfl
  have r5 : WF.cell? ⟨w.heap.size + 1, 5, none⟩ = some (.slice ta tl tc) := (GFH.out.cell 5).trans rfl
  refine bodyPost_ret (v := .tuple #[.agg #[.slice pa pl pc, .string (bs part), .slice fa fl fc, .bool nt, .bool peek, .slice ta tl tc], .bool true]) (by simp [results, Tryz.results9, go_sem, r0, r1, r2, r3, r4, r5]) rfl ?_
  obtain ⟨hpv, hfv, htv⟩ := HPV.out
  have hb : w.heap.size ≤ (W4.alloc (.cells #[.bool false] 4)).heap.size := by simp; omega
  have far : ∀ k, (W4.alloc (.cells #[.bool false] 4)).heap.size ≤ k → k < W.heap.size → ¬ k = w.heap.size + 1 := fun k a _ h => by simp at a; omega
  exact ⟨.slice pa pl pc, .slice fa fl fc, .slice ta tl tc, rfl, ownsRow_base (ownsRow_keep hpv KFH.out far) hb, ownsRow_base (ownsRow_keep hfv KFH.out far) hb, ownsRow_base (ownsRow_keep htv KFH.out far) hb,
    (KK.out.trans (KFH.out.mono (fun i _ h => by subst h; omega))).mono (fun i hi h => absurd hi (Nat.not_lt.2 h))⟩
end Go.Proofs.YtanombfdfpfcoaaGreatDoor

namespace Go.Proofs.YtanombfdfpfcoaaGreatDoor
set_option linter.unusedVariables false
set_option linter.unusedSimpArgs false
open Go.RowKit

/-- The table of powers lies there. -/
def Pow (w : World) : Prop := Lib.TabIs Tryz.prog w "internal/strconv.uint64pow10" .u64 Lib.pow10Tab
theorem Pow.keep {M : Nat → Prop} {w w' : World} (h : Pow w) (hk : Keep M w w') (hM : ∀ k, k < w.heap.size → ¬ M k) : Pow w' := by
  unfold Pow Lib.TabIs World.var? at *
  cases hg : Tryz.prog.globalNamed "internal/strconv.uint64pow10" with
  | none => simp [hg] at h
  | some g =>
    simp only [hg, Option.bind_some] at h ⊢
    have hlt : g < w.heap.size := by
      rcases Nat.lt_or_ge g w.heap.size with h' | h'
      · exact h'
      · simp [Array.getElem?_eq_none h'] at h
    rw [hk.block g hlt (hM g hlt)]
    exact h
theorem t_itoa (n : Nat) (hn : n < 10000000) (w : World) (hp : Pow w) :
    Calls Tryz.prog 20 #[.int .i64 n] w fun e w' => e = .returned (.string (bs (dig n))) ∧ Keep (fun _ => False) w w' := by
  refine (Tryz.strconv_Itoa (n : Int) (by omega) (by omega) w hp).mono ?_
  rintro e w' ⟨rfl, k, os, rfl⟩
  refine ⟨?_, Keep.of_below (Lib.below_grow w.heap.size w (Nat.le_refl _) k os)⟩
  rw [Lib.itoa_nonneg]
  rw [← bs_def]
  rfl
end Go.Proofs.YtanombfdfpfcoaaGreatDoor

namespace Go.Proofs.YtanombfdfpfcoaaGreatDoor
set_option linter.unusedVariables false
set_option linter.unusedSimpArgs false
open Go.RowKit

theorem join_joinB (c : UInt8) (xs : List (List UInt8)) : Lib.join xs [c] = joinB c xs := by
  induction xs with
  | nil => rfl
  | cons a r ih =>
    cases r with
    | nil => rw [Lib.join_one]; rfl
    | cons b r =>
      rw [Lib.join_cons] at ih ⊢
      show a ++ Lib.joinTail [c] (b :: r) = a ++ c :: joinB c (b :: r)
      rw [← ih]
      simp [Lib.joinTail]

theorem t_join (c : UInt8) (xs : List (List UInt8)) (a : Option Addr) (cap : Nat) (w : World) (hcap : xs.length ≤ cap) (hl : xs.length < 1000000) (hlen : (joinB c xs).length < 1000000)
    (hc : 0 < xs.length → ∃ b o, a = some ⟨b, o, none⟩ ∧ b < w.heap.size ∧ ∀ i, i < xs.length → w.cell? ⟨b, o + i, none⟩ = some ((xs.map strV).getD i default)) :
    Calls Tryz.prog 23 #[.slice a xs.length cap, .string (bs [c])] w fun e w' => e = .returned (.string (bs (joinB c xs))) ∧ Keep (fun _ => False) w w' := by
  cases xs with
  | nil =>
    refine (Tryz.strings_Join_none a cap (bs [c]) w).mono ?_
    rintro e w' ⟨rfl, rfl⟩
    exact ⟨by rw [← bs_nil]; rfl, Keep.refl _ _⟩
  | cons y ys =>
    obtain ⟨b, o, rfl, hb, hcc⟩ := hc (by simp)
    have e1 : ((y :: ys).map bs).map (·.data.toList) = y :: ys := by
      rw [List.map_map]
      conv => rhs; rw [← List.map_id (y :: ys)]
      congr 1
      funext l
      exact bs_data l
    have h := Tryz.strings_Join b o cap ((y :: ys).map bs) (bs [c]) w (by
      intro j x hj
      have hlt : j < (y :: ys).length := by simpa using (List.getElem?_eq_some_iff.1 hj).1
      rw [hcc j hlt]
      have : ((y :: ys).map bs)[j]? = some x := hj
      rw [List.getElem?_map] at this
      obtain ⟨l, hl1, rfl⟩ := Option.map_eq_some_iff.1 this
      rw [List.getD_eq_getElem?_getD, List.getElem?_map, hl1]
      rfl) hb (by simp at hl ⊢; omega) (by simpa using hcap) (by rw [e1, bs_data, join_joinB]; omega)
    rw [e1, bs_data, join_joinB, List.length_map, ← bs_def] at h
    refine h.mono ?_
    rintro e w' ⟨rfl, hb⟩
    exact ⟨rfl, Keep.of_below hb⟩

theorem t_joinN (c : UInt8) (xs : List (List UInt8)) (n : Nat) (hn : n = xs.length) (a : Option Addr) (cap : Nat) (w : World) (hcap : n ≤ cap) (hl : n < 1000000) (hlen : (joinB c xs).length < 1000000)
    (hc : 0 < n → ∃ b o, a = some ⟨b, o, none⟩ ∧ b < w.heap.size ∧ ∀ i, i < n → w.cell? ⟨b, o + i, none⟩ = some ((xs.map strV).getD i default)) :
    Calls Tryz.prog 23 #[.slice a n cap, .string (bs [c])] w fun e w' => e = .returned (.string (bs (joinB c xs))) ∧ Keep (fun _ => False) w w' := by
  subst hn
  exact t_join c xs a cap w hcap hl hlen hc
theorem ownsRow_join {w : World} {base : Nat} {e : TypeId} {a : Option Addr} {n cap : Nat} {xs : List Value} (h : w.ownsRow base e 1 (.slice a n cap) n xs) : n ≤ cap ∧
    (0 < n → ∃ b o, a = some ⟨b, o, none⟩ ∧ b < w.heap.size ∧ ∀ i, i < n → w.cell? ⟨b, o + i, none⟩ = some (xs.getD i default)) := by
  refine ⟨?_, fun hn => ?_⟩
  · rcases h.2 with ⟨h1, h2⟩ | ⟨g, cap', cur, h1, _, _, h2, _⟩
    · omega
    · injection h1 with _ _ h3; omega
  · obtain ⟨g, cap', h1, _, hg, _, _, hc, _⟩ := ownsRow_cells h hn
    injection h1 with h2
    exact ⟨g, 0, h2, hg, fun i hi => by rw [Nat.zero_add]; exact hc i hi⟩
theorem take_set_succ (zs : List Value) (i : Nat) (u : Value) (h : i < zs.length) : (zs.set i u).take (i + 1) = zs.take i ++ [u] := by
  rw [List.take_add_one, List.take_set_of_le (Nat.le_refl i)]
  simp [h]
end Go.Proofs.YtanombfdfpfcoaaGreatDoor

namespace Go.Proofs.YtanombfdfpfcoaaGreatDoor
set_option linter.unusedVariables false
set_option linter.unusedSimpArgs false
open Go.RowKit

def fieldsP (fs : List (List UInt8)) (nt : Bool) : List (List UInt8) := if fs = [] then [] else cFIELDS :: (if nt then [cNOT] else [])
def partsT (path : List Nat) (part : List UInt8) (fs : List (List UInt8)) (nt : Bool) : List (List UInt8) := path.map dig ++ ((if part = [] then [] else [part]) ++ fieldsP fs nt)
def midT (path : List Nat) (part : List UInt8) (fs : List (List UInt8)) (nt : Bool) : List UInt8 := joinB 46 (partsT path part fs nt) ++ (if fs = [] then [] else 32 :: 40 :: (joinB 32 fs ++ [41]))

theorem joinB_len (c : UInt8) (k : Nat) : ∀ xs : List (List UInt8), (∀ x ∈ xs, x.length ≤ k) → (joinB c xs).length ≤ xs.length * (k + 1)
  | [], _ => by simp [joinB]
  | [a], h => by have := h a (by simp); simp [joinB]; omega
  | a :: b :: r, h => by
    have h1 := h a (by simp)
    have h2 := joinB_len c k (b :: r) (fun x hx => h x (by simp at hx ⊢; exact .inr hx))
    simp only [joinB, List.length_append, List.length_cons] at h2 ⊢
    have e : (r.length + 1 + 1) * (k + 1) = (r.length + 1) * (k + 1) + (k + 1) := by rw [Nat.add_mul, Nat.one_mul]
    rw [e]
    omega

section
variable {P : Program} {ops : Array Oper} {Q : Exit → Act → World → Prop} {rest : List Oper} {o : Oper} {a : Act} {w : World}
/-- 'make([]T, n)'. -/
theorem wp_make1 {t e : TypeId} {z : Value} {b : Nat} (hE : Elem P t e z b) (l c : Operand) (hg : o.guard = none) (ho : o.op = .makeSlice t l c) (n : Nat) (hl : a.eval l = .int .i64 n) (hc : a.eval c = .int .i64 n) (hn : n < 1000000)
    (h : ∀ w' ys, w'.ownsRow w.heap.size e 1 (.slice (some ⟨w.heap.size, 0, none⟩) n n) n ys → Keep (fun _ => False) w w' → wpList P ops Q rest (a.put o.dst (.slice (some ⟨w.heap.size, 0, none⟩) n n)) w') :
    wpList P ops Q (o :: rest) a w := by
  obtain ⟨i, hi, hz, h11, hb⟩ := hE.info
  have hsm := hE.small
  refine wpList_make_full w hg l c t ho w.heap.size e i z 1 hE.und hi hz h11 .i64 .i64 n n n hl hc rfl rfl ?_ (by unfold maxLen; omega) (Nat.le_refl _) ?_
  · rw [hb]
    have : b * n ≤ 64 * 1000000 := Nat.mul_le_mul hsm (by omega)
    omega
  · intro w' h1 h2
    exact h w' _ h1 ⟨h2.os, h2.tape, h2.output, h2.size, fun k hk _ => h2.block k hk (by simp)⟩
end

set_option maxRecDepth 100000 in
set_option maxHeartbeats 1000000 in
theorem t_bpstr (w : World) (q B : Nat) (path : List Nat) (part : List UInt8) (fs : List (List UInt8)) (nt : Bool) (pk tv vl : Value) (a0 a2 : Option Addr) (c0 c2 : Nat)
    (hq : Blk w q #[.string (bs part), .slice a0 path.length c0, .slice a2 fs.length c2, .bool nt, pk, tv, vl] 53) (hB : B ≤ w.heap.size) (h0 : Arg B w a0 path.length (path.map nI)) (h2 : Arg B w a2 fs.length (fs.map strV)) (hc2 : fs.length ≤ c2)
    (hpow : Pow w) (hpl : path.length ≤ 6) (hp : ∀ p ∈ path, p < 1000) (hfl : fs.length ≤ 8) (hfs : ∀ f ∈ fs, f.length ≤ 40) (hpart : part.length ≤ 10) (hfp : fs ≠ [] → part = cHEADER) (hnt : nt = true → fs ≠ []) :
    Calls Tryz.prog 19 #[.pointer (some ⟨q, 0, none⟩)] w fun e w' => e = .returned (.string (bs (midT path part fs nt))) ∧ Keep (fun _ => False) w w' := by
  have htl2 : ∀ l, (bs l).toList = l := bs_toList
  have hsz : ∀ l, (bs l).size = l.length := bs_size
  have q0 : w.cell? ⟨q, 0, none⟩ = some (.string (bs part)) := (hq.cell 0).trans rfl
  have q1 : w.cell? ⟨q, 1, none⟩ = some (.slice a0 path.length c0) := (hq.cell 1).trans rfl
  have HQ := Lib.hid hq
  have H0 := Lib.hid h0
  have H2 := Lib.hid h2
  have HPOW := Lib.hid hpow
  have HP := Lib.hid hp
  have HFS := Lib.hid hfs
  have HFP := Lib.hid (And.intro hfp hnt)
  have hqlt := hq.lt
  clear hq h0 h2 hpow hp hfs hfp hnt
  go_enter Tryz.func19, Tryz.ntmps19
  go_wp2_with (at_make; refine wp_make1 Tryz.elemS (.tmp 11) (.tmp 11) rfl rfl path.length rfl rfl (by omega) ?_; intro w1 ys hown hk; have hq1 := HQ.out.keep hk id; have q11 : w1.cell? ⟨q, 1, none⟩ = some (.slice a0 path.length c0) := (hq1.cell 1).trans rfl; have hz1 := hk.size; have HOWN := Lib.hid hown; have HK := Lib.hid hk; clear hown hk hq1)
  go_loopg [18] path.length (fun k v wr => ∃ i ys, v = .int .i64 (i : Nat) ∧ i + k = path.length ∧ wr.ownsRow w.heap.size 9 1 (.slice (some ⟨w.heap.size, 0, none⟩) path.length path.length) path.length ys ∧ ys.take i = (path.take i).map (strV ∘ dig) ∧ Keep (fun _ => False) w wr)
  case atStart => exact ⟨0, ys, rfl, by omega, HOWN.out, by simp, HK.out⟩
  case round =>
    obtain ⟨i, zs, rfl, hik, hown, htk, hk⟩ := hrel
    have hqr := HQ.out.keep hk id
    have hpw := HPOW.out.keep hk (fun _ _ => id)
    have hzr := hk.size
    have h0r := H0.out.keep hk hB (fun _ _ => id)
    have HO := Lib.hid hown
    have HT := Lib.hid htk
    have HK := Lib.hid hk
    have HQR := Lib.hid hqr
    have HPW := Lib.hid hpw
    clear hown htk hk hqr hpw
    by_cases hlt : i < path.length
    · obtain ⟨b, o, rfl, hb, hcc⟩ := h0r.2 (by omega)
      obtain ⟨p, hp⟩ : ∃ p, p = path.getD i 0 := ⟨_, rfl⟩
      have hc3 : wr.cell? ⟨b, o + i, none⟩ = some (.int .i64 p) := by
        rw [hcc i hlt, hp]
        simp [List.getD, hlt, nI]
      have hpp : p < 1000 := by rw [hp]; exact HP.out _ (by simp [List.getD, hlt])
      have HPP := Lib.hid hp
      clear hcc h0r hp
      go_wp2_with (go_at_call 20; refine (t_itoa p (by omega) _ HPW.out).mono ?_; rintro e w3 ⟨rfl, hk3⟩; have ho3 := ownsRow_keep HO.out hk3 (fun _ _ _ h => h); obtain ⟨g', cap', he', hg1, hg2, hl3, hcp, hcl, hfr⟩ := ownsRow_cells ho3 (by omega); (obtain ⟨rfl, rfl⟩ : w.heap.size = g' ∧ path.length = cap' := (by injection he' with h1 _ h2; injection h1 with h1; injection h1 with h1; exact ⟨h1, h2⟩)); have hci := hcl i hlt; have HO3 := Lib.hid ho3; have HK3 := Lib.hid (HK.out.trans hk3); clear ho3 hk3 hcl)
      go_roundg (gk - 1)
      case measure => omega
      case rel =>
        refine ⟨i + 1, zs.set i (.string (bs (dig p))), rfl, by omega, ownsRow_set HO3.out _, ?_, HK3.out.at (fun h => absurd h (Nat.lt_irrefl _)) i _⟩
        rw [take_set_succ zs i _ (by omega), HT.out, show path.take (i + 1) = path.take i ++ [p] from by rw [HPP.out, List.take_add_one]; simp [List.getD, hlt]]
        simp [strV]
    · have hi : i = path.length := by omega
      subst hi
      have hzl : zs.length = path.length := by have := HO.out.1; simpa using this
      have hzs : zs = (path.map dig).map strV := by
        have := HT.out
        rw [List.take_length, List.take_of_length_le (by omega)] at this
        rw [this, List.map_map]
      have ho1 := HO.out
      rw [hzs] at ho1
      have HO1 := Lib.hid ho1
      have r0 : wr.cell? ⟨q, 0, none⟩ = some (.string (bs part)) := (HQR.out.cell 0).trans rfl
      have r2 : wr.cell? ⟨q, 2, none⟩ = some (.slice a2 fs.length c2) := (HQR.out.cell 2).trans rfl
      have r3 : wr.cell? ⟨q, 3, none⟩ = some (.bool nt) := (HQR.out.cell 3).trans rfl
      have hjl : ∀ xs : List (List UInt8), (∀ x ∈ xs, x.length ≤ 10) → xs.length ≤ 20 → (joinB 46 xs).length < 1000 := fun xs h1 h2 => by
        have := joinB_len 46 10 xs h1
        omega
      have hdl : ∀ x ∈ path.map dig, x.length ≤ 10 := by
        intro x hx
        obtain ⟨n, hn, rfl⟩ := List.mem_map.1 hx
        have := dig_len7 n (by have := HP.out n hn; omega)
        omega
      have HJL := Lib.hid hjl
      have HDL := Lib.hid hdl
      clear hzs ho1 hjl hdl h0r HT HO hzl
      by_cases hpe : part = []
      · have hfe : fs = [] := by
          rcases Decidable.em (fs = []) with h | h
          · exact h
          · have := HFP.out.1 h; rw [hpe] at this; cases this
        subst hpe
        subst hfe
        go_wp2_with (go_at_call 23; rw [show (⟨#[46]⟩ : ByteArray) = bs [46] from (bs_def _).symm]; refine (t_joinN 46 (path.map dig) path.length (by simp) _ _ _ (ownsRow_join HO1.out).1 (by omega) (by have := HJL.out _ HDL.out (by simp; omega); omega) (ownsRow_join HO1.out).2).mono ?_; rintro e w5 ⟨rfl, hk5⟩; have hq5 := HQR.out.keep hk5 id; have r52 : w5.cell? ⟨q, 2, none⟩ = some (.slice a2 0 c2) := (hq5.cell 2).trans rfl; have HK5 := Lib.hid (HK.out.trans hk5); clear hk5 hq5)
        go_ret
        refine ⟨?_, HK5.out⟩
        simp [midT, partsT, fieldsP]
      · have hpb : (part == []) = false := by rw [beq_eq_false_iff_ne]; exact hpe
        have hq4 := fun (w4 : World) (hk4 : Keep (fun k => w.heap.size ≤ k) wr w4) => HQR.out.keep hk4 (Nat.not_le.2 hqlt)
        have HQ4 := Lib.hid hq4
        clear hq4
        by_cases hfe : fs = []
        · subst hfe
          have hcases : (part == [72, 69, 65, 68, 69, 82]) = true ∨ (part == [72, 69, 65, 68, 69, 82]) = false := by cases (part == [72, 69, 65, 68, 69, 82]) <;> simp
          rcases hcases with hph | hph
          all_goals
            go_wp2_with (first
              | (at_builtin; refine wp_app1 Tryz.elemS (.tmp 34) (.tmp 39) rfl rfl w.heap.size _ path.length ((path.map dig).map strV) rfl (HO1.out.alloc _) wr.heap.size (strV part) rfl (((Blk.new wr _ _).cell 0).trans rfl) rfl (by omega) (by simp; omega) ?_; intro v4 w4 hv4 hk4 hb4 hat4; obtain ⟨ga, ca, rfl, -⟩ := ownsRow_cells hv4 (by omega); have hk04 : Keep (fun k => w.heap.size ≤ k) wr w4 := (((Keep.refl (fun k => w.heap.size ≤ k) wr).alloc (.cells #[strV part] 9)).trans hk4); have hq4 := HQ4.out w4 hk04; have s0 : w4.cell? ⟨q, 0, none⟩ = some (.string (bs part)) := (hq4.cell 0).trans rfl; have s2 : w4.cell? ⟨q, 2, none⟩ = some (.slice a2 0 c2) := (hq4.cell 2).trans rfl; have HV4 := Lib.hid hv4; have HB4 := Lib.hid hq4; have HK4 := Lib.hid (HK.out.trans' hk04 (fun i hi h => absurd hi (Nat.not_lt.2 h))); clear hv4 hk4 hb4 hat4 hk04 hq4)
              | (go_at_call 23; rw [show (⟨#[46]⟩ : ByteArray) = bs [46] from (bs_def _).symm]; refine (t_joinN 46 (path.map dig ++ [part]) (path.length + 1) (by simp) _ _ _ (ownsRow_join HV4.out).1 (by omega) (by have := HJL.out (path.map dig ++ [part]) (fun x hx => (by rcases List.mem_append.1 hx with h | h; exact HDL.out x h; simp at h; subst h; exact hpart)) (by simp; omega); omega) (by have := (ownsRow_join HV4.out).2; simpa using this)).mono ?_; rintro e w5 ⟨rfl, hk5⟩; have hq5 := HB4.out.keep hk5 id; have r52 : w5.cell? ⟨q, 2, none⟩ = some (.slice a2 0 c2) := (hq5.cell 2).trans rfl; have HK5 := Lib.hid (HK4.out.trans hk5); clear hk5 hq5))
            go_ret
            refine ⟨?_, HK5.out⟩
            simp [midT, partsT, fieldsP, hpe]
        · have hph : part = cHEADER := HFP.out.1 hfe
          subst hph
          have hfl0 : 0 < fs.length := by cases fs with | nil => exact absurd rfl hfe | cons a b => simp
          have hjb : (joinB 32 fs).length < 1000 := by have := joinB_len 32 40 fs HFS.out; omega
          have hj46 := HJL.out (path.map dig ++ [cHEADER] ++ [cFIELDS]) (fun x hx => (by simp only [List.mem_append, List.mem_singleton, or_assoc] at hx; rcases hx with h | h; exact HDL.out x h; rcases h with rfl | rfl <;> decide)) (by simp; omega)
          have hj46t := HJL.out (path.map dig ++ [cHEADER] ++ [cFIELDS] ++ [cNOT]) (fun x hx => (by simp only [List.mem_append, List.mem_singleton, or_assoc] at hx; rcases hx with h | h; exact HDL.out x h; rcases h with rfl | rfl | rfl <;> decide)) (by simp; omega)
          have hj46n : (joinB 46 (path.map dig ++ [cHEADER, cFIELDS])).length < 1000 := by simpa using hj46
          have hj46m : (joinB 46 (path.map dig ++ [cHEADER, cFIELDS, cNOT])).length < 1000 := by simpa using hj46t
          have hhd : (cHEADER == [72, 69, 65, 68, 69, 82]) = true := by decide
          cases nt with
          | false =>
            go_wp2_with (first
              | (at_builtin; refine wp_app1 Tryz.elemS (.tmp 34) (.tmp 39) rfl rfl w.heap.size _ path.length ((path.map dig).map strV) rfl (HO1.out.alloc _) wr.heap.size (strV cHEADER) rfl (((Blk.new wr _ _).cell 0).trans rfl) rfl (by omega) (by simp; omega) ?_; intro v4 w4 hv4 hk4 hb4 hat4; obtain ⟨ga, ca, rfl, -⟩ := ownsRow_cells hv4 (by omega); have hk04 : Keep (fun k => w.heap.size ≤ k) wr w4 := (((Keep.refl (fun k => w.heap.size ≤ k) wr).alloc (.cells #[strV cHEADER] 9)).trans hk4); have hz4 := hk04.size; have hq4 := HQ4.out w4 hk04; have s0 : w4.cell? ⟨q, 0, none⟩ = some (.string (bs cHEADER)) := (hq4.cell 0).trans rfl; have s2 : w4.cell? ⟨q, 2, none⟩ = some (.slice a2 fs.length c2) := (hq4.cell 2).trans rfl; have HV4 := Lib.hid hv4; have HK04 := Lib.hid hk04; clear hv4 hk4 hb4 hat4 hk04 hq4)
              | (at_builtin; refine wp_app1 Tryz.elemS (.tmp 54) (.tmp 55) rfl rfl w.heap.size _ (path.length + 1) ((path.map dig).map strV ++ [strV cHEADER]) rfl (HV4.out.alloc _) w4.heap.size (.string ⟨#[70, 73, 69, 76, 68, 83]⟩) rfl (((Blk.new w4 _ _).cell 0).trans rfl) rfl (by omega) (by simp; omega) ?_; intro v6 w6 hv6 hk6 hb6 hat6; obtain ⟨gb, cb, rfl, -⟩ := ownsRow_cells hv6 (by omega); have hk06 : Keep (fun k => w.heap.size ≤ k) wr w6 := ((HK04.out.alloc (.cells #[.string ⟨#[70, 73, 69, 76, 68, 83]⟩] 9)).trans hk6); have hz6 := hk06.size; have hq6 := HQ4.out w6 hk06; have u2 : w6.cell? ⟨q, 2, none⟩ = some (.slice a2 fs.length c2) := (hq6.cell 2).trans rfl; have u3 : w6.cell? ⟨q, 3, none⟩ = some (.bool false) := (hq6.cell 3).trans rfl; (rw [show (Value.string ⟨#[70, 73, 69, 76, 68, 83]⟩) = strV cFIELDS from (by rw [strV, bs_def]; rfl)] at hv6); have HV6 := Lib.hid hv6; have HB6 := Lib.hid hq6; have HK06 := Lib.hid hk06; have HK6 := Lib.hid (HK.out.trans' hk06 (fun i hi h => absurd hi (Nat.not_lt.2 h))); clear hv6 hk6 hb6 hat6 hk06 hq6)
              | (go_at_call 23; rw [show (⟨#[46]⟩ : ByteArray) = bs [46] from (bs_def _).symm]; refine (t_joinN 46 (path.map dig ++ [cHEADER] ++ [cFIELDS]) (path.length + 1 + 1) (by simp) _ _ _ (ownsRow_join HV6.out).1 (by omega) (by have := HJL.out (path.map dig ++ [cHEADER] ++ [cFIELDS]) (fun x hx => (by simp only [List.mem_append, List.mem_singleton, or_assoc] at hx; rcases hx with h | h; exact HDL.out x h; rcases h with rfl | rfl <;> decide)) (by simp; omega); omega) (by have := (ownsRow_join HV6.out).2; simpa using this)).mono ?_; rintro e w8 ⟨rfl, hk8⟩; have hq8 := HB6.out.keep hk8 id; have r82 : w8.cell? ⟨q, 2, none⟩ = some (.slice a2 fs.length c2) := (hq8.cell 2).trans rfl; have hk08 := HK6.out.trans hk8; have h28 := H2.out.keep hk08 hB (fun _ _ => id); have HA8 := Lib.hid h28; have HK8 := Lib.hid hk08; have hz8 := hk08.size; clear hk8 hq8 hk08 h28)
              | (go_at_call 23; rw [show (⟨#[32]⟩ : ByteArray) = bs [32] from (bs_def _).symm]; refine (t_joinN 32 fs fs.length rfl a2 c2 _ hc2 (by omega) (by have := joinB_len 32 40 fs HFS.out; omega) (fun hn => (by obtain ⟨b, o, h1, h2, h3⟩ := HA8.out.2 hn; exact ⟨b, o, h1, by omega, h3⟩))).mono ?_; rintro e w9 ⟨rfl, hk9⟩; have HK9 := Lib.hid (HK8.out.trans hk9); clear hk9))
            go_ret
            refine ⟨?_, HK9.out⟩
            rw [show (⟨#[32, 40]⟩ : ByteArray) = bs [32, 40] from (bs_def _).symm, show (⟨#[41]⟩ : ByteArray) = bs [41] from (bs_def _).symm, bs_app, bs_app, bs_app]
            simp [midT, partsT, fieldsP, hfe, cHEADER]
          | true =>
            go_wp2_with (first
              | (at_builtin; refine wp_app1 Tryz.elemS (.tmp 34) (.tmp 39) rfl rfl w.heap.size _ path.length ((path.map dig).map strV) rfl (HO1.out.alloc _) wr.heap.size (strV cHEADER) rfl (((Blk.new wr _ _).cell 0).trans rfl) rfl (by omega) (by simp; omega) ?_; intro v4 w4 hv4 hk4 hb4 hat4; obtain ⟨ga, ca, rfl, -⟩ := ownsRow_cells hv4 (by omega); have hk04 : Keep (fun k => w.heap.size ≤ k) wr w4 := (((Keep.refl (fun k => w.heap.size ≤ k) wr).alloc (.cells #[strV cHEADER] 9)).trans hk4); have hz4 := hk04.size; have hq4 := HQ4.out w4 hk04; have s0 : w4.cell? ⟨q, 0, none⟩ = some (.string (bs cHEADER)) := (hq4.cell 0).trans rfl; have s2 : w4.cell? ⟨q, 2, none⟩ = some (.slice a2 fs.length c2) := (hq4.cell 2).trans rfl; have HV4 := Lib.hid hv4; have HK04 := Lib.hid hk04; clear hv4 hk4 hb4 hat4 hk04 hq4)
              | (at_builtin; refine wp_app1 Tryz.elemS (.tmp 54) (.tmp 55) rfl rfl w.heap.size _ (path.length + 1) ((path.map dig).map strV ++ [strV cHEADER]) rfl (HV4.out.alloc _) w4.heap.size (.string ⟨#[70, 73, 69, 76, 68, 83]⟩) rfl (((Blk.new w4 _ _).cell 0).trans rfl) rfl (by omega) (by simp; omega) ?_; intro v6 w6 hv6 hk6 hb6 hat6; obtain ⟨gb, cb, rfl, -⟩ := ownsRow_cells hv6 (by omega); have hk06 : Keep (fun k => w.heap.size ≤ k) wr w6 := ((HK04.out.alloc (.cells #[.string ⟨#[70, 73, 69, 76, 68, 83]⟩] 9)).trans hk6); have hz6 := hk06.size; have hq6 := HQ4.out w6 hk06; have u2 : w6.cell? ⟨q, 2, none⟩ = some (.slice a2 fs.length c2) := (hq6.cell 2).trans rfl; have u3 : w6.cell? ⟨q, 3, none⟩ = some (.bool true) := (hq6.cell 3).trans rfl; (rw [show (Value.string ⟨#[70, 73, 69, 76, 68, 83]⟩) = strV cFIELDS from (by rw [strV, bs_def]; rfl)] at hv6); have HV6 := Lib.hid hv6; have HB6 := Lib.hid hq6; have HK06 := Lib.hid hk06; have HK6 := Lib.hid (HK.out.trans' hk06 (fun i hi h => absurd hi (Nat.not_lt.2 h))); clear hv6 hk6 hb6 hat6 hk06 hq6)
              | (at_builtin; refine wp_app1 Tryz.elemS (.tmp 61) (.tmp 62) rfl rfl w.heap.size _ (path.length + 1 + 1) ((path.map dig).map strV ++ [strV cHEADER] ++ [strV cFIELDS]) rfl (HV6.out.alloc _) w6.heap.size (.string ⟨#[78, 79, 84]⟩) rfl (((Blk.new w6 _ _).cell 0).trans rfl) rfl (by omega) (by simp; omega) ?_; intro v7 w7 hv7 hk7 hb7 hat7; obtain ⟨gc, cc, rfl, -⟩ := ownsRow_cells hv7 (by omega); have hk07 : Keep (fun k => w.heap.size ≤ k) wr w7 := ((HK06.out.alloc (.cells #[.string ⟨#[78, 79, 84]⟩] 9)).trans hk7); have hq7 := HQ4.out w7 hk07; (rw [show (Value.string ⟨#[78, 79, 84]⟩) = strV cNOT from (by rw [strV, bs_def]; rfl)] at hv7); have HV7 := Lib.hid hv7; have HB7 := Lib.hid hq7; have HK7 := Lib.hid (HK.out.trans' hk07 (fun i hi h => absurd hi (Nat.not_lt.2 h))); clear hv7 hk7 hb7 hat7 hk07 hq7)
              | (go_at_call 23; rw [show (⟨#[46]⟩ : ByteArray) = bs [46] from (bs_def _).symm]; refine (t_joinN 46 (path.map dig ++ [cHEADER] ++ [cFIELDS] ++ [cNOT]) (path.length + 1 + 1 + 1) (by simp) _ _ _ (ownsRow_join HV7.out).1 (by omega) (by have := HJL.out (path.map dig ++ [cHEADER] ++ [cFIELDS] ++ [cNOT]) (fun x hx => (by simp only [List.mem_append, List.mem_singleton, or_assoc] at hx; rcases hx with h | h; exact HDL.out x h; rcases h with rfl | rfl | rfl <;> decide)) (by simp; omega); omega) (by have := (ownsRow_join HV7.out).2; simpa using this)).mono ?_; rintro e w8 ⟨rfl, hk8⟩; have hq8 := HB7.out.keep hk8 id; have r82 : w8.cell? ⟨q, 2, none⟩ = some (.slice a2 fs.length c2) := (hq8.cell 2).trans rfl; have hk08 := HK7.out.trans hk8; have h28 := H2.out.keep hk08 hB (fun _ _ => id); have HA8 := Lib.hid h28; have HK8 := Lib.hid hk08; have hz8 := hk08.size; clear hk8 hq8 hk08 h28)
              | (go_at_call 23; rw [show (⟨#[32]⟩ : ByteArray) = bs [32] from (bs_def _).symm]; refine (t_joinN 32 fs fs.length rfl a2 c2 _ hc2 (by omega) (by have := joinB_len 32 40 fs HFS.out; omega) (fun hn => (by obtain ⟨b, o, h1, h2, h3⟩ := HA8.out.2 hn; exact ⟨b, o, h1, by omega, h3⟩))).mono ?_; rintro e w9 ⟨rfl, hk9⟩; have HK9 := Lib.hid (HK8.out.trans hk9); clear hk9))
            go_ret
            refine ⟨?_, HK9.out⟩
            rw [show (⟨#[32, 40]⟩ : ByteArray) = bs [32, 40] from (bs_def _).symm, show (⟨#[41]⟩ : ByteArray) = bs [41] from (bs_def _).symm, bs_app, bs_app, bs_app]
            simp [midT, partsT, fieldsP, hfe, cHEADER]
end Go.Proofs.YtanombfdfpfcoaaGreatDoor

namespace Go.Proofs.YtanombfdfpfcoaaGreatDoor
set_option linter.unusedVariables false
set_option linter.unusedSimpArgs false
open Go.RowKit

/-- A section's text. -/
def secT (path : List Nat) (part : List UInt8) (fs : List (List UInt8)) (nt peek : Bool) (o : Option (Nat × Nat)) : List UInt8 := preT peek ++ 91 :: (midT path part fs nt ++ 93 :: sufT o)

theorem midT_len (path : List Nat) (part : List UInt8) (fs : List (List UInt8)) (nt : Bool) (hpl : path.length ≤ 6) (hp : ∀ p ∈ path, p < 1000) (hfl : fs.length ≤ 8) (hfs : ∀ f ∈ fs, f.length ≤ 40) (hpart : part.length ≤ 10) : (midT path part fs nt).length < 2000 := by
  have h1 := joinB_len 46 10 (partsT path part fs nt) (by
    intro x hx
    simp only [partsT, fieldsP, List.mem_append, List.mem_map] at hx
    rcases hx with ⟨n, hn, rfl⟩ | hx | hx
    · have := dig_len7 n (by have := hp n hn; omega)
      omega
    · split at hx
      · cases hx
      · simp at hx; subst hx; exact hpart
    · split at hx
      · cases hx
      · revert x; cases nt <;> decide)
  have h2 := joinB_len 32 40 fs hfs
  have h3 : (partsT path part fs nt).length ≤ 10 := by
    simp only [partsT, fieldsP, List.length_append, List.length_map]
    have a1 : (if part = [] then ([] : List (List UInt8)) else [part]).length ≤ 1 := by split <;> simp
    have a2 : (if fs = [] then ([] : List (List UInt8)) else cFIELDS :: (if nt then [cNOT] else [])).length ≤ 2 := by
      split
      · simp
      · cases nt <;> simp
    omega
  have h4 : (if fs = [] then ([] : List UInt8) else 32 :: 40 :: (joinB 32 fs ++ [41])).length ≤ (joinB 32 fs).length + 3 := by split <;> simp
  unfold midT
  rw [List.length_append]
  omega

set_option maxRecDepth 100000 in
set_option maxHeartbeats 1000000 in
theorem t_fetch (w : World) (q B : Nat) (path : List Nat) (part : List UInt8) (fs : List (List UInt8)) (nt pk : Bool) (o : Option (Nat × Nat)) (a0 a2 a5 : Option Addr) (c0 c2 c5 : Nat)
    (hq : Blk w q #[.string (bs part), .slice a0 path.length c0, .slice a2 fs.length c2, .bool nt, .bool pk, .slice a5 (partI o).length c5, .string ⟨#[]⟩] 53) (hB : B ≤ w.heap.size) (h0 : Arg B w a0 path.length (path.map nI)) (h2 : Arg B w a2 fs.length (fs.map strV))
    (h5 : Arg B w a5 (partI o).length ((partI o).map nI)) (ho : ∀ a b, o = some (a, b) → a < 10000000 ∧ b < 10000000) (hc2 : fs.length ≤ c2)
    (hpow : Pow w) (hpl : path.length ≤ 6) (hp : ∀ p ∈ path, p < 1000) (hfl : fs.length ≤ 8) (hfs : ∀ f ∈ fs, f.length ≤ 40) (hpart : part.length ≤ 10) (hfp : fs ≠ [] → part = cHEADER) (hnt : nt = true → fs ≠ []) :
    Calls Tryz.prog 14 #[.pointer (some ⟨q, 0, none⟩)] w fun e w' => e = .returned (.string (bs (secT path part fs nt pk o))) ∧ Keep (fun _ => False) w w' := by
  have htl2 : ∀ l, (bs l).toList = l := bs_toList
  have hsz : ∀ l, (bs l).size = l.length := bs_size
  have hml := midT_len path part fs nt hpl hp hfl hfs hpart
  have q6 : w.cell? ⟨q, 6, none⟩ = some (.string ⟨#[]⟩) := (hq.cell 6).trans rfl
  have q4 : w.cell? ⟨q, 4, none⟩ = some (.bool pk) := (hq.cell 4).trans rfl
  have hstr := t_bpstr w q B path part fs nt (.bool pk) (.slice a5 (partI o).length c5) (.string ⟨#[]⟩) a0 a2 c0 c2 hq hB h0 h2 hc2 hpow hpl hp hfl hfs hpart hfp hnt
  have HSTR := Lib.hid hstr
  have HQ := Lib.hid hq
  have H5 := Lib.hid h5
  have HPOW := Lib.hid hpow
  have HO := Lib.hid ho
  have hda := fun a b (h : o = some (a, b)) => And.intro (dig_len7 a (ho a b h).1) (dig_len7 b (ho a b h).2)
  have HDA := Lib.hid hda
  clear hq h0 h2 h5 hpow hp hfs hfp hnt hstr ho hda
  obtain ⟨mt, hmt⟩ : ∃ mt, mt = midT path part fs nt := ⟨_, rfl⟩
  rw [← hmt] at hml HSTR
  have HM := Lib.hid hmt
  clear hmt
  have L1 : (⟨#[66, 79, 68, 89]⟩ : ByteArray) = bs [66, 79, 68, 89] := (bs_def _).symm
  have L2 : (⟨#[46, 80, 69, 69, 75]⟩ : ByteArray) = bs [46, 80, 69, 69, 75] := (bs_def _).symm
  have L3 : (⟨#[91]⟩ : ByteArray) = bs [91] := (bs_def _).symm
  have L4 : (⟨#[93]⟩ : ByteArray) = bs [93] := (bs_def _).symm
  have L5 : (⟨#[60]⟩ : ByteArray) = bs [60] := (bs_def _).symm
  have L6 : (⟨#[46]⟩ : ByteArray) = bs [46] := (bs_def _).symm
  have L7 : (⟨#[62]⟩ : ByteArray) = bs [62] := (bs_def _).symm
  have HL := Lib.hid (And.intro L1 (And.intro L2 (And.intro L3 (And.intro L4 (And.intro L5 (And.intro L6 L7))))))
  clear L1 L2 L3 L4 L5 L6 L7
  go_enter Tryz.func14, Tryz.ntmps14
  rcases o with _ | ⟨a, b⟩
  · have e0 : (partI none).length = 0 := rfl
    rw [e0] at HQ
    cases pk
    all_goals
      go_wp2_with (go_at_call 19; refine HSTR.out.mono ?_; rintro e w1 ⟨rfl, hk⟩; have hq1 := HQ.out.keep hk id; have q15 : w1.cell? ⟨q, 5, none⟩ = some (.slice a5 0 c5) := (hq1.cell 5).trans rfl; have HK := Lib.hid hk; clear hk hq1)
      go_ret
      refine ⟨?_, HK.out⟩
      obtain ⟨L1, L2, L3, L4, L5, L6, L7⟩ := HL.out
      simp only [L1, L2, L3, L4, L5, L6, L7, bs_app]
      simp [secT, ← HM.out, preT, sufT]
  · have e0 : (partI (some (a, b))).length = 2 := rfl
    obtain ⟨ha7, hb7⟩ := HDA.out a b rfl
    obtain ⟨ha, hb⟩ := HO.out a b rfl
    have h5 := H5.out
    rw [e0] at HQ h5
    obtain ⟨bb, oo, rfl, hbb, hcc⟩ := h5.2 (by decide)
    have hcw : ∀ w', Keep (fun _ => False) w w' → w'.cell? ⟨bb, oo, none⟩ = some (.int .i64 a) ∧ w'.cell? ⟨bb, oo + 1, none⟩ = some (.int .i64 b) := fun w' hk =>
      ⟨(World.cell?_of_block (a := ⟨bb, oo, none⟩) (hk.block bb (by omega) id)).trans (hcc 0 (by decide)), (World.cell?_of_block (a := ⟨bb, oo + 1, none⟩) (hk.block bb (by omega) id)).trans (hcc 1 (by decide))⟩
    have HCW := Lib.hid hcw
    clear hcw hcc h5
    cases pk
    all_goals
      go_wp2_with (first
        | (go_at_call 19; refine HSTR.out.mono ?_; rintro e w1 ⟨rfl, hk⟩; have hq1 := HQ.out.keep hk id; have q15 : w1.cell? ⟨q, 5, none⟩ = some (.slice (some ⟨bb, oo, none⟩) 2 c5) := (hq1.cell 5).trans rfl; obtain ⟨k1, k2⟩ := HCW.out w1 hk; have hp1 := HPOW.out.keep hk (fun _ _ => id); have HP1 := Lib.hid hp1; have HQ1 := Lib.hid hq1; have HK := Lib.hid hk; clear hk hq1 hp1)
        | (go_at_call 20; (with_reducible refine (t_itoa a ha _ HP1.out).mono ?_); rintro e w2 ⟨rfl, hk2⟩; have hk02 := HK.out.trans hk2; have hq2 := HQ.out.keep hk02 id; have q25 : w2.cell? ⟨q, 5, none⟩ = some (.slice (some ⟨bb, oo, none⟩) 2 c5) := (hq2.cell 5).trans rfl; obtain ⟨m1, m2⟩ := HCW.out w2 hk02; have hp2 := HPOW.out.keep hk02 (fun _ _ => id); have HP2 := Lib.hid hp2; have HK2 := Lib.hid hk02; clear hk2 hk02 hq2 hp2)
        | (go_at_call 20; (with_reducible refine (t_itoa b hb _ HP2.out).mono ?_); rintro e w3 ⟨rfl, hk3⟩; have HK3 := Lib.hid (HK2.out.trans hk3); clear hk3))
      go_ret
      refine ⟨?_, HK3.out⟩
      obtain ⟨L1, L2, L3, L4, L5, L6, L7⟩ := HL.out
      simp only [L1, L2, L3, L4, L5, L6, L7, bs_app]
      simp [secT, ← HM.out, preT, sufT]
end Go.Proofs.YtanombfdfpfcoaaGreatDoor

namespace Go.Proofs.YtanombfdfpfcoaaGreatDoor
set_option linter.unusedVariables false
set_option linter.unusedSimpArgs false
open Go.RowKit

/-- What a right section is, in plain words. -/
structure Right (path : List Nat) (part : List UInt8) (fs : List (List UInt8)) (nt : Bool) (o : Option (Nat × Nat)) : Prop where
  pl : path.length ≤ 6
  ph : ∀ p ∈ path, 0 < p ∧ p < 1000
  fl : fs.length ≤ 8
  fa : ∀ f ∈ fs, AtomOk f
  f40 : ∀ f ∈ fs, f.length ≤ 40
  pt : part = [] ∨ PartOk part
  fp : fs ≠ [] → part = cHEADER
  n : nt = true → fs ≠ []
  oo : ∀ a b, o = some (a, b) → a < 10000000 ∧ b < 10000000

theorem Right.part10 {path : List Nat} {part : List UInt8} {fs : List (List UInt8)} {nt : Bool} {o : Option (Nat × Nat)} (h : Right path part fs nt o) : part.length ≤ 10 := by
  rcases h.pt with rfl | rfl | rfl | rfl <;> decide

/-- A section as a value. -/
def secV (path : List Nat) (part : List UInt8) (fs : List (List UInt8)) (nt pk : Bool) (o : Option (Nat × Nat)) (a0 a2 a5 : Option Addr) (c0 c2 c5 : Nat) : Value :=
  .agg #[.slice a0 path.length c0, .string (bs part), .slice a2 fs.length c2, .bool nt, .bool pk, .slice a5 (partI o).length c5]

set_option maxRecDepth 100000 in
theorem t_sectext (w : World) (B : Nat) (path : List Nat) (part : List UInt8) (fs : List (List UInt8)) (nt pk : Bool) (o : Option (Nat × Nat)) (a0 a2 a5 : Option Addr) (c0 c2 c5 : Nat) (R : Right path part fs nt o)
    (hB : B ≤ w.heap.size) (h0 : Arg B w a0 path.length (path.map nI)) (h2 : Arg B w a2 fs.length (fs.map strV)) (h5 : Arg B w a5 (partI o).length ((partI o).map nI)) (hc2 : fs.length ≤ c2) (hpow : Pow w) :
    Calls Tryz.prog 6 #[secV path part fs nt pk o a0 a2 a5 c0 c2 c5] w fun e w' => e = .returned (.tuple #[.string (bs (secT path part fs nt pk o)), .bool true]) ∧ Keep (fun _ => False) w w' := by
  have h52 : (partI o).length ≤ 2 := by cases o with | none => decide | some ab => exact Nat.le_refl 2
  have H0 := Lib.hid h0
  have H2 := Lib.hid h2
  have H5 := Lib.hid h5
  have HR := Lib.hid R
  have HP := Lib.hid hpow
  unfold secV
  clear h0 h2 h5 R hpow
  go_enter Tryz.func6, Tryz.ntmps6
  go_wp2_with (first
    | (go_at_call 13; refine (t_secof _ a0 a2 a5 _ _ _ c0 c2 c5 (bs part) nt pk h52).mono ?_; rintro e w1 ⟨q, rfl, hql, hq, hk⟩; have HQ := Lib.hid hq; have HK := Lib.hid (((Keep.refl (fun _ => False) w).alloc _).trans hk); clear hq hk)
    | (go_at_call 14; refine (t_fetch _ q B path part fs nt pk o a0 a2 a5 c0 c2 c5 HQ.out (Nat.le_trans hB HK.out.size) (H0.out.keep HK.out hB (fun _ _ => id)) (H2.out.keep HK.out hB (fun _ _ => id)) (H5.out.keep HK.out hB (fun _ _ => id)) HR.out.oo hc2 (HP.out.keep HK.out (fun _ _ => id)) HR.out.pl (fun p hp => (HR.out.ph p hp).2) HR.out.fl HR.out.f40 HR.out.part10 HR.out.fp HR.out.n).mono ?_; rintro e w2 ⟨rfl, hk2⟩; have HK2 := Lib.hid (HK.out.trans hk2); clear hk2))
  go_ret2
  exact ⟨rfl, HK2.out⟩
end Go.Proofs.YtanombfdfpfcoaaGreatDoor
