/- The reading of a text of fields as criteria and the comparison, for the proof of FnCritDates. -/
import Derived.Test.YtlnbikcfjnloaaaGreatDoorOwnA
import Derived.Test.YtlnbikcfjnloaaaGreatDoorOwnD
import Derived.Test.YtlnbikcfjnloaaaGreatDoorProg
import Derived.Carry
import Derived.Test.YtlnbikcfjnloaaaGreatDoorOwnC
import Derived.Deep.RegionHeld3
namespace Go.Proofs.YtlnbikcfjnloaaaGreatDoor
set_option linter.unusedVariables false
set_option linter.unusedSimpArgs false
open Go.RowKit

/-- The cells of criteria that hold four days, LARGER and SMALLER. -/
def critV (mp : Nat) (d0 d1 d2 d3 : Int) (lg sm : Nat) : Array Value := #[.pointer none, .pointer none, .int .i64 d0, .int .i64 d1, .int .i64 d2, .int .i64 d3, .map (some mp), .slice none 0 0, .slice none 0 0, .slice none 0 0, .slice none 0 0, .int .u32 lg, .int .u32 sm, .slice none 0 0, .slice none 0 0]
set_option maxRecDepth 100000 in
theorem t_newCrit (w : World) : Calls Tryz.prog 13 #[] w fun e w' => e = .returned (.pointer (some ⟨w.heap.size + 1, 0, none⟩)) ∧ w'.heap[w.heap.size]? = some (.map #[] 0) ∧ Blk w' (w.heap.size + 1) (critV w.heap.size 0 0 0 0 0 0) 71 ∧ Keep (fun _ => False) w w' := by
  go_enter Tryz.func13, Tryz.ntmps13
  go_wp2
  rw [run_makeMap]
  go_wp2
  have hz : (w.alloc (.map #[] 0)).heap.size = w.heap.size + 1 := by simp
  have hb := Blk.new (w.alloc (.map #[] 0)) (critV w.heap.size 0 0 0 0 0 0) 71
  have hm := (heap_alloc_old (w.alloc (.map #[] 0)) (.cells (critV w.heap.size 0 0 0 0 0 0) 71) (r := w.heap.size) (by simp)).trans (heap_alloc_new w (.map #[] 0))
  rw [hz] at hb
  refine bodyPost_ret (v := .pointer (some ⟨w.heap.size + 1, 0, none⟩)) (by simp [results, Tryz.results13, go_sem]) rfl ⟨rfl, hm, hb, ((Keep.refl _ w).alloc _).alloc _⟩

set_option maxRecDepth 100000 in
theorem t_cclos (w : World) (b1 b2 b3 c fg : Nat) (v : Value) (ops : List (List UInt8 × List UInt8)) (A B : Array Value) (h : PfAll c fg ops A B) (hb : Blk w c A 71) (hne : fg ≠ c) (a : Option Addr) (cap : Nat) (ha : ops ≠ [] → a = some ⟨fg, 0, none⟩) (hcap : 2 * ops.length ≤ cap) (hm : cap ≤ 9223372036854775807)
    (hc : ∀ i, i < 2 * ops.length → w.cell? ⟨fg, i, none⟩ = some (((flatF ops).map strI).getD i default)) (h1 : Blk w b1 #[.pointer (some ⟨c, 0, none⟩)] 50) (h2 : Blk w b2 #[.slice a (2 * ops.length) cap] 38) (h3 : Blk w b3 #[v] 40) :
    Calls Tryz.prog 15 #[.pointer (some ⟨b1, 0, none⟩), .pointer (some ⟨b2, 0, none⟩), .pointer (some ⟨b3, 0, none⟩)] w fun e w' => e = .returned (.tuple #[]) ∧
      (Blk w' c B 71 ∧ Blk w' b3 #[.nilIface] 40) ∧ Keep (fun k => k = c ∨ k = b3) w w' := by
  have c1 : w.cell? ⟨b1, 0, none⟩ = some (.pointer (some ⟨c, 0, none⟩)) := (h1.cell 0).trans rfl
  have c2 : w.cell? ⟨b2, 0, none⟩ = some (.slice a (2 * ops.length) cap) := (h2.cell 0).trans rfl
  have h3c := hb.ne h3 (by decide)
  have h3l := h3.lt
  have H3 := Lib.hid h3
  have HP := Lib.hid (t_parse w c fg ops A B h hb hne a cap ha hcap hm hc)
  clear h hb h1 h2 h3 ha hc
  go_enter Tryz.func15, Tryz.ntmps15
  go_wp2_with (go_at_call 16; refine HP.out.mono ?_; rintro e w1 ⟨rfl, hb1, hk⟩; have h3' := H3.out.keep hk (fun h => h3c h.symm); have c3 : w1.cell? ⟨b3, 0, none⟩ = some v := (h3'.cell 0).trans rfl; have f3 := h3'.free; have HB1 := Lib.hid hb1; have H3' := Lib.hid h3'; have HK := Lib.hid hk; clear hb1 h3' hk)
  go_end0
  exact ⟨rfl, ⟨HB1.out.far h3c _, H3'.out.set 0 .nilIface⟩, (HK.out.mono (fun _ _ h => .inl h)).at (fun _ => .inr rfl) 0 _⟩
end Go.Proofs.YtlnbikcfjnloaaaGreatDoor

namespace Go.Proofs.YtlnbikcfjnloaaaGreatDoor
set_option linter.unusedVariables false
set_option linter.unusedSimpArgs false
open Go.RowKit

theorem Keep.cellOf {M : Nat → Prop} {w w' : World} (h : Keep M w w') {k i : Nat} (hk : k < w.heap.size) (hM : ¬ M k) : w'.cell? ⟨k, i, none⟩ = w.cell? ⟨k, i, none⟩ := by
  unfold World.cell?
  simp only [h.block k hk hM]
theorem ownS_cap {w : World} {base : Nat} {e : TypeId} {sz : Nat} {v : Value} {n : Nat} {xs : List Value} (h : w.ownsRow base e sz v n xs) {a : Option Addr} {m c : Nat} (hv : v = .slice a m c) : c ≤ 9223372036854775807 := by
  rcases h.2 with ⟨rfl, _⟩ | ⟨g, cap, cur, rfl, _, _, _, h2, _⟩
  · injection hv with _ _ h
    omega
  · injection hv with _ _ h
    unfold maxLen at h2
    omega
theorem flatF_ne {ops : List (List UInt8 × List UInt8)} (h : ops ≠ []) : flatF ops ≠ [] := by
  intro e
  have := flatF_len ops
  rw [e] at this
  exact h (List.length_eq_zero_iff.1 (by simp at this; omega))
set_option maxRecDepth 100000 in
set_option maxHeartbeats 2000000 in
theorem t_CritOf (w : World) (T : List UInt8) (ops : List (List UInt8 × List UInt8)) (d0 d1 d2 d3 : Int) (lg sm : Nat) (hT : T = joinS (flatF ops)) (hat : ∀ a ∈ flatF ops, AtomOk a) (h0 : ops ≠ []) (hl : ops.length < 400) (hTl : T.length ≤ 4000)
    (hp : ∀ c fg mp, PfAll c fg ops (critV mp 0 0 0 0 0 0) (critV mp d0 d1 d2 d3 lg sm)) (hF : First w) (hE : ∃ v, w.cell? ⟨17, 0, none⟩ = some v) (hd : ∀ d ∈ [d0, d1, d2, d3], 0 ≤ d ∧ d ≤ 1000000) (hne : 0 < (dayL 0 [d0, d1, d2, d3] ++ numT 13 lg ++ numT 14 sm).length) :
    Calls Tryz.prog 7 #[.string (bs T)] w fun e w' => ∃ v L, L = dayL 0 [d0, d1, d2, d3] ++ numT 13 lg ++ numT 14 sm ∧ e = .returned (.tuple #[v, .bool true]) ∧
      w'.ownsRow w.heap.size 28 7 v (L.length + 1) (critC 1 0 0 (L.length + 1) ++ cellsL L) ∧ Keep (fun _ => False) w w' := by
  have hmf : ∀ (fn : Fn) (first cap : Array Value) (w : World), (Instr.makeFunc fn first cap).run Tryz.prog w = .ok (.func fn first cap) w := fun _ _ _ _ => rfl
  have HF := Lib.hid hF
  have HE := Lib.hid hE
  have HP := Lib.hid hp
  have HD := Lib.hid (And.intro hd hne)
  have HT := Lib.hid hT
  have HA := Lib.hid (And.intro hat (And.intro h0 (And.intro hl hTl)))
  have hadd : bs T ++ ⟨#[13, 10]⟩ = bs (T ++ [13, 10]) := by
    have h := bs_app T [13, 10]
    rw [bs_def [13, 10]] at h
    exact h
  have hsz : ¬9223372036854775807 < (bs T).size + 2 := by rw [bs_size]; have := HA.out; omega
  clear hF hE hp hd hne hT hat h0 hl hTl
  go_enter Tryz.func7, Tryz.ntmps7
  go_wp2_with (first
    | (go_at_call 11; refine (t_reader _ (T ++ [13, 10]) (by simp) (by simp only [List.length_append, List.length_cons, List.length_nil]; have := HA.out; omega) HF.out HE.out).mono ?_; rintro e w1 ⟨q, r, b, g, sr, rfl, hq0, hr, hrm, hk1⟩; have HR := Lib.hid hr; have HRM := Lib.hid hrm; have HK1 := Lib.hid hk1; clear hr hrm hk1)
    | (go_at_call 12; refine (t_line _ (br_unread0 _ _ _ _) _ _ _ _ _ _ _ HR.out (flatF ops) (flatF_ne HA.out.2.1) (by rw [flatF_len]; have := HA.out.2.2.1; omega) HA.out.1 ⟨[], by show (T ++ [13, 10]).drop 0 = _; rw [List.drop_zero, HT.out]; simp, Nat.zero_le _⟩).mono ?_; rintro e w2 ⟨v, rfl, hv, hk2⟩; rw [flatF_len] at hv; have hcm := fun a m c => ownS_cap hv (a := a) (m := m) (c := c); obtain ⟨fg, cap, rfl, hfg, hfgl, hcap, hcl⟩ := ownS_slice hv (by have := List.length_pos_iff.2 HA.out.2.1; omega); replace hcm := hcm _ _ _ rfl; have HV := Lib.hid hcl; have HG := Lib.hid (And.intro hfg (And.intro hfgl (And.intro hcap hcm))); have HK2 := Lib.hid hk2; clear hv hk2 hcl hfg hfgl hcap hcm))
  have z1 := fun (w : World) (o : Obj) => (show (w.alloc o).heap.size = w.heap.size + 1 from by simp)
  have hb1 := (Blk.new w2 #[.slice (some ⟨fg, 0, none⟩) (2 * ops.length) cap] 38).alloc (.cells #[.nilIface] 40)
  have hb2 := Blk.new (w2.alloc (.cells #[.slice (some ⟨fg, 0, none⟩) (2 * ops.length) cap] 38)) #[.nilIface] 40
  rw [z1] at hb2
  have hk3 := ((Keep.refl (fun _ => False) w2).alloc (.cells #[.slice (some ⟨fg, 0, none⟩) (2 * ops.length) cap] 38)).alloc (.cells #[.nilIface] 40)
  have hz3 : ((w2.alloc (.cells #[.slice (some ⟨fg, 0, none⟩) (2 * ops.length) cap] 38)).alloc (.cells #[.nilIface] 40)).heap.size = w2.heap.size + 1 + 1 := by rw [z1, z1]
  generalize (w2.alloc (.cells #[.slice (some ⟨fg, 0, none⟩) (2 * ops.length) cap] 38)).alloc (.cells #[.nilIface] 40) = W3 at hb1 hb2 hk3 hz3 ⊢
  refine (t_newCrit W3).mono ?_
  rintro e w4 ⟨rfl, hm4, hc4, hk4⟩
  have hb1' := hb1.keep hk4 id
  have hb2' := hb2.keep hk4 id
  have z4 := hk4.size
  have HB1 := Lib.hid hb1'
  have HB2 := Lib.hid hb2'
  have HM4 := Lib.hid hm4
  have HC4 := Lib.hid hc4
  have HK4 := Lib.hid (hk3.trans hk4)
  have HZ3 := Lib.hid hz3
  have h5 : w4.cell? ⟨w2.heap.size + 1, 0, none⟩ = some .nilIface := (hb2'.cell 0).trans rfl
  clear hb1 hb2 hk3 hm4 hc4 hk4 hb1' hb2' hz3
  go_wp2_with (fail)
  have hb6 := Blk.new w4 #[.pointer (some ⟨W3.heap.size + 1, 0, none⟩)] 50
  have hk5 := HK4.out.alloc (.cells #[.pointer (some ⟨W3.heap.size + 1, 0, none⟩)] 50)
  have hb15 := HB1.out.alloc (.cells #[.pointer (some ⟨W3.heap.size + 1, 0, none⟩)] 50)
  have hb25 := HB2.out.alloc (.cells #[.pointer (some ⟨W3.heap.size + 1, 0, none⟩)] 50)
  have hc5 := HC4.out.alloc (.cells #[.pointer (some ⟨W3.heap.size + 1, 0, none⟩)] 50)
  have hm5 : (w4.alloc (.cells #[.pointer (some ⟨W3.heap.size + 1, 0, none⟩)] 50)).heap[W3.heap.size]? = some (.map #[] 0) := (heap_alloc_old _ _ (by have := HC4.out.lt; omega)).trans HM4.out
  have hz5 := z1 w4 (.cells #[.pointer (some ⟨W3.heap.size + 1, 0, none⟩)] 50)
  have hcl4 := HC4.out.lt
  have hz3 := HZ3.out
  generalize (w4.alloc (.cells #[.pointer (some ⟨W3.heap.size + 1, 0, none⟩)] 50)) = W5 at hb6 hk5 hb15 hb25 hc5 hm5 hz5 ⊢
  have hgl := HG.out.2.1
  have hcells : ∀ i, i < 2 * ops.length → (W5.alloc (.cells #[.bool false] 4)).cell? ⟨fg, i, none⟩ = some (((flatF ops).map strI).getD i default) := by
    intro i hi
    have h := HV.out i (by omega)
    exact ((Keep.alloc hk5 (.cells #[.bool false] 4)).cellOf hgl id).trans h
  refine (t_tried W5 15 _ _ _ ?_ ?_ (t_cclos _ _ _ _ (W3.heap.size + 1) fg .nilIface ops _ _ (HP.out (W3.heap.size + 1) fg W3.heap.size) (hc5.alloc _) (by omega) (some ⟨fg, 0, none⟩) cap (fun _ => rfl) HG.out.2.2.1 HG.out.2.2.2 hcells (hb6.alloc _) (hb15.alloc _) (hb25.alloc _))).mono ?_
  · intro k hk
    rcases hk with rfl | rfl <;> omega
  · intro _
    kernel_rfl
  rintro e w' ⟨rfl, w6, ⟨hc6, hn6⟩, hk6, rfl⟩
  generalize hW : w6.setCell ⟨W5.heap.size, 0, none⟩ (.bool true) = W
  have far : ∀ {b : Nat} {cs : Array Value} {t : TypeId}, b ≠ W5.heap.size → Blk w6 b cs t → Blk W b cs t := fun hb h => by rw [← hW]; exact h.far hb _
  have kW : Keep (· = W5.heap.size) w6 W := by rw [← hW]; exact (Keep.refl (· = W5.heap.size) w6).at (fun _ => rfl) 0 _
  have gc := far (by omega) hc6
  have gn := far (by omega) hn6
  have g6 := far (by omega) ((hb6.alloc (.cells #[.bool false] 4)).keep hk6 (by omega))
  have gm : W.heap[W3.heap.size]? = some (.map #[] 0) := (kW.block _ (by have := hc6.lt; omega) (by omega)).trans ((hk6.block _ (by rw [z1]; omega) (by omega)).trans ((heap_alloc_old _ _ (by omega)).trans hm5))
  have kk : Keep (fun k => w2.heap.size ≤ k) w2 W := (((hk5.mono (fun _ _ h => absurd h id)).alloc (.cells #[.bool false] 4)).trans (hk6.mono (fun i _ h => by rcases h with rfl | rfl <;> omega))).trans (kW.mono (fun i _ h => by subst h; omega))
  have KK := Lib.hid kk
  have KC := Lib.hid gc
  have KM := Lib.hid gm
  have h5 : W.cell? ⟨w2.heap.size + 1, 0, none⟩ = some .nilIface := (gn.cell 0).trans rfl
  have h6 : W.cell? ⟨w4.heap.size, 0, none⟩ = some (.pointer (some ⟨W3.heap.size + 1, 0, none⟩)) := (g6.cell 0).trans rfl
  clear gc gm gn g6 kk kW far hc6 hn6 hk6 hW hb6 hk5 hb15 hb25 hc5 hm5 hz5 hcl4 hz3 hcells
  go_wp2_with (go_at_call 17; refine (t_critOf W (W3.heap.size + 1) W3.heap.size d0 d1 d2 d3 lg sm KC.out KM.out HD.out.1 HD.out.2).mono ?_; rintro e w9 ⟨v, L, hL, rfl, ho, hk9⟩; have HO := Lib.hid (And.intro hL ho); have HK9 := Lib.hid hk9; clear hL ho hk9)
  have s1 := HK1.out.size
  have s2 := HK2.out.size
  have s3 := KK.out.size
  refine bodyPost_ret (v := .tuple #[v, .bool true]) (by simp [results, Tryz.results7, go_sem]) rfl ?_
  exact ⟨v, L, HO.out.1, rfl, ownsRow_base HO.out.2 (by omega), ((HK1.out.trans' HK2.out (fun i hi h => absurd (HRM.out i h) (by omega))).trans' KK.out (fun i hi h => absurd h (by omega))).trans HK9.out⟩
end Go.Proofs.YtlnbikcfjnloaaaGreatDoor

namespace Go.Proofs.YtlnbikcfjnloaaaGreatDoor
set_option linter.unusedVariables false
set_option linter.unusedSimpArgs false
open Go.RowKit

set_option maxRecDepth 100000 in
theorem t_seqNil (w : World) : Calls Tryz.prog 18 #[.slice none 0 0, .slice none 0 0] w fun e w' => e = .returned (.bool true) ∧ w' = w := by
  go_enter Tryz.func18, Tryz.ntmps18
  go_wp2
  go_loopg [13] 1 (fun k v wr => k = 1 ∧ v = .int .i64 0 ∧ wr = w)
  case atStart => exact ⟨rfl, rfl, rfl⟩
  case round =>
    obtain ⟨rfl, rfl, rfl⟩ := hrel
    go_wp2
    exact bodyPost_ret (v := .bool true) (by simp [results, Tryz.results18, go_sem]) rfl ⟨rfl, rfl⟩

/-- Criteria as cells: kind, number, day, size. -/
def cells4 (L : List (Int × Nat × Int × Int)) : List Value := L.flatMap fun x => critC x.1 x.2.1 x.2.2.1 x.2.2.2
theorem cells4_at : ∀ (L : List (Int × Nat × Int × Int)) (i : Nat) (k : Int) (n : Nat) (d s : Int), L[i]? = some (k, n, d, s) → ∀ j, j < 7 → (cells4 L).getD (7 * i + j) default = (critC k n d s).getD j default
  | [], i, k, n, d, s, h => by simp at h
  | x :: L, 0, k, n, d, s, h => fun j hj => by
    simp at h
    subst h
    show (critC k n d s ++ cells4 L).getD (7 * 0 + j) default = _
    rw [List.getD, List.getElem?_append_left (by simp [critC]; omega), ← List.getD]
    simp
  | x :: L, i + 1, k, n, d, s, h => fun j hj => by
    have ih := cells4_at L i k n d s (by simpa using h) j hj
    rw [← ih]
    show (critC _ _ _ _ ++ cells4 L).getD (7 * (i + 1) + j) default = _
    rw [List.getD, List.getElem?_append_right (by simp [critC]; omega), ← List.getD]
    congr 1
    simp [critC]
    omega

set_option maxRecDepth 100000 in
set_option maxHeartbeats 2000000 in
theorem t_same (w : World) (L : List (Int × Nat × Int × Int)) (n g1 g2 p1 p2 : Nat) (hn : n = L.length) (hs : n < 1000) (hp1 : n ≤ p1) (hp2 : n ≤ p2) (hg1 : g1 < w.heap.size) (hg2 : g2 < w.heap.size) (h1 : ∀ i, i < 7 * n → w.cell? ⟨g1, i, none⟩ = some ((cells4 L).getD i default)) (h2 : ∀ i, i < 7 * n → w.cell? ⟨g2, i, none⟩ = some ((cells4 L).getD i default)) :
    Calls Tryz.prog 8 #[.slice (some ⟨g1, 0, none⟩) n p1, .slice (some ⟨g2, 0, none⟩) n p2] w fun e w' => e = .returned (.bool true) ∧ Keep (fun _ => False) w w' := by
  have H1 := Lib.hid h1
  have H2 := Lib.hid h2
  have HN := Lib.hid hn
  clear h1 h2 hn
  have hnn : ((n : Int) == n) = true := by simp
  go_enter Tryz.func8, Tryz.ntmps8
  go_wp2
  go_loopg [15] n (fun k v wr => ∃ i, v = .int .i64 (i : Nat) ∧ i + k = n ∧ Keep (fun _ => False) w wr)
  case atStart => exact ⟨0, rfl, by omega, Keep.refl _ _⟩
  case round =>
    obtain ⟨i, rfl, hik, hk⟩ := hrel
    have HK := Lib.hid hk
    by_cases hi : i < n
    · obtain ⟨k, m, d, s, hx⟩ : ∃ k m d s, L[i]? = some (k, m, d, s) := ⟨_, _, _, _, List.getElem?_eq_getElem (by have := HN.out; omega)⟩
      have hc := cells4_at L i k m d s hx
      have ec : ∀ (g : Nat), g < w.heap.size → (∀ i, i < 7 * n → w.cell? ⟨g, i, none⟩ = some ((cells4 L).getD i default)) → ∀ w', Keep (fun _ => False) wr w' → ∀ j, j < 7 → w'.cell? ⟨g, 7 * i + j, none⟩ = some ((critC k m d s).getD j default) := by
        intro g hg h w' hk' j hj
        have e := (hk.trans hk').block g hg id
        have hh := h (7 * i + j) (by omega)
        rw [hc j hj] at hh
        rw [← hh]
        unfold World.cell?
        simp only [e]
      have E1 := Lib.hid (ec g1 hg1 H1.out)
      have E2 := Lib.hid (ec g2 hg2 H2.out)
      clear hc ec hx hk
      go_wp2
      have sf : ∀ w', Keep (fun _ => False) wr w' → w'.cell? ⟨g1, i * 7, none⟩ = some (.int .i64 k) ∧ w'.cell? ⟨g1, i * 7 + 1, none⟩ = some (.string ⟨#[]⟩) ∧ w'.cell? ⟨g1, i * 7 + 2, none⟩ = some (.string ⟨#[]⟩) ∧ w'.cell? ⟨g1, i * 7 + 3, none⟩ = some (.int .u32 m) ∧ w'.cell? ⟨g1, i * 7 + 4, none⟩ = some (.int .i64 d) ∧ w'.cell? ⟨g1, i * 7 + 5, none⟩ = some (.slice none 0 0) ∧ w'.cell? ⟨g1, i * 7 + 6, none⟩ = some (.int .i64 s) ∧ w'.cell? ⟨g2, i * 7, none⟩ = some (.int .i64 k) ∧ w'.cell? ⟨g2, i * 7 + 1, none⟩ = some (.string ⟨#[]⟩) ∧ w'.cell? ⟨g2, i * 7 + 2, none⟩ = some (.string ⟨#[]⟩) ∧ w'.cell? ⟨g2, i * 7 + 3, none⟩ = some (.int .u32 m) ∧ w'.cell? ⟨g2, i * 7 + 4, none⟩ = some (.int .i64 d) ∧ w'.cell? ⟨g2, i * 7 + 5, none⟩ = some (.slice none 0 0) ∧ w'.cell? ⟨g2, i * 7 + 6, none⟩ = some (.int .i64 s) := by
        intro w' hk
        have h1 := E1.out w' hk
        have h2 := E2.out w' hk
        simp only [Nat.mul_comm 7 i] at h1 h2
        exact ⟨h1 0 (by omega), h1 1 (by omega), h1 2 (by omega), h1 3 (by omega), h1 4 (by omega), h1 5 (by omega), h1 6 (by omega), h2 0 (by omega), h2 1 (by omega), h2 2 (by omega), h2 3 (by omega), h2 4 (by omega), h2 5 (by omega), h2 6 (by omega)⟩
      have SF := Lib.hid sf
      obtain ⟨f10, f11, f12, f13, f14, f15, f16, f20, f21, f22, f23, f24, f25, f26⟩ := sf wr.drew (Keep.refl _ wr).drew
      clear sf
      go_region_held3 (fun w' => w'.cell? ⟨g1, i * 7, none⟩ = some (.int .i64 k) ∧ w'.cell? ⟨g1, i * 7 + 1, none⟩ = some (.string ⟨#[]⟩) ∧ w'.cell? ⟨g1, i * 7 + 2, none⟩ = some (.string ⟨#[]⟩) ∧ w'.cell? ⟨g1, i * 7 + 3, none⟩ = some (.int .u32 m) ∧ w'.cell? ⟨g1, i * 7 + 4, none⟩ = some (.int .i64 d) ∧ w'.cell? ⟨g1, i * 7 + 5, none⟩ = some (.slice none 0 0) ∧ w'.cell? ⟨g1, i * 7 + 6, none⟩ = some (.int .i64 s) ∧ w'.cell? ⟨g2, i * 7, none⟩ = some (.int .i64 k) ∧ w'.cell? ⟨g2, i * 7 + 1, none⟩ = some (.string ⟨#[]⟩) ∧ w'.cell? ⟨g2, i * 7 + 2, none⟩ = some (.string ⟨#[]⟩) ∧ w'.cell? ⟨g2, i * 7 + 3, none⟩ = some (.int .u32 m) ∧ w'.cell? ⟨g2, i * 7 + 4, none⟩ = some (.int .i64 d) ∧ w'.cell? ⟨g2, i * 7 + 5, none⟩ = some (.slice none 0 0) ∧ w'.cell? ⟨g2, i * 7 + 6, none⟩ = some (.int .i64 s)) ((refine SF.out _ ?_; repeat (first | exact Keep.refl _ _ | refine Keep.drew ?_ | refine Keep.alloc ?_ _ | refine Keep.set ?_ (fun h => by simp at h; try omega) _))) (fail)
      all_goals
        have hb1 := (Blk.new wr (critC k m d s).toArray 28).alloc (.cells (critC k m d s).toArray 28)
        have hb2 := Blk.new (wr.alloc (.cells (critC k m d s).toArray 28)) (critC k m d s).toArray 28
        rw [show (wr.alloc (.cells (critC k m d s).toArray 28)).heap.size = wr.heap.size + 1 from by simp] at hb2
        replace hb1 := hb1.drew
        replace hb2 := hb2.drew
        have hkk := HK.out.trans (((Keep.refl (fun _ => False) wr).alloc (.cells (critC k m d s).toArray 28)).alloc (.cells (critC k m d s).toArray 28)).drew
        simp only [critC] at hb1 hb2 hkk
        generalize World.drew _ = WW at hb1 hb2 hkk ⊢
        have x10 : WW.cell? ⟨wr.heap.size, 0, none⟩ = some (.int .i64 k) := (hb1.cell 0).trans rfl
        have x11 : WW.cell? ⟨wr.heap.size, 1, none⟩ = some (.string ⟨#[]⟩) := (hb1.cell 1).trans rfl
        have x12 : WW.cell? ⟨wr.heap.size, 2, none⟩ = some (.string ⟨#[]⟩) := (hb1.cell 2).trans rfl
        have x13 : WW.cell? ⟨wr.heap.size, 3, none⟩ = some (.int .u32 m) := (hb1.cell 3).trans rfl
        have x14 : WW.cell? ⟨wr.heap.size, 4, none⟩ = some (.int .i64 d) := (hb1.cell 4).trans rfl
        have x15 : WW.cell? ⟨wr.heap.size, 5, none⟩ = some (.slice none 0 0) := (hb1.cell 5).trans rfl
        have x16 : WW.cell? ⟨wr.heap.size, 6, none⟩ = some (.int .i64 s) := (hb1.cell 6).trans rfl
        have x20 : WW.cell? ⟨wr.heap.size + 1, 0, none⟩ = some (.int .i64 k) := (hb2.cell 0).trans rfl
        have x21 : WW.cell? ⟨wr.heap.size + 1, 1, none⟩ = some (.string ⟨#[]⟩) := (hb2.cell 1).trans rfl
        have x22 : WW.cell? ⟨wr.heap.size + 1, 2, none⟩ = some (.string ⟨#[]⟩) := (hb2.cell 2).trans rfl
        have x23 : WW.cell? ⟨wr.heap.size + 1, 3, none⟩ = some (.int .u32 m) := (hb2.cell 3).trans rfl
        have x24 : WW.cell? ⟨wr.heap.size + 1, 4, none⟩ = some (.int .i64 d) := (hb2.cell 4).trans rfl
        have x25 : WW.cell? ⟨wr.heap.size + 1, 5, none⟩ = some (.slice none 0 0) := (hb2.cell 5).trans rfl
        have x26 : WW.cell? ⟨wr.heap.size + 1, 6, none⟩ = some (.int .i64 s) := (hb2.cell 6).trans rfl
        have HKK := Lib.hid hkk
        clear hkk hb1 hb2 SF f10 f11 f12 f13 f14 f15 f16 f20 f21 f22 f23 f24 f25 f26
        go_wp2_with (go_at_call 18; refine (t_seqNil _).mono ?_; rintro e w2 ⟨rfl, rfl⟩)
        go_roundg (gk - 1)
        case measure => omega
        case rel => exact ⟨i + 1, rfl, by omega, HKK.out⟩
    · have hin : i = n := by omega
      subst hin
      clear hk
      go_wp2
      exact bodyPost_ret (v := .bool true) (by simp [results, Tryz.results8, go_sem]) rfl ⟨rfl, HK.out⟩
end Go.Proofs.YtlnbikcfjnloaaaGreatDoor

namespace Go.Proofs.YtlnbikcfjnloaaaGreatDoor
set_option linter.unusedVariables false
set_option linter.unusedSimpArgs false
open Go.RowKit

def opsSz (a b : Nat) : List (List UInt8 × List UInt8) := [(kLARGER, dig a), (kLARGER, dig b), (kSMALLER, dig a), (kSMALLER, dig b)]
def txtSz (a b : Nat) : List UInt8 := [76, 65, 82, 71, 69, 82, 32] ++ dig a ++ [32, 76, 65, 82, 71, 69, 82, 32] ++ dig b ++ [32, 83, 77, 65, 76, 76, 69, 82, 32] ++ dig a ++ [32, 83, 77, 65, 76, 76, 69, 82, 32] ++ dig b
theorem txtSz_eq (a b : Nat) : txtSz a b = joinS (flatF (opsSz a b)) := by
  simp [txtSz, opsSz, flatF, joinS, kLARGER, kSMALLER]
theorem critB_blk {w : World} {c lg sm mp : Nat} {d0 d1 d2 d3 : Int} : Blk w c (critV mp d0 d1 d2 d3 lg sm) 71 ↔ CritB w c [.pointer none, .pointer none, .int .i64 d0, .int .i64 d1, .int .i64 d2, .int .i64 d3, .map (some mp), .slice none 0 0, .slice none 0 0, .slice none 0 0, .slice none 0 0] lg sm (.slice none 0 0) (.slice none 0 0) := by
  constructor
  · intro h
    exact ⟨_, _, _, _, _, _, _, _, _, _, _, rfl, h⟩
  · rintro ⟨u0, u1, u2, u3, u4, u5, u6, u7, u8, u9, u10, he, h⟩
    simp only [List.cons.injEq, and_true] at he
    obtain ⟨rfl, rfl, rfl, rfl, rfl, rfl, rfl, rfl, rfl, rfl, rfl⟩ := he
    exact h
theorem pfOk_larger (c fg mp m lg sm : Nat) (d0 d1 d2 d3 : Int) (hm : m < 4294967296) : PfOk c fg kLARGER (dig m) (critV mp d0 d1 d2 d3 lg sm) (critV mp d0 d1 d2 d3 (mx0 lg m) sm) := by
  intro w fo n cap hb h0 h1 hn hc hcm hne
  refine (t_pfLarger w c fg fo n cap m lg sm _ _ _ (critB_blk.1 hb) h0 h1 hn hc hcm hne hm).mono ?_
  rintro e w' ⟨he, hc, hk⟩
  exact ⟨he, critB_blk.2 hc, hk⟩
theorem pfOk_smaller (c fg mp m lg sm : Nat) (d0 d1 d2 d3 : Int) (hm : m < 4294967296) : PfOk c fg kSMALLER (dig m) (critV mp d0 d1 d2 d3 lg sm) (critV mp d0 d1 d2 d3 lg (mn0 sm m)) := by
  intro w fo n cap hb h0 h1 hn hc hcm hne
  refine (t_pfSmaller w c fg fo n cap m lg sm _ _ _ (critB_blk.1 hb) h0 h1 hn hc hcm hne hm).mono ?_
  rintro e w' ⟨he, hc, hk⟩
  exact ⟨he, critB_blk.2 hc, hk⟩
theorem pfAll_sz (a b : Nat) (ha : a < 4294967296) (hb : b < 4294967296) (c fg mp : Nat) : PfAll c fg (opsSz a b) (critV mp 0 0 0 0 0 0) (critV mp 0 0 0 0 (mx0 (mx0 0 a) b) (mn0 (mn0 0 a) b)) :=
  ⟨_, pfOk_larger _ _ _ _ _ _ _ _ _ _ ha, _, pfOk_larger _ _ _ _ _ _ _ _ _ _ hb, _, pfOk_smaller _ _ _ _ _ _ _ _ _ _ ha, _, pfOk_smaller _ _ _ _ _ _ _ _ _ _ hb, rfl⟩

theorem atomOk_of (l : List UInt8) (h0 : 0 < l.length) (hl : l.length < 100000) (hc : ∀ x ∈ l, AtomCh x.toNat) (hn : l ≠ [78, 73, 76]) : AtomOk l := by
  refine ⟨h0, hl, fun j hj => ?_, hn⟩
  have : l.getD j 0 = l[j] := by simp [List.getD, hj]
  rw [this]
  exact hc _ (List.getElem_mem hj)
theorem dig_len10 (n : Nat) (h : n < 4294967296) : (dig n).length ≤ 10 := dig_len n 10 (by omega) (by omega)
theorem dig_atom (n : Nat) (h : n < 4294967296) : AtomOk (dig n) := by
  have hl := dig_len10 n h
  refine atomOk_of _ (List.length_pos_iff.2 (dig_ne n)) (by omega) (fun x hx => ?_) ?_
  · have := dig_mem n x hx
    unfold AtomCh
    omega
  · intro e
    have := dig_mem n 78 (by rw [e]; simp)
    have h2 : (78 : UInt8).toNat = 78 := by decide
    omega
theorem atom_larger : AtomOk kLARGER := atomOk_of _ (by decide) (by decide) (by intro x hx; simp [kLARGER] at hx; rcases hx with rfl | rfl | rfl | rfl | rfl | rfl <;> (unfold AtomCh; decide)) (by decide)
theorem atom_smaller : AtomOk kSMALLER := atomOk_of _ (by decide) (by decide) (by intro x hx; simp [kSMALLER] at hx; rcases hx with rfl | rfl | rfl | rfl | rfl | rfl | rfl <;> (unfold AtomCh; decide)) (by decide)
theorem atoms_sz (a b : Nat) (ha : a < 4294967296) (hb : b < 4294967296) : ∀ x ∈ flatF (opsSz a b), AtomOk x := by
  intro x hx
  simp only [opsSz, flatF, List.mem_cons, List.not_mem_nil, or_false] at hx
  rcases hx with rfl | rfl | rfl | rfl | rfl | rfl | rfl | rfl
  · exact atom_larger
  · exact dig_atom a ha
  · exact atom_larger
  · exact dig_atom b hb
  · exact atom_smaller
  · exact dig_atom a ha
  · exact atom_smaller
  · exact dig_atom b hb

set_option maxRecDepth 100000 in
set_option maxHeartbeats 2000000 in
theorem t_sizes (w : World) (a b : Nat) (ha : a < 4294967296) (hb : b < 4294967296) (hF : First w) (hE : ∃ v, w.cell? ⟨17, 0, none⟩ = some v) :
    Calls Tryz.prog 4 #[.int .u32 a, .int .u32 b] w fun e w' => e = .returned (.bool true) ∧ Keep (fun _ => False) w w' := by
  rcases Nat.eq_zero_or_pos a with ha0 | ha0
  · subst ha0
    clear hF hE
    go_enter Tryz.func4, Tryz.ntmps4
    go_wp2
    exact bodyPost_ret (v := .bool true) (by simp [results, Tryz.results4, go_sem]) rfl ⟨rfl, Keep.refl _ _⟩
  have za : ((a : Int) == 0) = false := by rw [beq_eq_false_iff_ne]; omega
  rcases Nat.eq_zero_or_pos b with hb0 | hb0
  · subst hb0
    clear hF hE
    go_enter Tryz.func4, Tryz.ntmps4
    go_wp2
    exact bodyPost_ret (v := .bool true) (by simp [results, Tryz.results4, go_sem]) rfl ⟨rfl, Keep.refl _ _⟩
  have zb : ((b : Int) == 0) = false := by rw [beq_eq_false_iff_ne]; omega
  have hsz : ∀ l, (bs l).size = l.length := bs_size
  have hla := dig_len10 a ha
  have hlb := dig_len10 b hb
  have HF := Lib.hid hF
  have HE := Lib.hid hE
  clear hF hE
  have L1 : (⟨#[76, 65, 82, 71, 69, 82, 32]⟩ : ByteArray) = bs [76, 65, 82, 71, 69, 82, 32] := (bs_def _).symm
  have L2 : (⟨#[32, 76, 65, 82, 71, 69, 82, 32]⟩ : ByteArray) = bs [32, 76, 65, 82, 71, 69, 82, 32] := (bs_def _).symm
  have L3 : (⟨#[32, 83, 77, 65, 76, 76, 69, 82, 32]⟩ : ByteArray) = bs [32, 83, 77, 65, 76, 76, 69, 82, 32] := (bs_def _).symm
  have HL := Lib.hid (And.intro L1 (And.intro L2 L3))
  clear L1 L2 L3
  go_enter Tryz.func4, Tryz.ntmps4
  go_wp2_with (fail)
  refine (t_number9 a (by omega) _).mono ?_
  rintro e w1 ⟨rfl, hk1⟩
  have HK1 := Lib.hid hk1
  clear hk1
  go_wp2_with (fail)
  refine (t_number9 b (by omega) _).mono ?_
  rintro e w2 ⟨rfl, hk2⟩
  have HK2 := Lib.hid hk2
  clear hk2
  go_wp2_with (fail)
  obtain ⟨L1, L2, L3⟩ := HL.out
  have HKK := Lib.hid (HK1.out.trans HK2.out)
  obtain ⟨vE, hvE⟩ := HE.out
  have hlE : 17 < w.heap.size := cell_lt hvE
  have hlF : 11 < w.heap.size := cell_lt (HF.out 0 (by omega))
  have hF2 : First w2 := fun x hx => (HKK.out.cellOf hlF id).trans (HF.out x hx)
  have hE2 : ∃ v, w2.cell? ⟨17, 0, none⟩ = some v := ⟨vE, (HKK.out.cellOf hlE id).trans hvE⟩
  have hmx : mx0 (mx0 0 a) b = max a b := by unfold mx0; simp; split <;> omega
  have hmn : mn0 (mn0 0 a) b = min a b := by unfold mn0; simp; split <;> omega
  have htx : bs ([76, 65, 82, 71, 69, 82, 32] ++ dig a ++ [32, 76, 65, 82, 71, 69, 82, 32] ++ dig b ++ [32, 83, 77, 65, 76, 76, 69, 82, 32] ++ dig a ++ [32, 83, 77, 65, 76, 76, 69, 82, 32] ++ dig b) = bs (txtSz a b) := rfl
  simp only [L1, L2, L3, bs_app]
  rw [htx]
  have hC := t_CritOf w2 (txtSz a b) (opsSz a b) 0 0 0 0 (max a b) (min a b) (txtSz_eq a b) (atoms_sz a b ha hb) (by simp [opsSz]) (by simp [opsSz]) (by simp [txtSz]; omega) (fun c fg mp => by rw [← hmx, ← hmn]; exact pfAll_sz a b ha hb c fg mp) hF2 hE2 (by simp) (by simp only [numT, List.length_append]; rw [if_neg (by omega)]; simp only [List.length_cons]; omega)
  refine hC.mono ?_
  rintro e w3 ⟨v, L, hL, rfl, ho, hk3⟩
  have hL2 : L = [(13, max a b, 0), (14, min a b, 0)] := by
    rw [hL, numT, numT, if_neg (by omega), if_neg (by omega)]
    rfl
  subst hL2
  obtain ⟨g, cap, rfl, hgb, hgl, hcap, hcells⟩ := ownS_slice ho (by simp)
  have HC := Lib.hid hcells
  have HG := Lib.hid (And.intro hgl hcap)
  have HK3 := Lib.hid (HKK.out.trans hk3)
  clear hcells hgl hcap hgb ho hk3 hC hL L1 L2 L3 htx hF2 hE2 hvE
  simp only [List.length_cons, List.length_nil] at HC HG ⊢
  go_wp2_with (fail)
  have hI1 : max (a : Int) b = ((max a b : Nat) : Int) := by omega
  have hI2 : min (a : Int) b = ((min a b : Nat) : Int) := by omega
  rw [hI1, hI2]
  have hn := Blk.new w3 (cells4 [(1, 0, 0, 3), (13, max a b, 0, 1), (14, min a b, 0, 1)]).toArray 28
  have hkn := HK3.out.alloc (.cells (cells4 [(1, 0, 0, 3), (13, max a b, 0, 1), (14, min a b, 0, 1)]).toArray 28)
  refine (t_same (w3.alloc (.cells (cells4 [(1, 0, 0, 3), (13, max a b, 0, 1), (14, min a b, 0, 1)]).toArray 28)) [(1, 0, 0, 3), (13, max a b, 0, 1), (14, min a b, 0, 1)] 3 g w3.heap.size cap 3 rfl (by omega) HG.out.2 (by omega) (by have := HG.out.1; simp; omega) (by simp) (fun i hi => ?_) (fun i hi => ?_)).mono ?_
  · rw [World.cell?_alloc_lt _ _ ⟨g, i, none⟩ HG.out.1]
    exact HC.out i (by omega)
  · rw [hn.cell i]
    have : i < (cells4 [(1, 0, 0, 3), (13, max a b, 0, 1), (14, min a b, 0, 1)]).length := hi
    simp [List.getD, this]
  rintro e w5 ⟨rfl, hk5⟩
  have HK5 := Lib.hid (hkn.trans hk5)
  clear hn hkn hk5
  go_wp2
  exact bodyPost_ret (v := .bool true) (by simp [results, Tryz.results4, go_sem]) rfl ⟨rfl, HK5.out⟩
end Go.Proofs.YtlnbikcfjnloaaaGreatDoor
