/- What the package's reader of fields reads, for the proof of FnSection, at the inputs that its statement's guards let in. -/
import Derived.Test.YtanombfdfpfcoaaGreatDoorOwnA
namespace Go.Proofs.YtanombfdfpfcoaaGreatDoor
set_option linter.unusedVariables false
set_option linter.unusedSimpArgs false
open Go.RowKit

/-- What an atom may hold. -/
def AtomCh (x : Nat) : Prop := 32 < x ∧ x < 127 ∧ x ≠ 40 ∧ x ≠ 41 ∧ x ≠ 123 ∧ x ≠ 34 ∧ x ≠ 91 ∧ x ≠ 93
/-- What ends an atom. -/
def AtomEnd (inR : Bool) (x : Nat) : Prop := x = 13 ∨ x = 32 ∨ x = 41 ∨ (x = 93 ∧ inR = true)

set_option maxRecDepth 100000 in
theorem t_atom (S : Source) (w : World) (r : Nat) (mx : Int) (inR : Bool) (br : Int) (pos : Nat) (last : Bool) (h : RdAt S w r mx inR br pos last) (a : List UInt8) (hl : pos + a.length < S.s.length) (hbig : a.length < 1000000)
    (ha : ∀ j, j < a.length → S.s.getD (pos + j) 0 = a.getD j 0) (hc : ∀ j, j < a.length → AtomCh (a.getD j 0).toNat) (he : AtomEnd inR (S.s.getD (pos + a.length) 0).toNat) (hn : a ≠ [78, 73, 76]) :
    Calls Tryz.prog 45 #[.pointer (some ⟨r, 0, none⟩)] w fun e w' => e = .returned (.tuple #[.iface 9 (.string (bs a)), .nilIface]) ∧ RdAt S w' r mx inR 0 (pos + a.length) false ∧ Keep (RM S r) w w' := by
  obtain ⟨c0, c1, c2, c3, c4, f⟩ := h.cells
  have hb := h.brackets 0
  obtain ⟨d0, d1, d2, d3, d4, f'⟩ := hb.cells
  have hk0 : Keep (RM S r) w (w.setCell ⟨r, 3, none⟩ (.int .i64 0)) := (Keep.refl (RM S r) w).at (fun _ => .inl rfl) 3 _
  have hnil : ((bs a).toList == [78, 73, 76]) = false := by rw [bs_toList, beq_eq_false_iff_ne]; exact hn
  have H := Lib.hid h
  have HA := Lib.hid ha
  have HC := Lib.hid hc
  have HE := Lib.hid he
  have HB := Lib.hid hb
  have HK0 := Lib.hid hk0
  clear h ha hc he hb hk0 hn
  go_enter Tryz.func45, Tryz.ntmps45
  go_wp2
  go_loopg [4] a.length (fun k v wr => ∃ j l, j + k = a.length ∧ v = .string (bs (a.take j)) ∧ RdAt S wr r mx inR 0 (pos + j) l ∧ Keep (RM S r) w wr)
  case atStart => exact ⟨0, last, by omega, by rw [List.take_zero, bs_nil], HB.out, HK0.out⟩
  case round =>
    obtain ⟨j, l, hj, rfl, hR, hk⟩ := hrel
    obtain ⟨e0, e1, e2, e3, e4, ff⟩ := hR.cells
    have HR := Lib.hid hR
    have HK := Lib.hid hk
    clear hR hk
    by_cases hlt : j < a.length
    · have hx1 := HC.out j hlt
      have hx2 : (S.s.getD (pos + j) 0).toNat = (a.getD j 0).toNat := by rw [HA.out j hlt]
      obtain ⟨x, hx⟩ : ∃ x : Nat, x = (a.getD j 0).toNat := ⟨_, rfl⟩
      rw [← hx] at hx1 hx2
      obtain ⟨x1, x2, x3, x4, x5, x6, x7, x8⟩ := hx1
      have hx3 : ((S.s.getD (pos + j) 0).toNat : Int) = (x : Int) := by rw [hx2]
      have HX := Lib.hid hx
      have HX3 := Lib.hid hx3
      clear hx hx2 hx3
      have hsz : (bs (a.take j)).size < 1000000 := by rw [bs_size]; simp; omega
      have hsz1 : (bs (a.take j)).size + (bs [UInt8.ofNat x]).size ≤ 9223372036854775807 := by rw [bs_size, bs_size]; simp; omega
      have HSZ := Lib.hid hsz1
      have n40 : ((x : Int) == 40) = false := by rw [beq_eq_false_iff_ne]; omega
      have n123 : ((x : Int) == 123) = false := by rw [beq_eq_false_iff_ne]; omega
      have n34 : ((x : Int) == 34) = false := by rw [beq_eq_false_iff_ne]; omega
      have n13 : ((x : Int) == 13) = false := by rw [beq_eq_false_iff_ne]; omega
      have n10 : ((x : Int) == 10) = false := by rw [beq_eq_false_iff_ne]; omega
      have n32 : ((x : Int) == 32) = false := by rw [beq_eq_false_iff_ne]; omega
      have n41 : ((x : Int) == 41) = false := by rw [beq_eq_false_iff_ne]; omega
      have n93 : ((x : Int) == 93) = false := by rw [beq_eq_false_iff_ne]; omega
      have n91 : ((x : Int) == 91) = false := by rw [beq_eq_false_iff_ne]; omega
      clear hsz hsz1
      go_wp2_with (first | (with_reducible refine at_inv ?_; refine rd_read (.tmp 15) (x : Int) HR.out (by omega) HX3.out (by omega) rfl rfl rfl ?_; intro w1 hR1 hk1; obtain ⟨g0, g1, g2, g3, g4, f1⟩ := hR1.cells; have HR1 := Lib.hid hR1; have HK1 := Lib.hid hk1; clear hR1 hk1) | (with_reducible refine at_conv ?_; refine wp_rune (.tmp 92) _ _ x rfl rfl (by omega) rfl (by kernel_rfl) (by kernel_rfl) ?_) | (with_reducible refine at_add ?_; refine wp_add (.tmp 91) (.tmp 93) _ _ (bs (a.take j)) (bs [UInt8.ofNat x]) rfl rfl rfl rfl HSZ.out ?_; rw [bs_snoc a j x hlt HX.out]))
      go_roundg (gk - 1)
      case measure => omega
      case rel => exact ⟨j + 1, true, by omega, rfl, HR1.out, HK.out.trans HK1.out⟩
    · have hj' : j = a.length := by omega
      subst hj'
      have hx1 := HE.out
      obtain ⟨x, hx⟩ : ∃ x : Nat, x = (S.s.getD (pos + a.length) 0).toNat := ⟨_, rfl⟩
      rw [← hx] at hx1
      have hx3 : ((S.s.getD (pos + a.length) 0).toNat : Int) = (x : Int) := by rw [hx]
      have HX3 := Lib.hid hx3
      clear hx hx3
      rw [List.take_length] at *
      have hxs : x = 13 ∨ x = 32 ∨ x = 41 ∨ (x = 93 ∧ inR = true) := hx1
      clear hx1
      rcases hxs with rfl | rfl | rfl | ⟨rfl, rfl⟩
      all_goals
        go_wp2_with (first | (with_reducible refine at_inv ?_; refine rd_read (.tmp 15) _ HR.out (by omega) HX3.out (by omega) rfl rfl rfl ?_; intro w1 hR1 hk1; obtain ⟨g0, g1, g2, g3, g4, f1⟩ := hR1.cells; have HR1 := Lib.hid hR1; have HK1 := Lib.hid hk1; clear hR1 hk1) | (with_reducible refine at_inv ?_; refine rd_unread (.tmp 98) HR1.out rfl rfl rfl ?_; intro w2 hR2 hk2; have HR2 := Lib.hid hR2; have HK2 := Lib.hid hk2; clear hR2 hk2))
        go_ret2
        exact ⟨rfl, HR2.out, (HK.out.trans HK1.out).trans HK2.out⟩
end Go.Proofs.YtanombfdfpfcoaaGreatDoor

namespace Go.Proofs.YtanombfdfpfcoaaGreatDoor
set_option linter.unusedVariables false
set_option linter.unusedSimpArgs false
open Go.RowKit

/-- Texts with blanks between them. -/
def joinS : List (List UInt8) → List UInt8
  | [] => []
  | [a] => a
  | a :: b :: r => a ++ 32 :: joinS (b :: r)
/-- An atom as the writers of lists know it. -/
structure AtomOk (a : List UInt8) : Prop where
  pos : 0 < a.length
  small : a.length < 100000
  ch : ∀ j, j < a.length → AtomCh (a.getD j 0).toNat
  ne : a ≠ [78, 73, 76]
/-- A string as an interface value. -/
def strI (a : List UInt8) : Value := .iface 9 (.string (bs a))

theorem Tryz.elemI : Elem Tryz.prog 63 20 .nilIface 16 :=
  ⟨by kernel_rfl, info_parts (by kernel_rfl), rfl, by decide⟩
theorem Tryz.elemN : Elem Tryz.prog 22 3 (.int .i64 0) 8 :=
  ⟨by kernel_rfl, info_parts (by kernel_rfl), rfl, by decide⟩

/-- A list of atoms with its closing bracket. -/
theorem joinS_cons {a : List UInt8} {r : List (List UInt8)} : ∃ t m, joinS (a :: r) ++ [41] = a ++ (t :: m) ∧ ((t = 41 ∧ r = [] ∧ m = []) ∨ (t = 32 ∧ r ≠ [] ∧ m = joinS r ++ [41])) := by
  cases r with
  | nil => exact ⟨41, [], by simp [joinS], .inl ⟨rfl, rfl, rfl⟩⟩
  | cons b r => exact ⟨32, joinS (b :: r) ++ [41], by simp [joinS], .inr ⟨rfl, by simp, rfl⟩⟩

set_option maxRecDepth 100000 in
theorem t_fieldsIn (S : Source) (w : World) (r : Nat) (mx : Int) (inR : Bool) (br : Int) (pos : Nat) (last : Bool) (h : RdAt S w r mx inR br pos last) (fs : List (List UInt8)) (hf0 : fs ≠ []) (hfl : fs.length < 1000) (hf : ∀ a ∈ fs, AtomOk a)
    (hs : Has S.s pos (joinS fs ++ [41])) :
    Calls Tryz.prog 30 #[.pointer (some ⟨r, 0, none⟩)] w fun e w' => ∃ v, e = .returned (.tuple #[v, .nilIface]) ∧
      w'.ownsRow w.heap.size 20 1 v fs.length (fs.map strI) ∧ RdAt S w' r mx inR 0 (pos + (joinS fs).length + 1) true ∧ Keep (RM S r) w w' := by
  obtain ⟨c0, c1, c2, c3, c4, f⟩ := h.cells
  have HF := Lib.hid hf
  have H := Lib.hid h
  have HS := Lib.hid hs
  have HF0 := Lib.hid hf0
  have HRM := Lib.hid (h.lt)
  clear h hf hs hf0
  go_enter Tryz.func30, Tryz.ntmps30
  go_wp2
  go_loopg [2] fs.length (fun k v wr => ∃ done rest p b l, fs = done ++ rest ∧ rest ≠ [] ∧ rest.length = k ∧ wr.ownsRow w.heap.size 20 1 v done.length (done.map strI) ∧ Has S.s p (joinS rest ++ [41]) ∧ p + (joinS rest).length = pos + (joinS fs).length ∧
    RdAt S wr r mx inR b p l ∧ Keep (RM S r) w wr)
  case atStart => exact ⟨[], fs, pos, br, last, rfl, HF0.out, rfl, World.ownsRow_nil _ _ _ _, HS.out, rfl, H.out, Keep.refl _ _⟩
  case round =>
    obtain ⟨done, rest, p, b, l, hd, hr0, hrl, hown, hhas, hp, hR, hk⟩ := hrel
    cases rest with
    | nil => exact absurd rfl hr0
    | cons a rest =>
    have hok : AtomOk a := HF.out a (by rw [hd]; simp)
    obtain ⟨t, m, he, ht⟩ := joinS_cons (a := a) (r := rest)
    rw [he] at hhas
    have hlen := congrArg List.length he
    simp only [List.length_append, List.length_cons, List.length_nil] at hlen
    obtain ⟨ha, htm⟩ := hhas.app
    have ht0 := htm.head
    have hle := htm.len
    simp only [List.length_cons] at hle
    have h0 := ha.get 0 hok.pos
    have hx1 := hok.ch 0 hok.pos
    rw [Nat.add_zero] at h0
    obtain ⟨x, hx⟩ : ∃ x : Nat, x = (a.getD 0 0).toNat := ⟨_, rfl⟩
    rw [← hx] at hx1
    have hx3 : ((S.s.getD p 0).toNat : Int) = (x : Int) := by rw [h0, hx]
    obtain ⟨x1, x2, x3, x4, x5, x6, x7, x8⟩ := hx1
    have n40 : ((x : Int) == 40) = false := by rw [beq_eq_false_iff_ne]; omega
    have n41 : ((x : Int) == 41) = false := by rw [beq_eq_false_iff_ne]; omega
    have n123 : ((x : Int) == 123) = false := by rw [beq_eq_false_iff_ne]; omega
    have n34 : ((x : Int) == 34) = false := by rw [beq_eq_false_iff_ne]; omega
    have n13 : ((x : Int) == 13) = false := by rw [beq_eq_false_iff_ne]; omega
    have hdl : done.length < 1000 := by have := congrArg List.length hd; simp at this; omega
    have hat : ∀ inR, AtomEnd inR (S.s.getD (p + a.length) 0).toNat := by
      intro inR
      rw [ht0]
      rcases ht with ⟨rfl, _⟩ | ⟨rfl, _⟩
      · exact .inr (.inr (.inl rfl))
      · exact .inr (.inl rfl)
    have htv : ∃ c : Int, ((S.s.getD (p + a.length) 0).toNat : Int) = c ∧ (c = 41 ∨ c = 32) ∧ ((c = 41 ∧ rest = [] ∧ m = []) ∨ (c = 32 ∧ rest ≠ [] ∧ m = joinS rest ++ [41])) := by
      refine ⟨_, rfl, ?_⟩
      rw [ht0]
      rcases ht with ⟨rfl, h⟩ | ⟨rfl, h⟩
      · exact ⟨.inl rfl, .inl ⟨rfl, h⟩⟩
      · exact ⟨.inr rfl, .inr ⟨rfl, h⟩⟩
    obtain ⟨c, hte, hc, hcc⟩ := htv
    have hget := fun j hj => ha.get j hj
    have hown0 := fun w1 (hk : Keep (RM S r) wr w1) => ownsRow_keep hown hk (fun k hk1 hk2 hm => Nat.not_lt.2 hk1 (HRM.out k hm))
    obtain ⟨e0, e1, e2, e3, e4, ff⟩ := hR.cells
    have hplt : p < S.s.length := by have := hok.pos; omega
    have hpl2 : p + a.length < S.s.length := by omega
    have hsz := hk.size
    have HX3 := Lib.hid hx3
    have HR := Lib.hid hR
    have HK := Lib.hid hk
    have HOK := Lib.hid hok
    have HAT := Lib.hid hat
    have HTE := Lib.hid hte
    have HG := Lib.hid hget
    have HOWN := Lib.hid hown0
    have HD := Lib.hid (And.intro hd (And.intro he (And.intro hlen hp)))
    have HTM := Lib.hid htm
    clear hhas ha hx3 hR hk hok hat hte hget hown0 hd he hp h0 ht0 hown hx hlen htm hle
    have HTT := Lib.hid hcc
    clear ht hcc
    rcases hc with rfl | rfl
    all_goals
      go_wp2_with (first
        | (with_reducible refine at_inv ?_; refine rd_read (.tmp 11) (x : Int) HR.out hplt HX3.out (by omega) rfl rfl rfl ?_; intro w1 hR1 hk1; obtain ⟨g0, g1, g2, g3, g4, f1⟩ := hR1.cells; have HR1 := Lib.hid hR1; have HK1 := Lib.hid hk1; clear hR1 hk1)
        | (with_reducible refine at_inv ?_; refine rd_unread (.tmp 21) HR1.out rfl rfl rfl ?_; intro w2 hR2 hk2; rw [Nat.add_sub_cancel] at hR2; have HR2 := Lib.hid hR2; have HK2 := Lib.hid hk2; clear hR2 hk2)
        | (go_at_call 45; refine (t_atom S _ r mx inR _ p _ HR2.out a hpl2 (by have := HOK.out.small; omega) HG.out HOK.out.ch (HAT.out _) HOK.out.ne).mono ?_; rintro e w3 ⟨rfl, hR3, hk3⟩; have hk03 := (HK1.out.trans HK2.out).trans hk3; have hle3 := hk03.size; have HR3 := Lib.hid hR3; have HK3 := Lib.hid hk03; clear hR3 hk3 hk03)
        | (at_builtin; refine wp_app1 Tryz.elemI (.tmp 61) (.tmp 63) rfl rfl w.heap.size _ done.length (done.map strI) rfl ((HOWN.out w3 HK3.out).alloc _) w3.heap.size (strI a) rfl (((Blk.new w3 _ _).cell 0).trans rfl) rfl (by omega) (by simp; omega) ?_; intro v4 w4 hv4 hk4 hb4 hat4; have hR4 := (HR3.out.keep (M := fun _ => False) ((Keep.refl _ w3).alloc _) (fun _ _ => id)).keep hk4 (fun k hk hb => Nat.not_lt.2 hb (HRM.out k hk)); have hk04 := ((HK.out.trans HK3.out).alloc (.cells #[strI a] 20)).trans' hk4 (fun i hi hb => absurd hi (Nat.not_lt.2 hb)); obtain ⟨i0, i1, i2, i3, i4, f4⟩ := hR4.cells; have HR4 := Lib.hid hR4; have HV4 := Lib.hid hv4; have HK4 := Lib.hid hk04; clear hR4 hv4 hk4 hb4 hat4 hk04)
        | (with_reducible refine at_inv ?_; refine rd_read (.tmp 69) _ HR4.out hpl2 HTE.out (by omega) rfl rfl rfl ?_; intro w5 hR5 hk5; have HR5 := Lib.hid hR5; have HK5 := Lib.hid hk5; clear hR5 hk5))
    · obtain ⟨hd, he, hlen, hp⟩ := HD.out
      rcases HTT.out with ⟨_, rfl, rfl⟩ | ⟨h, _⟩
      · go_ret2
        simp only [List.length_nil] at hlen
        refine ⟨v4, rfl, ?_, ?_, HK4.out.trans HK5.out⟩
        · rw [hd]
          have := ownsRow_keep HV4.out HK5.out (fun k hk1 hk2 hm => Nat.not_lt.2 hk1 (HRM.out k hm))
          simpa using this
        · have := HR5.out
          rw [show p + a.length + 1 = pos + (joinS fs).length + 1 from by omega] at this
          exact this
      · exact absurd h (by decide)
    · obtain ⟨hd, he, hlen, hp⟩ := HD.out
      rcases HTT.out with ⟨h, _⟩ | ⟨_, hne, rfl⟩
      · exact absurd h (by decide)
      · have hl3 : rest.length + 1 = gk := by simpa using hrl
        go_roundg (gk - 1)
        case measure => omega
        case rel =>
          have := ownsRow_keep HV4.out HK5.out (fun k hk1 hk2 hm => Nat.not_lt.2 hk1 (HRM.out k hm))
          simp only [List.length_append, List.length_cons, List.length_nil] at hlen
          exact ⟨done ++ [a], rest, p + a.length + 1, 0, true, by rw [hd]; simp, hne, by omega, by simpa using this, HTM.out.tail, by omega, HR5.out, HK4.out.trans HK5.out⟩
end Go.Proofs.YtanombfdfpfcoaaGreatDoor

namespace Go.Proofs.YtanombfdfpfcoaaGreatDoor
set_option linter.unusedVariables false
set_option linter.unusedSimpArgs false
open Go.RowKit

set_option maxRecDepth 100000 in
theorem t_list (S : Source) (w : World) (r : Nat) (mx : Int) (inR : Bool) (br : Int) (pos : Nat) (last : Bool) (h : RdAt S w r mx inR br pos last) (fs : List (List UInt8)) (hf0 : fs ≠ []) (hfl : fs.length < 1000) (hf : ∀ a ∈ fs, AtomOk a)
    (hs : Has S.s pos (40 :: (joinS fs ++ [41]))) :
    Calls Tryz.prog 44 #[.pointer (some ⟨r, 0, none⟩)] w fun e w' => ∃ v, e = .returned (.tuple #[v, .nilIface]) ∧
      w'.ownsRow w.heap.size 20 1 v fs.length (fs.map strI) ∧ RdAt S w' r mx inR 0 (pos + (joinS fs).length + 2) true ∧ Keep (RM S r) w w' := by
  obtain ⟨c0, c1, c2, c3, c4, f⟩ := h.cells
  have hx : ((S.s.getD pos 0).toNat : Int) = 40 := by rw [hs.head]; rfl
  have hl := hs.len
  simp only [List.length_cons, List.length_append, List.length_nil] at hl
  have ht := hs.tail
  have he : ((S.s.getD (pos + 1 + (joinS fs).length) 0).toNat : Int) = 41 := by rw [ht.app.2.head]; rfl
  have hl1 : pos < S.s.length := by omega
  have hl2 : pos + 1 + (joinS fs).length < S.s.length := by omega
  have hlt := h.lt
  have H := Lib.hid h
  have HX := Lib.hid hx
  have HT := Lib.hid ht
  have HE := Lib.hid he
  have HF := Lib.hid hf
  have HRM := Lib.hid hlt
  clear h hx ht he hf hs hlt hl
  go_enter Tryz.func44, Tryz.ntmps44
  go_wp2_with (first
    | (with_reducible refine at_inv ?_; refine rd_read (.tmp 10) 40 H.out hl1 HX.out (by omega) rfl rfl rfl ?_; intro w1 hR1 hk1; obtain ⟨g0, g1, g2, g3, g4, f1⟩ := hR1.cells; have hz1 := hk1.size; have HR1 := Lib.hid hR1; have HK1 := Lib.hid hk1; clear hR1 hk1)
    | (go_at_call 30; refine (t_fieldsIn S _ r mx inR _ _ _ HR1.out fs hf0 hfl HF.out HT.out).mono ?_; rintro e w2 ⟨v, rfl, hv, hR2, hk2⟩; obtain ⟨i0, i1, i2, i3, i4, f2⟩ := hR2.cells; have HV := Lib.hid hv; have HR2 := Lib.hid hR2; have HK2 := Lib.hid hk2; clear hv hR2 hk2)
    | (with_reducible refine at_inv ?_; refine rd_unread (.tmp 30) HR2.out rfl rfl rfl ?_; intro w3 hR3 hk3; rw [Nat.add_sub_cancel] at hR3; obtain ⟨j0, j1, j2, j3, j4, f3⟩ := hR3.cells; have HR3 := Lib.hid hR3; have HK3 := Lib.hid hk3; clear hR3 hk3)
    | (with_reducible refine at_inv ?_; refine rd_read (.tmp 36) 41 HR3.out hl2 HE.out (by omega) rfl rfl rfl ?_; intro w4 hR4 hk4; have HR4 := Lib.hid hR4; have HK4 := Lib.hid hk4; clear hR4 hk4))
  go_ret2
  refine ⟨v, rfl, ?_, ?_, ((HK1.out.trans HK2.out).trans HK3.out).trans HK4.out⟩
  · exact ownsRow_base (ownsRow_keep HV.out (HK3.out.trans HK4.out) (fun k hk1 hk2 hm => Nat.not_lt.2 hk1 (Nat.lt_of_lt_of_le (HRM.out k hm) hz1))) hz1
  · have := HR4.out
    rw [show pos + 1 + (joinS fs).length + 1 = pos + (joinS fs).length + 2 from by omega] at this
    exact this

set_option maxRecDepth 100000 in
/-- The line ends at once. -/
theorem t_fields0 (S : Source) (w : World) (r : Nat) (mx : Int) (inR : Bool) (br : Int) (pos : Nat) (last : Bool) (h : RdAt S w r mx inR br pos last) (hs : Has S.s pos [13]) :
    Calls Tryz.prog 30 #[.pointer (some ⟨r, 0, none⟩)] w fun e w' => e = .returned (.tuple #[.slice none 0 0, .nilIface]) ∧
      RdAt S w' r mx inR br pos false ∧ Keep (RM S r) w w' := by
  obtain ⟨c0, c1, c2, c3, c4, f⟩ := h.cells
  have hx : ((S.s.getD pos 0).toNat : Int) = 13 := by rw [hs.head]; rfl
  have hl := hs.len
  simp only [List.length_cons, List.length_nil] at hl
  have hl1 : pos < S.s.length := by omega
  have H := Lib.hid h
  have HX := Lib.hid hx
  clear h hx hs hl
  go_enter Tryz.func30, Tryz.ntmps30
  go_wp2
  go_loopg [2] 1 (fun k v wr => k = 1 ∧ v = .slice none 0 0 ∧ wr = w)
  case atStart => exact ⟨rfl, rfl, rfl⟩
  case round =>
    obtain ⟨rfl, rfl, rfl⟩ := hrel
    go_wp2_with (first
      | (with_reducible refine at_inv ?_; refine rd_read (.tmp 11) 13 H.out hl1 HX.out (by omega) rfl rfl rfl ?_; intro w1 hR1 hk1; obtain ⟨g0, g1, g2, g3, g4, f1⟩ := hR1.cells; have HR1 := Lib.hid hR1; have HK1 := Lib.hid hk1; clear hR1 hk1)
      | (with_reducible refine at_inv ?_; refine rd_unread (.tmp 21) HR1.out rfl rfl rfl ?_; intro w2 hR2 hk2; rw [Nat.add_sub_cancel] at hR2; have HR2 := Lib.hid hR2; have HK2 := Lib.hid hk2; clear hR2 hk2))
    go_ret2
    exact ⟨rfl, HR2.out, HK1.out.trans HK2.out⟩

/-- What stands behind the first atom of a line. -/
def tailS : Option (List (List UInt8)) → List UInt8
  | none => [13]
  | some fs => 32 :: 40 :: (joinS fs ++ [41, 13])

/-- The fields of such a line. -/
def FieldsV (w : World) (base : Nat) (v : Value) (a : List UInt8) : Option (List (List UInt8)) → Prop
  | none => w.ownsRow base 20 1 v 1 [strI a]
  | some fs => ∃ sl, w.ownsRow base 20 1 v 2 [strI a, .iface 63 sl] ∧ w.ownsRow base 20 1 sl fs.length (fs.map strI)

set_option maxRecDepth 100000 in
/-- An atom, perhaps a list of atoms, and the line's end. -/
theorem t_fields1 (S : Source) (w : World) (r : Nat) (mx : Int) (inR : Bool) (br : Int) (pos : Nat) (last : Bool) (h : RdAt S w r mx inR br pos last) (a : List UInt8) (ok : AtomOk a) (o : Option (List (List UInt8)))
    (ho : ∀ fs, o = some fs → fs ≠ [] ∧ fs.length < 1000 ∧ ∀ a ∈ fs, AtomOk a) (hs : Has S.s pos (a ++ tailS o)) :
    Calls Tryz.prog 30 #[.pointer (some ⟨r, 0, none⟩)] w fun e w' => ∃ v, e = .returned (.tuple #[v, .nilIface]) ∧
      FieldsV w' w.heap.size v a o ∧
      RdAt S w' r mx inR 0 (pos + a.length + (tailS o).length - 1) false ∧ Keep (RM S r) w w' := by
  obtain ⟨c0, c1, c2, c3, c4, f⟩ := h.cells
  have hl := hs.len
  obtain ⟨ha, ht⟩ := hs.app
  have h0 := ha.get 0 ok.pos
  have hx1 := ok.ch 0 ok.pos
  rw [Nat.add_zero] at h0
  obtain ⟨x, hx⟩ : ∃ x : Nat, x = (a.getD 0 0).toNat := ⟨_, rfl⟩
  rw [← hx] at hx1
  have hx3 : ((S.s.getD pos 0).toNat : Int) = (x : Int) := by rw [h0, hx]
  obtain ⟨x1, x2, x3, x4, x5, x6, x7, x8⟩ := hx1
  have n40 : ((x : Int) == 40) = false := by rw [beq_eq_false_iff_ne]; omega
  have n41 : ((x : Int) == 41) = false := by rw [beq_eq_false_iff_ne]; omega
  have n123 : ((x : Int) == 123) = false := by rw [beq_eq_false_iff_ne]; omega
  have n34 : ((x : Int) == 34) = false := by rw [beq_eq_false_iff_ne]; omega
  have n13 : ((x : Int) == 13) = false := by rw [beq_eq_false_iff_ne]; omega
  have hplt : pos < S.s.length := by have := ok.pos; simp only [List.length_append] at hl; omega
  have hget := fun j hj => ha.get j hj
  have hlt := h.lt
  have H := Lib.hid h
  have HX := Lib.hid hx3
  have HT := Lib.hid ht
  have HG := Lib.hid hget
  have HOK := Lib.hid ok
  have HO := Lib.hid ho
  have HRM := Lib.hid hlt
  clear h hx3 ht hget ok ho hlt hs ha h0 hx hl
  go_enter Tryz.func30, Tryz.ntmps30
  go_wp2
  cases o with
  | none =>
    have hte : ((S.s.getD (pos + a.length) 0).toNat : Int) = 13 := by rw [HT.out.head]; rfl
    have hl2 : pos + a.length < S.s.length := by have := HT.out.len; simp [tailS] at this; omega
    have hat : ∀ inR, AtomEnd inR (S.s.getD (pos + a.length) 0).toNat := fun inR => .inl (by omega)
    have HE := Lib.hid hte
    have HAT := Lib.hid hat
    clear hte hat
    go_loopg [2] 1 (fun k v wr => k = 1 ∧ v = .slice none 0 0 ∧ wr = w)
    case atStart => exact ⟨rfl, rfl, rfl⟩
    case round =>
      obtain ⟨rfl, rfl, rfl⟩ := hrel
      go_wp2_with (first
        | (with_reducible refine at_inv ?_; refine rd_read (.tmp 11) (x : Int) H.out hplt HX.out (by omega) rfl rfl rfl ?_; intro w1 hR1 hk1; obtain ⟨g0, g1, g2, g3, g4, f1⟩ := hR1.cells; have HR1 := Lib.hid hR1; have HK1 := Lib.hid hk1; clear hR1 hk1)
        | (with_reducible refine at_inv ?_; refine rd_unread (.tmp 21) HR1.out rfl rfl rfl ?_; intro w2 hR2 hk2; rw [Nat.add_sub_cancel] at hR2; have HR2 := Lib.hid hR2; have HK2 := Lib.hid hk2; clear hR2 hk2)
        | (go_at_call 45; refine (t_atom S _ r mx inR _ pos _ HR2.out a hl2 (by have := HOK.out.small; omega) HG.out HOK.out.ch (HAT.out _) HOK.out.ne).mono ?_; rintro e w3 ⟨rfl, hR3, hk3⟩; have hk03 := (HK1.out.trans HK2.out).trans hk3; have hle3 := hk03.size; have HR3 := Lib.hid hR3; have HK3 := Lib.hid hk03; clear hR3 hk3 hk03)
        | (at_builtin; refine wp_app1 Tryz.elemI (.tmp 61) (.tmp 63) rfl rfl wr.heap.size _ 0 [] rfl (World.ownsRow_nil _ _ _ _) w3.heap.size (strI a) rfl (((Blk.new w3 _ _).cell 0).trans rfl) rfl (by omega) (by simp; omega) ?_; intro v4 w4 hv4 hk4 hb4 hat4; have hR4 := (HR3.out.keep (M := fun _ => False) ((Keep.refl _ w3).alloc _) (fun _ _ => id)).keep hk4 (fun k hk hb => Nat.not_lt.2 hb (HRM.out k hk)); have hk04 := (HK3.out.alloc (.cells #[strI a] 20)).trans' hk4 (fun i hi hb => absurd hi (Nat.not_lt.2 hb)); obtain ⟨i0, i1, i2, i3, i4, f4⟩ := hR4.cells; have HR4 := Lib.hid hR4; have HV4 := Lib.hid hv4; have HK4 := Lib.hid hk04; clear hR4 hv4 hk4 hb4 hat4 hk04)
        | (with_reducible refine at_inv ?_; refine rd_read (.tmp 69) 13 HR4.out hl2 HE.out (by omega) rfl rfl rfl ?_; intro w5 hR5 hk5; obtain ⟨j0, j1, j2, j3, j4, f5⟩ := hR5.cells; have HR5 := Lib.hid hR5; have HK5 := Lib.hid hk5; clear hR5 hk5)
        | (with_reducible refine at_inv ?_; refine rd_unread (.tmp 99) HR5.out rfl rfl rfl ?_; intro w6 hR6 hk6; rw [Nat.add_sub_cancel] at hR6; have HR6 := Lib.hid hR6; have HK6 := Lib.hid hk6; clear hR6 hk6))
      go_ret2
      exact ⟨v4, rfl, ownsRow_keep HV4.out (HK5.out.trans HK6.out) (fun k hk1 hk2 hm => Nat.not_lt.2 hk1 (HRM.out k hm)), HR6.out, (HK4.out.trans HK5.out).trans HK6.out⟩
  | some fs =>
    have hte : ((S.s.getD (pos + a.length) 0).toNat : Int) = 32 := by rw [HT.out.head]; rfl
    have hat : ∀ inR, AtomEnd inR (S.s.getD (pos + a.length) 0).toNat := fun inR => .inr (.inl (by omega))
    have ht1 := HT.out.tail
    have ht2 : Has S.s (pos + a.length + 1) ((40 :: (joinS fs ++ [41])) ++ [13]) := by simpa using ht1
    obtain ⟨ht3, ht4⟩ := ht2.app
    have hte2 : ((S.s.getD (pos + a.length + 1) 0).toNat : Int) = 40 := by rw [ht3.head]; rfl
    have hte3 := ht4.head
    have hl9 := ht4.len
    simp only [List.length_append, List.length_cons, List.length_nil] at hte3 hl9
    have hte4 : ((S.s.getD (pos + a.length + 1 + (joinS fs).length + 2) 0).toNat : Int) = 13 := by
      rw [show pos + a.length + 1 + (joinS fs).length + 2 = pos + a.length + 1 + ((joinS fs).length + (0 + 1) + 1) from by omega, hte3]; rfl
    have hl2 : pos + a.length < S.s.length := by omega
    have hl3 : pos + a.length + 1 < S.s.length := by omega
    have hl4 : pos + a.length + 1 + (joinS fs).length + 2 < S.s.length := by omega
    obtain ⟨ho1, ho2, ho3⟩ := HO.out fs rfl
    have HE := Lib.hid hte
    have HE2 := Lib.hid hte2
    have HE4 := Lib.hid hte4
    have HAT := Lib.hid hat
    have HT3 := Lib.hid ht3
    have HO3 := Lib.hid ho3
    clear hte hte2 hte3 hte4 hat ht1 ht2 ht3 ht4 ho3 hl9
    go_loopg [2] 2 (fun k v wr => (k = 2 ∧ v = .slice none 0 0 ∧ wr = w) ∨ (k = 1 ∧ ∃ b l, wr.ownsRow w.heap.size 20 1 v 1 [strI a] ∧ RdAt S wr r mx inR b (pos + a.length + 1) l ∧ Keep (RM S r) w wr))
    case atStart => exact .inl ⟨rfl, rfl, rfl⟩
    case round =>
      rcases hrel with ⟨rfl, rfl, rfl⟩ | ⟨rfl, b, l, hown, hR, hk⟩
      · go_wp2_with (first
          | (with_reducible refine at_inv ?_; refine rd_read (.tmp 11) (x : Int) H.out hplt HX.out (by omega) rfl rfl rfl ?_; intro w1 hR1 hk1; obtain ⟨g0, g1, g2, g3, g4, f1⟩ := hR1.cells; have HR1 := Lib.hid hR1; have HK1 := Lib.hid hk1; clear hR1 hk1)
          | (with_reducible refine at_inv ?_; refine rd_unread (.tmp 21) HR1.out rfl rfl rfl ?_; intro w2 hR2 hk2; rw [Nat.add_sub_cancel] at hR2; have HR2 := Lib.hid hR2; have HK2 := Lib.hid hk2; clear hR2 hk2)
          | (go_at_call 45; refine (t_atom S _ r mx inR _ pos _ HR2.out a hl2 (by have := HOK.out.small; omega) HG.out HOK.out.ch (HAT.out _) HOK.out.ne).mono ?_; rintro e w3 ⟨rfl, hR3, hk3⟩; have hk03 := (HK1.out.trans HK2.out).trans hk3; have hle3 := hk03.size; have HR3 := Lib.hid hR3; have HK3 := Lib.hid hk03; clear hR3 hk3 hk03)
          | (at_builtin; refine wp_app1 Tryz.elemI (.tmp 61) (.tmp 63) rfl rfl wr.heap.size _ 0 [] rfl (World.ownsRow_nil _ _ _ _) w3.heap.size (strI a) rfl (((Blk.new w3 _ _).cell 0).trans rfl) rfl (by omega) (by simp; omega) ?_; intro v4 w4 hv4 hk4 hb4 hat4; have hR4 := (HR3.out.keep (M := fun _ => False) ((Keep.refl _ w3).alloc _) (fun _ _ => id)).keep hk4 (fun k hk hb => Nat.not_lt.2 hb (HRM.out k hk)); have hk04 := (HK3.out.alloc (.cells #[strI a] 20)).trans' hk4 (fun i hi hb => absurd hi (Nat.not_lt.2 hb)); obtain ⟨i0, i1, i2, i3, i4, f4⟩ := hR4.cells; have HR4 := Lib.hid hR4; have HV4 := Lib.hid hv4; have HK4 := Lib.hid hk04; clear hR4 hv4 hk4 hb4 hat4 hk04)
          | (with_reducible refine at_inv ?_; refine rd_read (.tmp 69) 32 HR4.out hl2 HE.out (by omega) rfl rfl rfl ?_; intro w5 hR5 hk5; have HR5 := Lib.hid hR5; have HK5 := Lib.hid hk5; clear hR5 hk5))
        go_roundg 1
        case measure => omega
        case rel => exact .inr ⟨rfl, 0, true, ownsRow_keep HV4.out HK5.out (fun k hk1 hk2 hm => Nat.not_lt.2 hk1 (HRM.out k hm)), HR5.out, HK4.out.trans HK5.out⟩
      · obtain ⟨e0, e1, e2, e3, e4, ff⟩ := hR.cells
        have hsz := hk.size
        have hown0 := fun w1 (hk : Keep (RM S r) wr w1) => ownsRow_keep hown hk (fun k hk1 hk2 hm => Nat.not_lt.2 hk1 (HRM.out k hm))
        have HOWN := Lib.hid hown0
        have HLT := Lib.hid hown.lt
        have HR := Lib.hid hR
        have HK := Lib.hid hk
        clear hown hown0 hR hk
        go_wp2_with (first
          | (with_reducible refine at_inv ?_; refine rd_read (.tmp 11) 40 HR.out hl3 HE2.out (by omega) rfl rfl rfl ?_; intro w1 hR1 hk1; obtain ⟨g0, g1, g2, g3, g4, f1⟩ := hR1.cells; have HR1 := Lib.hid hR1; have HK1 := Lib.hid hk1; clear hR1 hk1)
          | (with_reducible refine at_inv ?_; refine rd_unread (.tmp 21) HR1.out rfl rfl rfl ?_; intro w2 hR2 hk2; rw [Nat.add_sub_cancel] at hR2; have HR2 := Lib.hid hR2; have HK2 := Lib.hid (HK1.out.trans hk2); have hz2 := (HK1.out.trans hk2).size; clear hR2 hk2)
          | (go_at_call 44; refine (t_list S _ r mx inR _ _ _ HR2.out fs ho1 ho2 HO3.out HT3.out).mono ?_; rintro e w3 ⟨sl, rfl, hsl, hR3, hk3⟩; have hle3 := hk3.size; have HSL := Lib.hid hsl; have HR3 := Lib.hid hR3; have HK3 := Lib.hid (HK2.out.trans hk3); clear hR3 hk3 hsl)
          | (at_builtin; refine wp_app1 Tryz.elemI (.tmp 61) (.tmp 63) rfl rfl w.heap.size _ 1 [strI a] rfl ((HOWN.out w3 HK3.out).alloc _) w3.heap.size (.iface 63 sl) rfl (((Blk.new w3 _ _).cell 0).trans rfl) rfl (by omega) (by simp; omega) ?_; intro v4 w4 hv4 hk4 hb4 hat4; have HKL := Lib.hid (And.intro hk4 hb4); have hR4 := (HR3.out.keep (M := fun _ => False) ((Keep.refl _ w3).alloc _) (fun _ _ => id)).keep hk4 (fun k hk hb => Nat.not_lt.2 hb (HRM.out k hk)); have hk04 := ((HK.out.trans HK3.out).alloc (.cells #[.iface 63 sl] 20)).trans' hk4 (fun i hi hb => absurd hi (Nat.not_lt.2 hb)); obtain ⟨i0, i1, i2, i3, i4, f4⟩ := hR4.cells; have HR4 := Lib.hid hR4; have HV4 := Lib.hid hv4; have HK4 := Lib.hid hk04; clear hR4 hv4 hk4 hb4 hat4 hk04)
          | (with_reducible refine at_inv ?_; refine rd_read (.tmp 69) 13 HR4.out hl4 HE4.out (by omega) rfl rfl rfl ?_; intro w5 hR5 hk5; obtain ⟨j0, j1, j2, j3, j4, f5⟩ := hR5.cells; have HR5 := Lib.hid hR5; have HK5 := Lib.hid hk5; clear hR5 hk5)
          | (with_reducible refine at_inv ?_; refine rd_unread (.tmp 99) HR5.out rfl rfl rfl ?_; intro w6 hR6 hk6; rw [Nat.add_sub_cancel] at hR6; have HR6 := Lib.hid hR6; have HK6 := Lib.hid hk6; clear hR6 hk6))
        go_ret2
        have hfar : ∀ k, RM S r k → k < w.heap.size := HRM.out
        refine ⟨v4, rfl, ⟨sl, ownsRow_keep HV4.out (HK5.out.trans HK6.out) (fun k hk1 hk2 hm => Nat.not_lt.2 hk1 (hfar k hm)), ?_⟩, ?_, (HK4.out.trans HK5.out).trans HK6.out⟩
        · obtain ⟨q1, q2⟩ := HKL.out
          have h1 := ownsRow_keep (HSL.out.alloc (.cells #[.iface 63 sl] 20)) (keep_of_far q1 q2)
            (fun k hk1 hk2 hm => Nat.not_lt.2 hk1 (Nat.lt_of_lt_of_le (HLT.out k hm).2 hz2))
          have h2 := ownsRow_keep h1 (HK5.out.trans HK6.out) (fun k hk1 hk2 hm => Nat.not_lt.2 (Nat.le_trans (Nat.le_trans hsz hz2) hk1) (hfar k hm))
          exact ownsRow_base h2 (Nat.le_trans hsz hz2)
        · have := HR6.out
          rw [show pos + a.length + 1 + (joinS fs).length + 2 = pos + a.length + (tailS (some fs)).length - 1 from by simp [tailS]; omega] at this
          exact this
end Go.Proofs.YtanombfdfpfcoaaGreatDoor
