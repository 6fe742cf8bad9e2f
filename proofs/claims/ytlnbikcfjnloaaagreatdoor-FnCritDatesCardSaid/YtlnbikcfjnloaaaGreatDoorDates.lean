/- FnCritDates answers true for every two days and both kinds, and leaves its arguments and the flags as they were: the tied card; the listed variables hold what the program's text lays. -/
import Derived.Test.YtlnbikcfjnloaaaGreatDoorOwnG
import Derived.Test.YtlnbikcfjnloaaaGreatDoorRows
import Derived.Test.YtlnbikcfjnloaaaGreatDoorCards
import Derived.Test.YtlnbikcfjnloaaaGreatDoorTie
import Derived.WalkKit
import Derived.ProofKit
import Derived.OpenShut
import Derived.ChangeVars
import Derived.ChangeOld
import Derived.Carry
import Derived.Handed
import Derived.Lib.SmallJoins
import Derived.Lib.LaidTab
import Derived.Stop.LaidErr
import Derived.PinnedBridge
import Derived.Lay
import Derived.LaidOnce
import Derived.SevenTiedAt
namespace Go.Proofs.YtlnbikcfjnloaaaGreatDoor
set_option linter.unusedVariables false
set_option linter.unusedSimpArgs false
open Go.RowKit Go.ChangeShapes Go.WideShapes Go.ChangeAt Go.Joins Go.Deep
open Go.ChangeMaps (open_string shut_string)

theorem own : ownKnob Tryz.prog.godebug = none := by kernel_rfl
theorem laidOut : laidOutB Tryz.prog = true := by kernel_rfl
/-- The table of first bytes, out of the row's condition. -/
theorem first_of {W : World} (hL : laidMet Tryz.prog Rows.fnCritDatesRow.laid W) : First W := by
  have h14 : laidMet Tryz.prog (("unicode/utf8.first", Lib.tabData .u8 Lib.firstTab) :: []) W := by
    have h := laidMet.tail (laidMet.tail (laidMet.tail (laidMet.tail (laidMet.tail (laidMet.tail (laidMet.tail (laidMet.tail (laidMet.tail (laidMet.tail (laidMet.tail (laidMet.tail (laidMet.tail (laidMet.tail hL)))))))))))))
    rw [Rows.laid_unicode_utf8_first, Pinned.utf8First_eq] at h
    exact h
  have ht := Lib.tabIs_of_head (g := 11) (t := 233) (e := 5) (n := 256) (by kernel_rfl) (by kernel_rfl) (by kernel_rfl) (by kernel_rfl) (by kernel_rfl) (by kernel_rfl) h14
  intro x hx
  rw [ht.cell (g := 11) (by kernel_rfl) x (by rw [Lib.firstTab, List.length_map, List.length_range]; omega)]
  have hall : ((List.range 128).all fun x => Lib.firstTab.getD x 0 == 240) = true := by kernel_rfl
  have := List.all_eq_true.1 hall x (List.mem_range.2 hx)
  rw [beq_iff_eq.1 this]

theorem cellE {W : World} (h : W.ShapedOpen Tryz.prog) : ∃ v, W.cell? ⟨17, 0, none⟩ = some v := by
  have h0 : ((begin Tryz.prog (fun _ _ => 0) default).world.heap[17]?).bind Obj.row? = some (#[.nilIface], 40) := by kernel_rfl
  obtain ⟨cs, hh, hs, _⟩ := h.1 17 _ _ (of_decide_eq_true (by kernel_rfl)) h0
  have h1 : 0 < cs.size := by rw [hs]; decide
  exact ⟨cs[0], by simp [World.cell?, hh, h1]⟩

/-- The flags read behind the call as before. -/
theorem flags_stay {H : Type} {enc : TypeId × Value → H} {W W' : World} (hb : Below W.heap.size W W') {gs : List (DataW H)} {ps : List MemPlace}
    (h : DataW.TrodVars enc Tryz.prog W (fun _ => true) ["given.example/pub-datestamp/pub/goimap.flags"] gs ps) : DataW.TrodVars enc Tryz.prog W' (fun b => decide (b < W.heap.size)) ["given.example/pub-datestamp/pub/goimap.flags"] gs ps := by
  have hlt := h.lt
  obtain ⟨g, t, cs, fuel, d, p, rfl, h1, h2, h3, h4, rfl⟩ := trodVars_one h
  have hg : Tryz.prog.globalNamed "given.example/pub-datestamp/pub/goimap.flags" = some 0 := by kernel_rfl
  have ht : (Tryz.prog.globals[0]?).map (·.type) = some 37 := by kernel_rfl
  obtain rfl := Option.some.inj (hg.symm.trans h1)
  obtain rfl := Option.some.inj (ht.symm.trans h2)
  have h3' : W'.var? Tryz.prog "given.example/pub-datestamp/pub/goimap.flags" = some cs := by
    unfold World.var? at h3 ⊢
    rw [hg] at h3 ⊢
    simp only [Option.bind_some] at h3 ⊢
    have hgl : 0 < W.heap.size := by
      cases hh : W.heap[0]? with
      | none => rw [hh] at h3; cases h3
      | some o => exact (Array.getElem?_eq_some_iff.1 hh).1
    rw [hb.block _ hgl]
    exact h3
  have hT : DataW.Trod enc Tryz.prog W 0 (fun _ => true) true 37 (.agg cs) d p := ⟨fuel, h4⟩
  obtain ⟨fuel2, h5⟩ := Below.trod laidOut (by kernel_rfl) (of_decide_eq_true (by kernel_rfl)) hT hb (fun x hx => hlt x (by simp [hx]))
  exact trodVars_mk1 h1 h2 h3' h5

theorem u16_in {n : Int} (h : (Lit.int .u16 n).wf = true) : ∃ a : Nat, n = (a : Int) ∧ a < 65536 := by
  have hb : 0 ≤ n ∧ n ≤ 65535 := by
    simp [Lit.wf] at h
    have h1 : IntKind.u16.min = 0 := by rfl
    have h2 : IntKind.u16.max = 65535 := by rfl
    omega
  exact ⟨n.toNat, by omega, by omega⟩

set_option maxHeartbeats 1000000 in
set_option maxRecDepth 100000 in
theorem lifted (os : Os) (started : os.Started) (H : Type) (enc : TypeId × Value → H) :
    ReturnsInHanded {} Tryz.checked os 3 .any (fun w args => (Rows.fnCritDatesSpec.pre enc Tryz.prog Tryz.f3 [] false w args ∧ laidMetH Tryz.prog Rows.fnCritDatesRow.laid w) ∧ sizedMet enc Tryz.prog Tryz.f3 (OpenSpec.ofChange Rows.fnCritDatesSpec) false w args)
      (Rows.fnCritDatesSpec.post enc Tryz.prog Tryz.f3 false true false false) := by
  refine returnsInHanded_of_calls (C := Tryz.checked) own started (by kernel_rfl)
    (ChangeSpec.witness_shaped (enc := enc) (C := Tryz.checked) (os := os) (X := fun w _ => laidMetH Tryz.prog Rows.fnCritDatesRow.laid w) false (World.laidAll Tryz.prog os Rows.fnCritDatesRow.laid) #[.int .u16 0, .int .u16 0, .bool false] 8 rfl
      (World.shaped_of_ZipB (by kernel_rfl) (by kernel_rfl)) (by kernel_rfl) (by kernel_rfl) (by kernel_rfl)
      (by rw [MakeChecks.laidMetH_plain _ _ _ (by kernel_rfl)]; exact laidMet_laidAll _ (by kernel_rfl) (by kernel_rfl))) ?_
  intro w tape i _ hsh _ hok hpre _
  obtain ⟨_, _, _, fn', hfn', _, _, _, _, hval0⟩ := hok
  obtain rfl : fn' = Tryz.f3 := Option.some.inj (hfn'.symm.trans Tryz.func3)
  obtain ⟨⟨⟨ds, gs, before, hw, _⟩, hx⟩, _⟩ := hpre
  have hW := DataW.Whole.of_heap (w' := w.forCall tape i) (by rfl) hw
  have hL : laidMetH Tryz.prog Rows.fnCritDatesRow.laid (w.forCall tape i) := hx.of_heap (by rfl)
  have hval : ∀ (j : Nat) t v, Tryz.f3.params[j]? = some t → i.args[j]? = some v → Value.okWide Tryz.prog (w.forCall tape i) .any w.heap.size t v := hval0
  clear hw hx hval0
  obtain ⟨ip, args, ir⟩ := i
  simp only at hval hW ⊢
  generalize w.forCall tape _ = W at hsh hW hL hval ⊢
  have hW' := hW
  obtain ⟨p, q, hA0, hV, rfl, _, _⟩ := hW
  have hA : DataW.TrodAll enc Tryz.prog W 0 (fun _ => true) true Tryz.f3.params.toList args.toList ds p := hA0
  rw [Tryz.params3] at hA hval
  obtain ⟨v0, v1, v2, d0, d1, d2, p0, p1, p2, rfl, rfl, rfl, h0, h1, h2⟩ := trodAll_three hA
  obtain ⟨n, rfl, rfl, rfl, hn⟩ := open_int Tryz.underlying22 (hval 0 22 v0 rfl rfl) h0
  obtain ⟨m, rfl, rfl, rfl, hm⟩ := open_int Tryz.underlying22 (hval 1 22 v1 rfl rfl) h1
  obtain ⟨c, rfl, rfl, rfl⟩ := open_bool Tryz.underlying4 (hval 2 4 v2 rfl rfl) h2
  obtain ⟨a, rfl, ha⟩ := u16_in hn
  obtain ⟨b, rfl, hb⟩ := u16_in hm
  rw [MakeChecks.laidMetH_plain _ _ _ (by kernel_rfl)] at hL
  refine (t_dates W a b c ha hb (first_of hL) (cellE hsh)).mono fun e W' ⟨he, hk⟩ => ?_
  subst he
  have bel : Below W.heap.size W W' := hk.below_out
  obtain ⟨_, _, _, _, _, g, rfl, _⟩ := trodVars_one hV
  exact ChangeSpec.post_blind ⟨_, _, _, [], _, _, hW', trodAll_mk1 (shut_bool Tryz.underlying4 _), trodAll_mk3 (shut_int Tryz.underlying22 hn) (shut_int Tryz.underlying22 hm) (shut_bool Tryz.underlying4 c), flags_stay bel hV, bel.frame _, fun h => by cases h⟩
theorem over : Rows.FnCritDatesSaid :=
  OpenClaim.holds_of_wide 3 Tryz.f3 rfl rfl rfl rfl rfl rfl rfl ⟨rfl, rfl, rfl, rfl, rfl⟩ rfl rfl rfl rfl rfl (by kernel_rfl) Tryz.func3 (by kernel_rfl)
    (of_decide_eq_true (by kernel_rfl)) (by unfold Func.isWrapper; first | (rw [if_pos (by decide +kernel)]; kernel_rfl) | (rw [if_neg (by decide +kernel)]; exact ⟨rfl, rfl⟩))
    (fun os started H enc _ => lifted os started H enc)
/-- The card of 'laws.FnCritDates'. -/
theorem fnCritDates_card : Rows.FnCritDatesCardSaid :=
  Claim7.holds_tied_plain_at .later [] [.data, .data, .data, .data, .sentinel, .sentinel, .sentinel, .sentinel, .sentinel, .data, .data, .sentinel, .data, .pinned, .pinned] true (true, "9cb34e2d158fe19da0989c992579ee2a25a626d4ed7f3c4426f00a6014c1466c") true over (fun _ h => by cases h) (by kernel_rfl) (fun _ h => by cases h) fnCritDates_row_tie rfl ⟨rfl, rfl⟩ (by kernel_rfl) rfl
    (fun f fn hf hfn => by
      obtain rfl : f = 3 := Option.some.inj ((show Tryz.prog.funcNamed "given.example/pub-datestamp/laws.FnCritDates" = some 3 by kernel_rfl).symm.trans hf) |>.symm
      obtain rfl : fn = Tryz.f3 := (Option.some.inj (Tryz.func3.symm.trans hfn)).symm
      exact ⟨by kernel_rfl, fun j t ht => by
        rw [Tryz.params3] at ht
        have hm : t ∈ [22, 22, 4] := by simpa using Array.mem_of_getElem? ht
        have hall : ([22, 22, 4].all fun u => !Tryz.prog.wantsStandIn u) = true := by kernel_rfl
        exact (show Tryz.prog.wantsStandIn t = false by simpa using List.all_eq_true.1 hall t hm)⟩)
    (by kernel_rfl)
#print axioms fnCritDates_card
end Go.Proofs.YtlnbikcfjnloaaaGreatDoor
