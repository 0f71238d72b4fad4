/- FnJoinText: elements of whatever texts behind the path of every text of a base make the text of that reference, or are refused. Conditions: those of the row: the listed package-level variables hold what the program's text lays (tied). -/
import Derived.Test.YtphkohpphdcjhaaGreatDoorTK12
import Derived.Test.YtphkohpphdcjhaaGreatDoorTLawFnJoinText
import Derived.SliceStrings
import Derived.Carry
namespace Go.Proofs.YtphkohpphdcjhaaGreatDoor.fnJoinText
open Go.ChangeShapes Go.WideShapes Go.ChangeAt Go.RowKit
open Go.ChangeMaps (open_string shut_string)

set_option maxRecDepth 100000 in
theorem open_L {H : Type} {enc : TypeId × Value → H} {W : World} {x : Value} {d : DataW H} {ps : List MemPlace} (hv : Value.okWide Tryz.prog W .any 0 35 x) (h : DataW.Trod enc Tryz.prog W 0 (fun _ => true) true 35 x d ps) :
    ∃ (l : List U.B) (p : Option Addr) (n cap : Nat), x = .slice p n cap ∧ n ≤ 9223372036854775807 ∧ ArgL W l p n ∧ (p = none → n = 0 ∧ cap = 0) := by
  obtain ⟨a0, len, cap, rfl⟩ := okWide_slice Tryz.underlying35 hv
  obtain ⟨fuel, hf⟩ := h
  have hlt := DataW.trod_lt _ _ _ _ hf
  rcases open_strings Tryz.underlying35 Tryz.underlying9 (by kernel_rfl) hf with ⟨hcs, hx⟩ | ⟨a, len', cap', ss, hcs, _, hl, hm, hz, hx, hcell, hws⟩
  · simp [Value.cells] at hcs
    obtain ⟨rfl, rfl, rfl⟩ := hcs
    exact ⟨[], none, 0, 0, rfl, by omega, ⟨rfl, fun h => absurd h (Nat.lt_irrefl _)⟩, fun _ => ⟨rfl, rfl⟩⟩
  · simp [Value.cells] at hcs
    obtain ⟨rfl, rfl, rfl⟩ := hcs
    simp only [Prod.mk.injEq] at hx
    obtain ⟨rfl, rfl⟩ := hx
    simp only [if_true] at hz
    have hm9 : len ≤ 9223372036854775807 := by
      have : maxLen ≤ 9223372036854775807 := by decide
      omega
    refine ⟨(ss.take len).map U.L, some a, len, cap, rfl, hm9, ⟨by simp; omega, fun h0 => ?_⟩, fun h => (by cases h)⟩
    obtain ⟨xb, xo, spot⟩ := a
    have hspot : spot = none := by simpa [Addr.add] using World.cell?_spot (hcell 0 (by omega))
    subst hspot
    refine ⟨xb, xo, rfl, ?_, fun j hj => ?_⟩
    · have : MemPlace.cell xb (xo + 0) ∈ MemPlace.row ⟨xb, xo, none⟩ ss.length := by
        simp only [MemPlace.row, List.mem_map, List.mem_range]
        exact ⟨0, by omega, rfl⟩
      exact hlt _ this
    · have := hcell j (by omega)
      rw [Addr.add_lit] at this
      rw [this]
      have hj2 : j < ss.length := by omega
      simp [List.getD, hj, hj2, U.S_L]
set_option maxRecDepth 100000 in
theorem lifted (os : Os) (started : os.Started) (H : Type) (enc : TypeId × Value → H) :
    ReturnsInHanded {} Tryz.checked os 11 .any (fun w args => (Rows.fnJoinTextSpec.pre enc Tryz.prog Tryz.f11 Rows.fnJoinTextRow.domain false w args ∧ laidMetH Tryz.prog Rows.fnJoinTextRow.laid w) ∧ sizedMet enc Tryz.prog Tryz.f11 (OpenSpec.ofChange Rows.fnJoinTextSpec) false w args)
      (Rows.fnJoinTextSpec.post enc Tryz.prog Tryz.f11 false true false false) := by
  refine returnsInHanded_of_change_and (C := Tryz.checked) (X := fun w _ => laidMetH Tryz.prog Rows.fnJoinTextRow.laid w) (fun _ _ _ hh h => h.of_heap hh) own started (by kernel_rfl) Tryz.func11
    (ChangeSpec.witness_shaped (enc := enc) (C := Tryz.checked) (os := os) (X := fun w _ => laidMetH Tryz.prog Rows.fnJoinTextRow.laid w) false (World.laidAll Tryz.prog os listed) #[.string ⟨#[]⟩, .slice none 0 0] 300 (World.laidAll_os _ _ _)
      (World.shaped_of_ZipB (by kernel_rfl) (by kernel_rfl)) (by kernel_rfl) (by kernel_rfl) (by kernel_rfl)
      (by rw [MakeChecks.laidMetH_plain _ _ _ (by kernel_rfl)]; exact laidMet_laidAll _ (by kernel_rfl) (by kernel_rfl))) ?_
  intro W base args ds gs before hval0 hW hc _ hL _
  have hval : ∀ (j : Nat) t v, Tryz.f11.params[j]? = some t → args[j]? = some v → Value.okWide Tryz.prog W .any base t v := hval0
  have hW' := hW
  obtain ⟨p, q, hA0, hV, rfl, _, _⟩ := hW
  have hA : DataW.TrodAll enc Tryz.prog W 0 (fun _ => true) true Tryz.f11.params.toList args.toList ds p := hA0
  rw [Tryz.params11] at hA hval
  obtain ⟨v0, vs0, d0, ds0, p0, q0, hargs, rfl, rfl, h0, r0⟩ := trodAll_cons hA
  obtain ⟨v1, vs1, d1, ds1, p1, q1, rfl, rfl, rfl, h1, r1⟩ := trodAll_cons r0
  obtain ⟨rfl, rfl, rfl⟩ := trodAll_nil r1
  obtain rfl : args = #[v0, v1] := by cases args; simp_all
  obtain ⟨s, rfl, rfl, rfl, ws⟩ := open_string Tryz.underlying9 (hval 0 9 v0 rfl rfl) h0
  obtain ⟨l, p1', n, cap, rfl, hn, hl, hnil⟩ := open_L (hval 1 35 v1 rfl rfl) h1
  have hlt : ∀ x ∈ p1, x.block < W.heap.size := by
    obtain ⟨m, hm⟩ := h1
    exact DataW.trod_lt _ _ _ _ hm
  simp only [List.append_nil, List.nil_append] at hW'
  refine (walk_FnJoinText s l p1' n cap W (by simpa [maxLen] using ws) hn hl hnil (tab_of hL)).mono fun e W' ⟨he, hb⟩ => ?_
  subst he
  have hV2 := Below.trodVars laidOut hb varsRowed1 hV
  obtain ⟨g, t, cs, fuel, d, pv, rfl, _⟩ := trodVars_one hV
  exact ⟨_, rfl, _, _, _, [], _, _, hW', trodAll_mk1 (shut_bool Tryz.underlying4 _), trodAll_mk2 (shut_string Tryz.underlying9 ws) (Below.trod laidOut (by kernel_rfl) (of_decide_eq_true (by kernel_rfl)) h1 hb hlt), hV2, hb.frame _, fun h => by cases h⟩

theorem said : Rows.FnJoinTextSaid :=
  OpenClaim.holds_of_wide 11 Tryz.f11 rfl rfl rfl rfl rfl rfl rfl ⟨rfl, rfl, rfl, rfl, rfl⟩ rfl rfl rfl rfl rfl (by kernel_rfl) Tryz.func11 (by kernel_rfl)
    (of_decide_eq_true (by kernel_rfl)) (by unfold Func.isWrapper; first | (rw [if_pos (by decide +kernel)]; kernel_rfl) | (rw [if_neg (by decide +kernel)]; exact ⟨rfl, rfl⟩))
    (fun os started H enc _ => lifted os started H enc)
/-- No parameter wants a stand-in; the program's own looks are off: what the card asks. -/
theorem plain (f : FuncId) (fn : Func) (hf : Tryz.pinned.checked.prog.funcNamed "loop.example/pub-g03278/laws.FnJoinText" = some f) (hfn : Tryz.pinned.checked.prog.funcs[f]? = some fn) :
    false = Tryz.pinned.checked.prog.looks [] ∧ ∀ (j : Nat) t, fn.params[j]? = some t → Tryz.pinned.checked.prog.wantsStandIn t = false := by
  obtain rfl : f = 11 := Option.some.inj ((show Tryz.prog.funcNamed "loop.example/pub-g03278/laws.FnJoinText" = some 11 by kernel_rfl).symm.trans hf) |>.symm
  obtain rfl : fn = Tryz.f11 := (Option.some.inj (Tryz.func11.symm.trans hfn)).symm
  refine ⟨by kernel_rfl, fun j t ht => ?_⟩
  rw [Tryz.params11] at ht
  have hm : t ∈ [9, 35] := by simpa using Array.mem_of_getElem? ht
  have hall : ([9, 35].all fun u => !Tryz.prog.wantsStandIn u) = true := by kernel_rfl
  exact (show Tryz.prog.wantsStandIn t = false by simpa using List.all_eq_true.1 hall t hm)

/-- The tied card. -/
theorem fnJoinText_holds : Rows.FnJoinTextCardSaid :=
  Claim7.holds_tied_plain_at .later [] _ _ _ _ said (fun _ h => by cases h) (by kernel_rfl) (fun _ h => by cases h) fnJoinText_row_tie rfl ⟨rfl, rfl⟩ (by kernel_rfl) rfl plain (by kernel_rfl)
#print axioms fnJoinText_holds
end Go.Proofs.YtphkohpphdcjhaaGreatDoor.fnJoinText
