/- FnBehindApiVersionsResponse: whatever the input (of bulk at most 1048576), the call returns true, and the input reads as it did. -/
import Derived.Test.YtdjfaejkhpifhaaGreatDoorG0
import Derived.Test.YtdjfaejkhpifhaaGreatDoorLApiVersionsResponse
import Derived.Test.YtdjfaejkhpifhaaGreatDoorRanW
set_option linter.unusedVariables false
set_option linter.unusedSimpArgs false
set_option maxRecDepth 100000
set_option maxHeartbeats 20000000
namespace Go.Sx
open Go.Proofs Go.Proofs.YtdjfaejkhpifhaaGreatDoor Go.ChangeShapes Go.WideShapes Go.ChangeAt Go.RowKit
theorem treeTy : ∃ f0 f1 f2 f3 f4 g0 g1, TreeTy Tryz.prog 26 57 f0 f1 f2 f3 f4 g0 g1 :=
  ⟨_, _, _, _, _, _, _, { tree := Tryz.underlying26, off := ⟨rfl, rfl, rfl, rfl, rfl⟩, one := ⟨by kernel_rfl, by kernel_rfl, by kernel_rfl, by kernel_rfl, by kernel_rfl⟩, cells := by kernel_rfl, n := by kernel_rfl, s := ⟨5, by kernel_rfl, by kernel_rfl, by kernel_rfl⟩, nul := by kernel_rfl, l := by kernel_rfl, u := by kernel_rfl, tag := Tryz.underlying57, goff := ⟨rfl, rfl⟩, gone := ⟨by kernel_rfl, by kernel_rfl⟩, gcells := by kernel_rfl, k := by kernel_rfl, v := ⟨5, by kernel_rfl, by kernel_rfl, by kernel_rfl⟩ }⟩
theorem contract (H : Type) (enc : TypeId × Value → H) (W : World) (base : Nat) (args : Array Value) (ds gs : List (DataW H)) (before : List MemPlace)
    (hval : ∀ (j : Nat) t v, Tryz.f4.params[j]? = some t → args[j]? = some v → Value.okWide Tryz.prog W .any base t v)
    (hW : DataW.Whole enc Tryz.prog Tryz.f4.params.toList Rows.fnBehindApiVersionsResponseSpec.vars false W args.toList ds gs before) (hk : Rows.uptoSmall H (ds ++ gs) = true) (hL : laidMetH Tryz.prog listE W) :
    Calls Tryz.prog 4 args W fun e W' => ∃ v, e = .returned v ∧ Rows.fnBehindApiVersionsResponseSpec.post enc Tryz.prog Tryz.f4 false true false false W args v W' := by
  have hW' := hW
  obtain ⟨p, q, hA0, hV, rfl, hfz, hnd⟩ := hW
  have hA : DataW.TrodAll enc Tryz.prog W 0 (fun _ => true) true Tryz.f4.params.toList args.toList ds p := hA0
  rw [Tryz.params4] at hA hval
  obtain ⟨v0, vs0, d0, ds0, p0, q0, hargs, rfl, rfl, h0, r0⟩ := trodAll_cons hA
  obtain ⟨v1, vs1, d1, ds1, p1, q1, rfl, rfl, rfl, h1, r1⟩ := trodAll_cons r0
  obtain ⟨v2, vs2, d2, ds2, p2, q2, rfl, rfl, rfl, h2, r2⟩ := trodAll_cons r1
  obtain ⟨rfl, rfl, rfl⟩ := trodAll_nil r2
  obtain rfl : args = #[v0, v1, v2] := by apply Array.toList_inj.1; exact hargs
  obtain ⟨rfl, rfl⟩ := trodVars_none hV
  have h1' := h1
  have h2' := h2
  obtain ⟨n, rfl, rfl, rfl, w0⟩ := open_int Tryz.underlying5 (hval 0 5 v0 rfl rfl) h0
  obtain ⟨a, len, cap, rfl⟩ := okWide_slice Tryz.underlying22 (hval 1 22 v1 rfl rfl)
  obtain ⟨fuel1, ht1⟩ := h1
  have hv := hval 2 26 v2 rfl rfl
  unfold Value.okWide at hv
  rw [Tryz.underlying26] at hv
  obtain ⟨cs, rfl, _, _⟩ := hv
  obtain ⟨fuel, ht⟩ := h2
  obtain ⟨_, _, _, _, _, _, _, hY⟩ := treeTy
  have hbk : Rows.uptoBulk d1 ≤ 1048576 ∧ Rows.uptoBulk d2 ≤ 1048576 := by
    have h := of_decide_eq_true hk
    simp only [List.append_nil, Rows.uptoBulkAll] at h
    omega
  obtain ⟨a', c', D, hcD, hD, _⟩ := trod_by Tryz.underlying22 Tryz.underlying5 (by kernel_rfl) ht1 hbk.1
  have hcD' : [Value.slice a len cap] = [.slice a' D.length c'] := hcD
  cases hcD'
  obtain ⟨c, t, hc, hT, hw, hr⟩ := trod_tree2 hY fuel _ d2 p2 ht hbk.2
  have hcs : cs = (c.cells t).toArray := by rw [← hc]; simp [Value.cells]
  subst hcs
  obtain ⟨ev, he⟩ := laidE hL
  have hx : 0 ≤ n ∧ n ≤ 255 := by simpa [Lit.wf, IntKind.min, IntKind.max, IntKind.signed, IntKind.bits] using w0
  have hn : ((n.toNat : Nat) : Int) = n := by omega
  have hlaw := (law_ApiVersionsResponse (L := []) (n := n.toNat) hT hD (by omega) (ran_of hr hT) he (fun v _ _ => by
    have h1 : ((Msg.mk fs_ApiVersionsResponse 3).write v t).length ≤ costFs fs_ApiVersionsResponse * wt t := costs fs_ApiVersionsResponse v _ t hT.keys
    have h2 : costFs fs_ApiVersionsResponse ≤ 4000 := by decide +kernel
    have h3 : costFs fs_ApiVersionsResponse * wt t ≤ 4000 * 1048576 := Nat.mul_le_mul h2 (by omega)
    omega)).2 W (hp_start W)
  rw [hn] at hlaw
  refine hlaw.mono fun e W' ⟨v, H', L', he, hle, hp, _, hR⟩ => ?_
  subst hR
  have hbl := below_of hle hp
  have hlt : ∀ x ∈ p1, x.block < W.heap.size := fun x hx => by simpa using hW'.lt x (by simp [hx])
  have hlt2 : ∀ x ∈ p2, x.block < W.heap.size := fun x hx => by simpa using hW'.lt x (by simp [hx])
  exact ⟨_, he, post_same (pa := [] ++ (p1 ++ (p2 ++ []))) (pv := []) hW' (fun _ _ _ => (trodAll_cons_mk (shut_bool Tryz.underlying4 _) trodAll_mk0)) (fun sp hsp => trodAll_cons_mk (shut_int Tryz.underlying5 w0) (trodAll_cons_mk (WideElems.Trod_stays j_laid (by kernel_rfl) (of_decide_eq_true (by kernel_rfl)) h1' (fun x hx => hbl.same (hlt x hx)) (fun x hx => hsp x (by simp [hx]))) (trodAll_cons_mk (WideElems.Trod_stays j_laid (by kernel_rfl) (of_decide_eq_true (by kernel_rfl)) h2' (fun x hx => hbl.same (hlt2 x hx)) (fun x hx => hsp x (by simp [hx]))) trodAll_mk0))) (fun _ _ => rfl) (by simp)
    (hbl.frame _) (frozen_of hle hp) (ok_one (by kernel_rfl) rfl (okWide_bool_mk Tryz.underlying4 _))⟩
theorem reads (os : Os) {H : Type} (enc : TypeId × Value → H) : ∃ places, DataW.whole enc Tryz.prog ((laidWorld os).forCall (fun _ _ => 0) ⟨#[], #[.int .u8 0, .slice none 0 0, .agg #[.int .i64 0, .slice none 0 0, .bool false, .slice none 0 0, .slice none 0 0]], []⟩).memory Tryz.f4.params.toList Rows.fnBehindApiVersionsResponseSpec.vars false #[Value.int .u8 0, .slice none 0 0, .agg #[.int .i64 0, .slice none 0 0, .bool false, .slice none 0 0, .slice none 0 0]].toList 8 = some ([.lit (.int .u8 0), .nil, .agg [.lit (.int .i64 0), .nil, .lit (.bool false), .nil, .nil]], [], places) :=
  ⟨[], by kernel_rfl⟩
theorem lifted (os : Os) (started : os.Started) (H : Type) (enc : TypeId × Value → H) (F : Stop.Interp) :
    ReturnsInHanded {} Tryz.checked os 4 .any ((Rows.OpenSpec.upto Rows.fnBehindApiVersionsResponseSpec).preRow enc Tryz.prog Tryz.f4 Rows.fnBehindApiVersionsResponseUptoRow.domain false Rows.fnBehindApiVersionsResponseUptoRow.laid) (((Rows.OpenSpec.upto Rows.fnBehindApiVersionsResponseSpec).at F).post enc Tryz.prog Tryz.f4 false true false false) := by
  obtain ⟨places, hx⟩ := reads os enc
  refine returnsInHanded_of_row (C := Tryz.checked) (s := Rows.OpenSpec.upto Rows.fnBehindApiVersionsResponseSpec) own started (by kernel_rfl) Tryz.func4
    (witness_row_at (enc := enc) (C := Tryz.checked) false (laidWorld os) #[.int .u8 0, .slice none 0 0, .agg #[.int .i64 0, .slice none 0 0, .bool false, .slice none 0 0, .slice none 0 0]] rfl (by kernel_rfl) (by kernel_rfl) (by kernel_rfl)
      (OpenSpec.preRow_of_cond 8 hx (by kernel_rfl) (fun k hk => by cases hk; kernel_rfl) (by kernel_rfl) (laid_met os _))) ?_
  intro W base args ds gs before hval hW _ hcond _ hL _ _
  exact contract H enc W base args ds gs before hval hW (hcond _ rfl) hL
theorem facts : joinedFacts Tryz.prog 4 Tryz.f4 (Rows.OpenSpec.upto Rows.fnBehindApiVersionsResponseSpec).bare Rows.fnBehindApiVersionsResponseUptoRow = true := by
  unfold joinedFacts
  repeat' with_reducible apply and_t
  · as_aux_lemma => kernel_rfl
  · exact j_laid
  · exact j_rowed
  · as_aux_lemma => kernel_rfl
  · as_aux_lemma => kernel_rfl
  · as_aux_lemma => kernel_rfl
  · exact j_stops
  · as_aux_lemma => kernel_rfl
  · exact j_knobs
  · as_aux_lemma => kernel_rfl
  · as_aux_lemma => kernel_rfl
  · as_aux_lemma => kernel_rfl
  · as_aux_lemma => kernel_rfl
  · as_aux_lemma => kernel_rfl
  · as_aux_lemma => kernel_rfl
  · as_aux_lemma => kernel_rfl
  · as_aux_lemma => kernel_rfl
  · as_aux_lemma => kernel_rfl
  · as_aux_lemma => kernel_rfl
  · as_aux_lemma => kernel_rfl
  · as_aux_lemma => kernel_rfl
  · as_aux_lemma => kernel_rfl
  · exact j_keys
  · as_aux_lemma => kernel_rfl
  · exact j_heard
  · exact j_enter
  · exact j_lifts
  · exact j_make
  · as_aux_lemma => kernel_rfl
  · as_aux_lemma => kernel_rfl
  · as_aux_lemma => kernel_rfl
  · as_aux_lemma => kernel_rfl
theorem over : Rows.fnBehindApiVersionsResponseUptoRow.holds Tryz.pinned (Rows.OpenSpec.upto Rows.fnBehindApiVersionsResponseSpec) :=
  OpenClaim.holds_of_cond 4 Tryz.f4 rfl rfl rfl rfl rfl rfl rfl ⟨rfl, rfl, rfl, rfl, rfl⟩ rfl rfl rfl rfl rfl (by kernel_rfl) Tryz.func4 facts
    (of_decide_eq_true (by kernel_rfl)) (by unfold Func.isWrapper; first | (rw [if_pos (by decide +kernel)]; kernel_rfl) | (rw [if_neg (by decide +kernel)]; exact ⟨rfl, rfl⟩))
    (fun os started H enc _ F => by rw [OpenClaim.pre_eq_preRow]; exact lifted os started H enc F)
end Go.Sx
