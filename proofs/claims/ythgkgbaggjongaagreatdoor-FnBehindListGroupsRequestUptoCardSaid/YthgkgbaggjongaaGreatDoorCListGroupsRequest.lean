import Derived.Test.YthgkgbaggjongaaGreatDoorSxTab
import Derived.Test.YthgkgbaggjongaaGreatDoorBListGroupsRequest
import Derived.Test.YthgkgbaggjongaaGreatDoorRK2
import Derived.KernelRfl
set_option linter.unusedVariables false
set_option linter.unusedSimpArgs false
set_option maxRecDepth 100000
set_option maxHeartbeats 20000000
namespace Go.Sx
open Go.Proofs
theorem def0_ListGroupsRequest {H : Fz} {L : Own} {b : Nat} {c0 c1 c2 c3 : Value} :
  Fn Tryz.prog 189 [.pointer (some ⟨b, 0, none⟩)] H ([(b, .cells [c0, c1, c2, c3].toArray 205 (0, 0))] :: L) (fun _ H' L' => H = H' ∧ L' = [(b, .cells [c0, c1, c2, c3].toArray 205 (0, 0))] :: L) := by
 refine Fn.mk Tryz.call189 Tryz.func189 rfl Tryz.ntmps189 rfl ?_
 refine skN ?_
 exact fun _ _ hA hw => rn rfl (Fz.le.refl _) ⟨rfl, rfl⟩ hA hw
theorem rd_ListGroupsRequest_f {H : Fz} {L : Own} {b : Nat} {v : Int} {a : Option Addr} {c : Nat} {s : List UInt8} {e : Value} (hB : BytesAt H a c s) (hL_ : s.length ≤ BR) (he : H.at 1 0 [e]) (hv0 : 0 ≤ v) (hv1 : v ≤ 2) :
  Fn Tryz.prog 190 [.pointer (some ⟨b, 0, none⟩), .slice a s.length c, .bool false] H ([(b, .cells [.int .i16 v, .slice none 0 0, .slice none 0 0, .map none].toArray 205 (0, 0))] :: L) (fun r H' L' => ∃ cs : List Value, L' = [(b, .cells cs.toArray 205 (0, 0))] :: L ∧ RdEnd H' (At_ListGroupsRequest v) (decP fs_ListGroupsRequest v false ⟨s, false, !a.isNone⟩) e r cs) := by
 refine Fn.mk Tryz.call190 Tryz.func190 rfl Tryz.ntmps190 rfl ?_
 refine sr ?_
 refine asg rfl rfl ?_
 refine nl ?_
 refine sr ?_
 refine mv rfl rfl ?_
 refine cl rfl rfl rfl def0_ListGroupsRequest rfl (fun v_ H1 L1 hle_ hR_ => ?_)
 obtain ⟨rfl, rfl⟩ := hR_
 refine nl ?_
 refine sr ?_
 refine mv rfl rfl ?_
 refine bd' S232 rfl rfl rfl ?_
 refine al Tryz.zeroValue232 rfl rfl (fun b_1 => ?_)
 refine sa Tryz.sizeOf232 rfl rfl rfl rfl rfl .head ?_
 have hR0_ : RdAt H 232 b_1 ⟨s, false, !a.isNone⟩ [(b_1, .cells [_, _].toArray 232 (0, 0))] := ⟨a, c, rfl, hB, by simp⟩
 obtain ⟨x0, hx0⟩ : ∃ x, x = stepF (Fd.mk 11 4 (-1) (-1) (-1) 0 8 []) v false ⟨s, false, !a.isNone⟩ := ⟨_, rfl⟩
 obtain ⟨x1, hx1⟩ : ∃ x, x = stepF (Fd.mk 11 5 (-1) (-1) (-1) 0 8 []) v false x0.2 := ⟨_, rfl⟩
 obtain ⟨u, hu⟩ : ∃ x, x = tailU false x1.2 := ⟨_, rfl⟩
 have hD : decP fs_ListGroupsRequest v false ⟨s, false, !a.isNone⟩ = (.mk 0 [] false [x0.1, x1.1] u.1, u.2) := by
  generalize (⟨s, false, !a.isNone⟩ : Rd) = r_ at hx0 ⊢
  rw [decP_eq]; unfold fs_ListGroupsRequest; simp only [decFs_cons, decFs_nil, ← hx0, ← hx1, ← hu]
 have hL0 : x0.2.s.length ≤ BR := by rw [hx0]; exact Nat.le_trans (stepF_shr _ _ _ _) hL_
 have hL1 : x1.2.s.length ≤ BR := by rw [hx1]; exact Nat.le_trans (stepF_shr _ _ _ _) hL0
 have hE : u.2.bad = true → (decP fs_ListGroupsRequest v false ⟨s, false, !a.isNone⟩).2.bad = true := fun h => by rw [hD]; exact h
 have hB1 : x1.2.bad = true → (decP fs_ListGroupsRequest v false ⟨s, false, !a.isNone⟩).2.bad = true := fun h => hE (by rw [hu]; exact tailU_bad h)
 have hB0 : x0.2.bad = true → (decP fs_ListGroupsRequest v false ⟨s, false, !a.isNone⟩).2.bad = true := fun h => hB1 (by rw [hx1]; exact step_bad h)
 refine nl ?_
 refine sr ?_
 refine mv rfl rfl ?_
 refine nc rfl rfl ?_
 refine fa0 F205_0 rfl rfl ?_
 refine ld (Says.own (.tail .head)) Tryz.isAgg51 rfl (Nat.zero_add _).symm rfl rfl ?_
 refine asg rfl rfl ?_
 refine nl ?_
 refine sr ?_
 refine mv rfl rfl ?_
 refine nl ?_
 refine sr ?_
 refine mv rfl rfl ?_
 refine ge rfl rfl rfl ?_
 refine asg rfl rfl ?_
 refine nl ?_
 refine sr ?_
 refine mv rfl rfl ?_
 refine nl ?_
 refine sr ?_
 refine mv rfl rfl ?_
 refine asg rfl rfl ?_
 refine nl ?_
 refine sq ?_
 refine sr ?_
 refine mv rfl rfl ?_
 refine ge rfl rfl rfl ?_
 refine nl ?_
 refine cdF rfl (by omega) ?_
 refine skt ?_
 refine sq ?_
 refine sr ?_
 refine mv rfl rfl ?_
 refine ge rfl rfl rfl ?_
 refine nl ?_
 refine cdF rfl (by omega) ?_
 refine skt ?_
 refine sq ?_
 refine sr ?_
 refine mv rfl rfl ?_
 refine nl ?_
 refine cdF rfl (by omega) ?_
 refine skt ?_
 refine sr ?_
 refine cl rfl rfl rfl (r_complete hR0_ he) rfl (fun v_ H1 L1 hle_ hR_ => ?_)
 obtain ⟨rfl, rfl, rfl⟩ := hR_
 refine asg rfl rfl ?_
 refine nl ?_
 refine drW .head ?_
 obtain rfl : x0 = ((Tr.mk 0 [] true [] []), ⟨s, false, !a.isNone⟩) := (hx0.trans (step_no (Or.inl (show v < (4 : Int) by omega)))).trans (by rw [dflF_eq]; rfl)
 obtain rfl : x1 = ((Tr.mk 0 [] true [] []), ⟨s, false, !a.isNone⟩) := (hx1.trans (step_no (Or.inl (show v < (5 : Int) by omega)))).trans (by rw [dflF_eq]; rfl)
 obtain rfl : u = ([], ⟨s, false, !a.isNone⟩) := hu
 have hA_ := (show At_ListGroupsRequest v H (decP fs_ListGroupsRequest v false _).1 [.int .i16 v, .slice none 0 0, .slice none 0 0, .map none] from (by rw [hD]; exact ⟨none, 0, none, 0, none, rfl, (ListAt.none rfl), (ListAt.none rfl), (KvAt.nil _)⟩))
 refine rT rfl rfl (Fz.le.refl _) (fun _ _ h => h) ⟨_, rfl, ?_⟩
 have hz := RdEnd.of (e := e) hA_
 rw [show (decP fs_ListGroupsRequest v false _).2.bad = (⟨s, false, !a.isNone⟩ : Rd).bad by rw [hD]] at hz
 exact hz
theorem rd_ListGroupsRequest_t {H : Fz} {L : Own} {b : Nat} {v : Int} {a : Option Addr} {c : Nat} {s : List UInt8} {e : Value} (hB : BytesAt H a c s) (hL_ : s.length ≤ BR) (he : H.at 1 0 [e]) (hv0 : 3 ≤ v) (hv1 : v ≤ 5) :
  Fn Tryz.prog 190 [.pointer (some ⟨b, 0, none⟩), .slice a s.length c, .bool false] H ([(b, .cells [.int .i16 v, .slice none 0 0, .slice none 0 0, .map none].toArray 205 (0, 0))] :: L) (fun r H' L' => ∃ cs : List Value, L' = [(b, .cells cs.toArray 205 (0, 0))] :: L ∧ RdEnd H' (At_ListGroupsRequest v) (decP fs_ListGroupsRequest v true ⟨s, false, !a.isNone⟩) e r cs) := by
 refine Fn.mk Tryz.call190 Tryz.func190 rfl Tryz.ntmps190 rfl ?_
 refine sr ?_
 refine asg rfl rfl ?_
 refine nl ?_
 refine sr ?_
 refine mv rfl rfl ?_
 refine cl rfl rfl rfl def0_ListGroupsRequest rfl (fun v_ H1 L1 hle_ hR_ => ?_)
 obtain ⟨rfl, rfl⟩ := hR_
 refine nl ?_
 refine sr ?_
 refine mv rfl rfl ?_
 refine bd' S232 rfl rfl rfl ?_
 refine al Tryz.zeroValue232 rfl rfl (fun b_1 => ?_)
 refine sa Tryz.sizeOf232 rfl rfl rfl rfl rfl .head ?_
 have hR0_ : RdAt H 232 b_1 ⟨s, false, !a.isNone⟩ [(b_1, .cells [_, _].toArray 232 (0, 0))] := ⟨a, c, rfl, hB, by simp⟩
 obtain ⟨x0, hx0⟩ : ∃ x, x = stepF (Fd.mk 11 4 (-1) (-1) (-1) 0 8 []) v true ⟨s, false, !a.isNone⟩ := ⟨_, rfl⟩
 obtain ⟨x1, hx1⟩ : ∃ x, x = stepF (Fd.mk 11 5 (-1) (-1) (-1) 0 8 []) v true x0.2 := ⟨_, rfl⟩
 obtain ⟨u, hu⟩ : ∃ x, x = tailU true x1.2 := ⟨_, rfl⟩
 have hD : decP fs_ListGroupsRequest v true ⟨s, false, !a.isNone⟩ = (.mk 0 [] false [x0.1, x1.1] u.1, u.2) := by
  generalize (⟨s, false, !a.isNone⟩ : Rd) = r_ at hx0 ⊢
  rw [decP_eq]; unfold fs_ListGroupsRequest; simp only [decFs_cons, decFs_nil, ← hx0, ← hx1, ← hu]
 have hL0 : x0.2.s.length ≤ BR := by rw [hx0]; exact Nat.le_trans (stepF_shr _ _ _ _) hL_
 have hL1 : x1.2.s.length ≤ BR := by rw [hx1]; exact Nat.le_trans (stepF_shr _ _ _ _) hL0
 have hE : u.2.bad = true → (decP fs_ListGroupsRequest v true ⟨s, false, !a.isNone⟩).2.bad = true := fun h => by rw [hD]; exact h
 have hB1 : x1.2.bad = true → (decP fs_ListGroupsRequest v true ⟨s, false, !a.isNone⟩).2.bad = true := fun h => hE (by rw [hu]; exact tailU_bad h)
 have hB0 : x0.2.bad = true → (decP fs_ListGroupsRequest v true ⟨s, false, !a.isNone⟩).2.bad = true := fun h => hB1 (by rw [hx1]; exact step_bad h)
 refine nl ?_
 refine sr ?_
 refine mv rfl rfl ?_
 refine nc rfl rfl ?_
 refine fa0 F205_0 rfl rfl ?_
 refine ld (Says.own (.tail .head)) Tryz.isAgg51 rfl (Nat.zero_add _).symm rfl rfl ?_
 refine asg rfl rfl ?_
 refine nl ?_
 refine sr ?_
 refine mv rfl rfl ?_
 refine nl ?_
 refine sr ?_
 refine mv rfl rfl ?_
 refine ge rfl rfl rfl ?_
 refine asg rfl rfl ?_
 refine nl ?_
 refine sr ?_
 refine mv rfl rfl ?_
 refine nl ?_
 refine sr ?_
 refine mv rfl rfl ?_
 refine asg rfl rfl ?_
 refine nl ?_
 refine sq ?_
 refine sr ?_
 refine mv rfl rfl ?_
 refine ge rfl rfl rfl ?_
 refine nl ?_
 refine cutT (fun l' H' L' => ∃ (a0 : Option Addr), ∃ (c0 : Nat), ∃ (Nj0 : Chunk), [(2, .bool false), (7, .pointer (some ⟨b_1, 0, none⟩)), (8, .int .i16 v), (9, .bool (decide ((3 : Int) ≤ v))), (10, .pointer (some ⟨b, 0, none⟩))] = l' ∧ Nj0 :: [(b, .cells [.int .i16 v, .slice a0 (lT x0.1).length c0, .slice none 0 0, .map none].toArray 205 (0, 0))] :: L = L' ∧ RdAt H' 232 b_1 x0.2 Nj0 ∧ ListAt H' x0.1 1 RText a0 c0) ?_ (fun l' H' L' le_2 hI => ?_)
 ·
  refine cd rfl (fun h35 => ?_) (fun h35 => ?_)
  ·
   refine sr ?_
   refine mv rfl rfl ?_
   refine nc rfl rfl ?_
   refine fa0 F205_1 rfl rfl ?_
   refine ld (Says.own (.tail .head)) Tryz.isAgg203 rfl (Nat.zero_add _).symm rfl rfl ?_
   refine asg rfl rfl ?_
   refine nl ?_
   refine sr ?_
   refine mv rfl rfl ?_
   refine asg rfl rfl ?_
   refine nl ?_
   refine sr ?_
   refine asg rfl rfl ?_
   refine nl ?_
   refine sq ?_
   refine sr ?_
   refine mv rfl rfl ?_
   refine nl ?_
   refine cdT rfl (by omega) ?_
   refine rg ?_
   have ey0 : x0 = (.mk 0 [] (if 0 ≤ ((-1) : Int) ∧ (v < ((-1) : Int) ∨ (rArr true ⟨s, false, !a.isNone⟩).1 = 0) then false else decide ((rArr true ⟨s, false, !a.isNone⟩).1 ≤ 0)) (rMany (decV 8 (decP [] v true) false true) (rArr true ⟨s, false, !a.isNone⟩).1.toNat (rArr true ⟨s, false, !a.isNone⟩).2).1 [], (rMany (decV 8 (decP [] v true) false true) (rArr true ⟨s, false, !a.isNone⟩).1.toNat (rArr true ⟨s, false, !a.isNone⟩).2).2) := (hx0.trans (step_yes (by decide) (show (4 : Int) ≤ v by omega) (Or.inl (by decide)))).trans (decF'_list rfl rfl)
   have hn0 : (rArr true ⟨s, false, !a.isNone⟩).1.toNat = (lT x0.1).length := by rw [ey0]; exact (lT_many nul_le).symm
   have ex0 := ey0
   rw [hn0] at ex0
   have hl0 := rArr_le true ⟨s, false, !a.isNone⟩
   have hm0 : (rArr true ⟨s, false, !a.isNone⟩).2.s.length ≤ BR := Nat.le_trans (rArr_len true ⟨s, false, !a.isNone⟩) hL_
   have hnb0 : (lT x0.1).length ≤ BR := by omega
   refine cl rfl rfl rfl (r_arrt hR0_) rfl (fun v_ H1 L1 hle_ hR_ => ?_)
   obtain ⟨rfl, N42, rfl, hR42, rfl⟩ := hR_
   have hh0 := rArr_hi true ⟨s, false, !a.isNone⟩
   refine asg rfl rfl ?_
   refine nl ?_
   refine sq ?_
   refine sr ?_
   refine cl rfl rfl rfl (r_ok hR42) rfl (fun v_ H1 L1 hle_ hR_ => ?_)
   obtain ⟨rfl, rfl, rfl⟩ := hR_
   refine nt rfl rfl ?_
   refine nl ?_
   refine cb rfl (fun h45 => ?_) (fun h45 => ?_)
   ·
    have hbad_ : (rArr true ⟨s, false, !a.isNone⟩).2.bad = true := by simpa using h45
    refine sr ?_
    refine cl rfl rfl rfl (r_complete hR42 he) rfl (fun v_ H1 L1 hle_ hR_ => ?_)
    obtain ⟨rfl, rfl, rfl⟩ := hR_
    refine asg rfl rfl ?_
    refine nl ?_
    refine drW .head ?_
    exact rT rfl rfl (Fz.le.refl _) (fun _ _ h => h) ⟨_, rfl, RdEnd.out (hB0 (by rw [ey0]; exact rMany_bad (fun r h => decV_bad (decP_bad _ _ _) h) _ _ hbad_)) hbad_⟩
   ·
    refine skt ?_
    refine sr ?_
    refine mv rfl rfl ?_
    refine sh' (j := 0) Tryz.runUnderlying203 Tryz.sizeOf9 rfl rfl rfl (Nat.zero_le _) rfl ?_
    refine asg rfl rfl ?_
    refine nl ?_
    refine sq ?_
    refine sr ?_
    refine mv rfl rfl ?_
    refine gt rfl rfl rfl ?_
    refine nl ?_
    refine nulC2 ?_
    refine cutT (fun l' H' L' => ∃ (a0 : Option Addr), ∃ (c0 : Nat), ∃ (Nr0 : Chunk), [(2, .bool false), (7, .pointer (some ⟨b_1, 0, none⟩)), (8, .int .i16 v), (9, .bool (decide ((3 : Int) ≤ v))), (10, .pointer (some ⟨b, 0, none⟩)), (11, .slice none 0 0), (12, .slice a0 (lT x0.1).length c0), (13, .int .i32 (rArr true ⟨s, false, !a.isNone⟩).1)] = l' ∧ Nr0 :: N42 :: [(b, .cells [.int .i16 v, .slice none 0 0, .slice none 0 0, .map none].toArray 205 (0, 0))] :: L = L' ∧ Row 9 1 a0 (lT x0.1).length c0 (reps [.string ⟨#[]⟩] (lT x0.1).length) Nr0 ∧ a0.isNone = (if 0 ≤ ((-1) : Int) ∧ (v < ((-1) : Int) ∨ (rArr true ⟨s, false, !a.isNone⟩).1 = 0) then false else decide ((rArr true ⟨s, false, !a.isNone⟩).1 ≤ 0))) ?_ (fun l' H' L' le_3 hI => ?_)
    ·
     refine cd rfl (fun h50 => ?_) (fun h50 => ?_)
     ·
      refine rg ?_
      refine mv rfl rfl ?_
      refine mv rfl rfl ?_
      refine apz (zs := [.string ⟨#[]⟩]) (m := (lT x0.1).length) Tryz.underlying203 Tryz.underlying21 I9 rfl rfl rfl (by omega) (by omega) (by have h9 := hnb0; unfold BR at h9; omega) (by have h9 := hnb0; unfold BR at h9; unfold maxLen; omega) rfl (fun g53 cp53 N53 r53 => ?_)
      refine asg rfl rfl ?_
      refine nN ?_
      refine drN (.tail .head) ?_
      refine fun a_ w_ hA hw => ⟨_, _, _, hA.sub ?_, (Fz.le.refl _), hw, (some ⟨g53, 0, none⟩), cp53, N53, rfl, rfl, r53, (by rw [if_neg (by omega)]; exact (decide_eq_false (by omega)).symm)⟩
      exact (.cons rfl (.cons rfl (.cons rfl (.cons rfl (.cons rfl (.cons rfl (.cons rfl (.cons rfl (.nil _)))))))))
     ·
      refine skN ?_
      refine fun a_ w_ hA hw => ⟨_, _, _, hA.sub ?_, (Fz.le.refl _), hw, none, 0, [], rfl, rfl, (by rw [show (lT x0.1).length = 0 by omega]; exact (Row.nil _ _)), (by rw [if_neg (by omega)]; exact (decide_eq_true (by omega)).symm)⟩
      exact (.cons rfl (.cons rfl (.cons rfl (.cons rfl (.cons rfl (.cons rfl (.cons (by rw [show (lT x0.1).length = 0 by omega]; rfl) (.cons rfl (.nil _)))))))))
    ·
     obtain ⟨a0, c0, Nr0, rfl, rfl, pj0, pj1⟩ := hI
     have hr0 := pj0
     have hi0 := pj1
     refine sq ?_
     refine sr ?_
     refine asg rfl rfl ?_
     refine nl ?_
     refine bl (lp ((lT x0.1).length) (fun k0 l' H' L' => ∃ (es0 : List (KE 1)) (M0 RN0 : Chunk), [(2, .bool false), (7, .pointer (some ⟨b_1, 0, none⟩)), (8, .int .i16 v), (9, .bool (decide ((3 : Int) ≤ v))), (10, .pointer (some ⟨b, 0, none⟩)), (11, .slice none 0 0), (12, .slice a0 (lT x0.1).length c0), (13, .int .i32 (rArr true ⟨s, false, !a.isNone⟩).1), (14, .int .i32 (k0 : Int))] = l' ∧ M0 :: RN0 :: [(b, .cells [.int .i16 v, .slice none 0 0, .slice none 0 0, .map none].toArray 205 (0, 0))] :: L = L' ∧ RdAt H' 232 b_1 (rMany (decV 8 (decP [] v true) false true) k0 (rArr true ⟨s, false, !a.isNone⟩).2).2 RN0 ∧ Row 9 1 a0 (lT x0.1).length c0 (es0.flatMap fk ++ reps [.string ⟨#[]⟩] ((lT x0.1).length - k0)) M0 ∧ es0.map (·.2) = (rMany (decV 8 (decP [] v true) false true) k0 (rArr true ⟨s, false, !a.isNone⟩).2).1 ∧ ∀ p ∈ es0, RText H' p.2 (fk p)) [(2, .bool false), (7, .pointer (some ⟨b_1, 0, none⟩)), (8, .int .i16 v), (9, .bool (decide ((3 : Int) ≤ v))), (10, .pointer (some ⟨b, 0, none⟩)), (11, .slice none 0 0), (12, .slice a0 (lT x0.1).length c0), (13, .int .i32 (rArr true ⟨s, false, !a.isNone⟩).1), (14, .int .i32 (0 : Int))] (.cons rfl (.cons rfl (.cons rfl (.cons rfl (.cons rfl (.cons rfl (.cons rfl (.cons rfl (.cons rfl (.nil _)))))))))) ⟨[], Nr0, _, rfl, rfl, (hR42.mono le_3), hr0, rfl, (fun p hp => by cases hp)⟩ (fun k0 l' H' L' hk0 le_4 hI => ?_))
     obtain ⟨es0, M0, RN0, rfl, rfl, hR_0, hw_0, he_0, hg_0⟩ := hI
     have hs_0 := els_len he_0
     have hp_0 : (es0.flatMap fk).length = k0 * 1 := els_flat hs_0
     refine sq ?_
     refine sr ?_
     refine mv rfl rfl ?_
     refine mv rfl rfl ?_
     refine lt rfl rfl rfl ?_
     refine nl ?_
     refine cd rfl (fun h56 => ?_) (fun h56 => ?_)
     ·
      have hkl0 : k0 < (lT x0.1).length := by omega
      obtain ⟨g0, po0, hga0, rfl, hbk0⟩ := hw_0.next (zs := [.string ⟨#[]⟩]) hkl0 rfl (by decide)
      have ho0 : 0 + k0 * 1 = (es0.flatMap fk).length := by rw [hp_0]; omega
      have hbz0 : ((decV 8 (decP [] v true) false true) (rMany (decV 8 (decP [] v true) false true) k0 (rArr true ⟨s, false, !a.isNone⟩).2).2).2.bad = true → (decP fs_ListGroupsRequest v true ⟨s, false, !a.isNone⟩).2.bad = true := fun h => hB0 (by rw [ex0]; exact rMany_mono (fun r h => decV_bad (fun r h => decP_bad _ _ _ r h) h) _ (show k0 + 1 ≤ (lT x0.1).length from hkl0) (by rw [rMany_succ]; exact h))
      have hLk0 : (rMany (decV 8 (decP [] v true) false true) k0 (rArr true ⟨s, false, !a.isNone⟩).2).2.s.length ≤ BR := Nat.le_trans (rMany_shr (fun r => decV_shr (fun r => decP_shr _ _ _ r) r) _ _) hm0
      obtain ⟨y0, hy0⟩ : ∃ x, x = (decV 8 (decP [] v true) false true) (rMany (decV 8 (decP [] v true) false true) k0 (rArr true ⟨s, false, !a.isNone⟩).2).2 := ⟨_, rfl⟩
      refine skt ?_
      refine sq ?_
      refine bl ?_
      refine sr ?_
      refine asg rfl rfl ?_
      refine nl ?_
      refine sq ?_
      refine sr ?_
      refine mv rfl rfl ?_
      refine nl ?_
      refine cF rfl ?_
      refine sr ?_
      refine mv rfl rfl ?_
      refine nl ?_
      refine cdT rfl (by omega) ?_
      refine rg ?_
      refine tf (.tail .head) ?_
      refine cl rfl rfl rfl (d8t hR_0 hy0) rfl (fun v_ H1 L1 hle_ hR_ => ?_)
      obtain ⟨N64, rfl, hR64, rfl, rfl⟩ := hR_
      refine asg rfl rfl ?_
      refine nl ?_
      refine rg ?_
      refine mv rfl rfl ?_
      refine mv rfl rfl ?_
      refine mv rfl rfl ?_
      refine ixk (j := k0) Tryz.runUnderlying203 Tryz.sizeOf9 rfl hga0 rfl rfl hkl0 rfl ?_
      refine stM (off := 0) Tryz.sizeOf9 rfl ho0 rfl rfl rfl (.tail .head) ?_
      refine nN ?_
      refine Nb ?_
      refine Nt ?_
      refine rg ?_
      refine mv rfl rfl ?_
      refine ad rfl rfl (c := ((k0 + 1 : Nat) : Int)) ((wrap32_le (by omega) (by omega)).trans (by omega)) rfl ?_
      refine asg rfl rfl ?_
      refine nN ?_
      have hfs0 := flatMap_snoc' fk es0 ((⟨([.string ⟨y0.1.s.toArray⟩] : List Value), rfl, all_one rfl⟩, ((decV 8 (decP [] v true) false true) (rMany (decV 8 (decP [] v true) false true) k0 (rArr true ⟨s, false, !a.isNone⟩).2).2).1) : KE 1)
      have hrw0 := hbk0 ([.string ⟨y0.1.s.toArray⟩] : List Value) rfl
      refine tfN (.tail .head) ?_
      refine fun a_ w_ hA hw => ⟨hkl0, _, _, _, hA.sub ?_, le_4, hw, _, _, _, rfl, rfl, (by rw [rMany_succ, ← hy0]; exact hR64), (by rw [← hfs0]; exact hrw0), (dec_els he_0), (fun p hp => (mem_snoc hp).elim (fun h => RText.mono _ _ _ _ (Fz.le.refl _) (hg_0 p h)) (fun h => h ▸ (by show RText _ ((decV 8 (decP [] v true) false true) (rMany (decV 8 (decP [] v true) false true) k0 (rArr true ⟨s, false, !a.isNone⟩).2).2).1 [.string ⟨y0.1.s.toArray⟩]; rw [← hy0]; rfl)))⟩
      exact (.cons rfl (.cons rfl (.cons rfl (.cons rfl (.cons rfl (.cons rfl (.cons rfl (.cons rfl (.cons rfl (.nil _))))))))))
     ·
      have hkn_ : k0 = (lT x0.1).length := by omega
      subst hkn_
      have hw2_0 : Row 9 1 a0 (lT x0.1).length c0 (es0.flatMap fk) M0 := by have h := hw_0; rw [Nat.sub_self] at h; simpa [reps] using h
      refine frW hw2_0 .head (fun Hf0 hlf0 hfz0 => ?_)
      have hrs0 := RowsAt.row (R := RText) hfz0 hs_0.symm hw2_0.le.1 (fun p hp => RText.mono _ _ _ _ hlf0 (hg_0 p hp))
      rw [he_0] at hrs0
      have hf0 : ListAt Hf0 x0.1 1 RText a0 c0 := by rw [ex0]; exact listAt_of hrs0 hi0 (fun h => by have h1 := nul_le h; rw [show (lT x0.1).length = 0 by omega]; rfl)
      have hRx0 : RdAt Hf0 232 b_1 x0.2 RN0 := by rw [ex0]; exact (hR_0.mono hlf0)
      refine exX ?_
      refine XT ?_
      refine XT ?_
      refine Xb ?_
      refine Nt ?_
      refine sr ?_
      refine mv rfl rfl ?_
      refine asg rfl rfl ?_
      refine nl ?_
      refine rg ?_
      refine mv rfl rfl ?_
      refine mv rfl rfl ?_
      refine nc rfl rfl ?_
      refine fa0 F205_1 rfl rfl ?_
      refine st Tryz.sizeOf203 rfl rfl rfl rfl (.tail .head) ?_
      refine nN ?_
      refine fun a_ w_ hA hw => ⟨_, _, _, hA.sub ?_, (le_3.trans (le_4.trans hlf0)), hw, a0, c0, RN0, rfl, rfl, hRx0, hf0⟩
      exact (.cons rfl (.cons rfl (.cons rfl (.cons rfl (.cons rfl (.nil _))))))
  ·
   refine skN ?_
   obtain rfl : x0 = ((Tr.mk 0 [] true [] []), ⟨s, false, !a.isNone⟩) := (hx0.trans (step_no (Or.inl (show v < (4 : Int) by omega)))).trans (by rw [dflF_eq]; rfl)
   refine fun a_ w_ hA hw => ⟨_, _, _, hA.sub ?_, (Fz.le.refl _), hw, none, 0, [(b_1, .cells [_, _].toArray 232 (0, 0))], rfl, rfl, hR0_, (ListAt.none rfl)⟩
   exact (.cons rfl (.cons rfl (.cons rfl (.cons rfl (.cons rfl (.nil _))))))
 ·
  obtain ⟨a0, c0, Nj0, rfl, rfl, pj0, pj1⟩ := hI
  have hRj0 := pj0
  have hf0 := pj1
  refine sq ?_
  refine sr ?_
  refine mv rfl rfl ?_
  refine ge rfl rfl rfl ?_
  refine nl ?_
  refine cutT (fun l' H' L' => ∃ (a1 : Option Addr), ∃ (c1 : Nat), ∃ (Nj1 : Chunk), [(7, .pointer (some ⟨b_1, 0, none⟩)), (9, .bool (decide ((3 : Int) ≤ v))), (10, .pointer (some ⟨b, 0, none⟩))] = l' ∧ Nj1 :: [(b, .cells [.int .i16 v, .slice a0 (lT x0.1).length c0, .slice a1 (lT x1.1).length c1, .map none].toArray 205 (0, 0))] :: L = L' ∧ RdAt H' 232 b_1 x1.2 Nj1 ∧ ListAt H' x1.1 1 RText a1 c1) ?_ (fun l' H' L' le_6 hI => ?_)
  ·
   refine cd rfl (fun h76 => ?_) (fun h76 => ?_)
   ·
    refine sr ?_
    refine mv rfl rfl ?_
    refine nc rfl rfl ?_
    refine fa0 F205_2 rfl rfl ?_
    refine ld (Says.own (.tail .head)) Tryz.isAgg203 rfl (Nat.zero_add _).symm rfl rfl ?_
    refine asg rfl rfl ?_
    refine nl ?_
    refine sr ?_
    refine mv rfl rfl ?_
    refine asg rfl rfl ?_
    refine nl ?_
    refine sr ?_
    refine asg rfl rfl ?_
    refine nl ?_
    refine sq ?_
    refine sr ?_
    refine mv rfl rfl ?_
    refine nl ?_
    refine cdT rfl (by omega) ?_
    refine rg ?_
    have ey1 : x1 = (.mk 0 [] (if 0 ≤ ((-1) : Int) ∧ (v < ((-1) : Int) ∨ (rArr true x0.2).1 = 0) then false else decide ((rArr true x0.2).1 ≤ 0)) (rMany (decV 8 (decP [] v true) false true) (rArr true x0.2).1.toNat (rArr true x0.2).2).1 [], (rMany (decV 8 (decP [] v true) false true) (rArr true x0.2).1.toNat (rArr true x0.2).2).2) := (hx1.trans (step_yes (by decide) (show (5 : Int) ≤ v by omega) (Or.inl (by decide)))).trans (decF'_list rfl rfl)
    have hn1 : (rArr true x0.2).1.toNat = (lT x1.1).length := by rw [ey1]; exact (lT_many nul_le).symm
    have ex1 := ey1
    rw [hn1] at ex1
    have hl1 := rArr_le true x0.2
    have hm1 : (rArr true x0.2).2.s.length ≤ BR := Nat.le_trans (rArr_len true x0.2) hL0
    have hnb1 : (lT x1.1).length ≤ BR := by omega
    refine cl rfl rfl rfl (r_arrt hRj0) rfl (fun v_ H1 L1 hle_ hR_ => ?_)
    obtain ⟨rfl, N83, rfl, hR83, rfl⟩ := hR_
    have hh1 := rArr_hi true x0.2
    refine asg rfl rfl ?_
    refine nl ?_
    refine sq ?_
    refine sr ?_
    refine cl rfl rfl rfl (r_ok hR83) rfl (fun v_ H1 L1 hle_ hR_ => ?_)
    obtain ⟨rfl, rfl, rfl⟩ := hR_
    refine nt rfl rfl ?_
    refine nl ?_
    refine cb rfl (fun h86 => ?_) (fun h86 => ?_)
    ·
     have hbad_ : (rArr true x0.2).2.bad = true := by simpa using h86
     refine sr ?_
     refine cl rfl rfl rfl (r_complete hR83 (he.mono le_2)) rfl (fun v_ H1 L1 hle_ hR_ => ?_)
     obtain ⟨rfl, rfl, rfl⟩ := hR_
     refine asg rfl rfl ?_
     refine nl ?_
     refine drW .head ?_
     exact rT rfl rfl le_2 (fun _ _ h => h) ⟨_, rfl, RdEnd.out (hB1 (by rw [ey1]; exact rMany_bad (fun r h => decV_bad (decP_bad _ _ _) h) _ _ hbad_)) hbad_⟩
    ·
     refine skt ?_
     refine sr ?_
     refine mv rfl rfl ?_
     refine sh' (j := 0) Tryz.runUnderlying203 Tryz.sizeOf9 rfl rfl rfl (Nat.zero_le _) rfl ?_
     refine asg rfl rfl ?_
     refine nl ?_
     refine sq ?_
     refine sr ?_
     refine mv rfl rfl ?_
     refine gt rfl rfl rfl ?_
     refine nl ?_
     refine nulC2 ?_
     refine cutT (fun l' H' L' => ∃ (a1 : Option Addr), ∃ (c1 : Nat), ∃ (Nr1 : Chunk), [(2, .bool false), (7, .pointer (some ⟨b_1, 0, none⟩)), (9, .bool (decide ((3 : Int) ≤ v))), (10, .pointer (some ⟨b, 0, none⟩)), (16, .slice none 0 0), (17, .slice a1 (lT x1.1).length c1), (18, .int .i32 (rArr true x0.2).1)] = l' ∧ Nr1 :: N83 :: [(b, .cells [.int .i16 v, .slice a0 (lT x0.1).length c0, .slice none 0 0, .map none].toArray 205 (0, 0))] :: L = L' ∧ Row 9 1 a1 (lT x1.1).length c1 (reps [.string ⟨#[]⟩] (lT x1.1).length) Nr1 ∧ a1.isNone = (if 0 ≤ ((-1) : Int) ∧ (v < ((-1) : Int) ∨ (rArr true x0.2).1 = 0) then false else decide ((rArr true x0.2).1 ≤ 0))) ?_ (fun l' H' L' le_7 hI => ?_)
     ·
      refine cd rfl (fun h91 => ?_) (fun h91 => ?_)
      ·
       refine rg ?_
       refine mv rfl rfl ?_
       refine mv rfl rfl ?_
       refine apz (zs := [.string ⟨#[]⟩]) (m := (lT x1.1).length) Tryz.underlying203 Tryz.underlying21 I9 rfl rfl rfl (by omega) (by omega) (by have h9 := hnb1; unfold BR at h9; omega) (by have h9 := hnb1; unfold BR at h9; unfold maxLen; omega) rfl (fun g94 cp94 N94 r94 => ?_)
       refine asg rfl rfl ?_
       refine nN ?_
       refine drN (.tail .head) ?_
       refine fun a_ w_ hA hw => ⟨_, _, _, hA.sub ?_, (Fz.le.refl _), hw, (some ⟨g94, 0, none⟩), cp94, N94, rfl, rfl, r94, (by rw [if_neg (by omega)]; exact (decide_eq_false (by omega)).symm)⟩
       exact (.cons rfl (.cons rfl (.cons rfl (.cons rfl (.cons rfl (.cons rfl (.cons rfl (.nil _))))))))
      ·
       refine skN ?_
       refine fun a_ w_ hA hw => ⟨_, _, _, hA.sub ?_, (Fz.le.refl _), hw, none, 0, [], rfl, rfl, (by rw [show (lT x1.1).length = 0 by omega]; exact (Row.nil _ _)), (by rw [if_neg (by omega)]; exact (decide_eq_true (by omega)).symm)⟩
       exact (.cons rfl (.cons rfl (.cons rfl (.cons rfl (.cons rfl (.cons (by rw [show (lT x1.1).length = 0 by omega]; rfl) (.cons rfl (.nil _))))))))
     ·
      obtain ⟨a1, c1, Nr1, rfl, rfl, pj0, pj1⟩ := hI
      have hr1 := pj0
      have hi1 := pj1
      refine sq ?_
      refine sr ?_
      refine asg rfl rfl ?_
      refine nl ?_
      refine bl (lp ((lT x1.1).length) (fun k1 l' H' L' => ∃ (es1 : List (KE 1)) (M1 RN1 : Chunk), [(2, .bool false), (7, .pointer (some ⟨b_1, 0, none⟩)), (9, .bool (decide ((3 : Int) ≤ v))), (10, .pointer (some ⟨b, 0, none⟩)), (16, .slice none 0 0), (17, .slice a1 (lT x1.1).length c1), (18, .int .i32 (rArr true x0.2).1), (19, .int .i32 (k1 : Int))] = l' ∧ M1 :: RN1 :: [(b, .cells [.int .i16 v, .slice a0 (lT x0.1).length c0, .slice none 0 0, .map none].toArray 205 (0, 0))] :: L = L' ∧ RdAt H' 232 b_1 (rMany (decV 8 (decP [] v true) false true) k1 (rArr true x0.2).2).2 RN1 ∧ Row 9 1 a1 (lT x1.1).length c1 (es1.flatMap fk ++ reps [.string ⟨#[]⟩] ((lT x1.1).length - k1)) M1 ∧ es1.map (·.2) = (rMany (decV 8 (decP [] v true) false true) k1 (rArr true x0.2).2).1 ∧ ∀ p ∈ es1, RText H' p.2 (fk p)) [(2, .bool false), (7, .pointer (some ⟨b_1, 0, none⟩)), (9, .bool (decide ((3 : Int) ≤ v))), (10, .pointer (some ⟨b, 0, none⟩)), (16, .slice none 0 0), (17, .slice a1 (lT x1.1).length c1), (18, .int .i32 (rArr true x0.2).1), (19, .int .i32 (0 : Int))] (.cons rfl (.cons rfl (.cons rfl (.cons rfl (.cons rfl (.cons rfl (.cons rfl (.cons rfl (.nil _))))))))) ⟨[], Nr1, _, rfl, rfl, (hR83.mono le_7), hr1, rfl, (fun p hp => by cases hp)⟩ (fun k1 l' H' L' hk1 le_8 hI => ?_))
      obtain ⟨es1, M1, RN1, rfl, rfl, hR_1, hw_1, he_1, hg_1⟩ := hI
      have hs_1 := els_len he_1
      have hp_1 : (es1.flatMap fk).length = k1 * 1 := els_flat hs_1
      refine sq ?_
      refine sr ?_
      refine mv rfl rfl ?_
      refine mv rfl rfl ?_
      refine lt rfl rfl rfl ?_
      refine nl ?_
      refine cd rfl (fun h97 => ?_) (fun h97 => ?_)
      ·
       have hkl1 : k1 < (lT x1.1).length := by omega
       obtain ⟨g1, po1, hga1, rfl, hbk1⟩ := hw_1.next (zs := [.string ⟨#[]⟩]) hkl1 rfl (by decide)
       have ho1 : 0 + k1 * 1 = (es1.flatMap fk).length := by rw [hp_1]; omega
       have hbz1 : ((decV 8 (decP [] v true) false true) (rMany (decV 8 (decP [] v true) false true) k1 (rArr true x0.2).2).2).2.bad = true → (decP fs_ListGroupsRequest v true ⟨s, false, !a.isNone⟩).2.bad = true := fun h => hB1 (by rw [ex1]; exact rMany_mono (fun r h => decV_bad (fun r h => decP_bad _ _ _ r h) h) _ (show k1 + 1 ≤ (lT x1.1).length from hkl1) (by rw [rMany_succ]; exact h))
       have hLk1 : (rMany (decV 8 (decP [] v true) false true) k1 (rArr true x0.2).2).2.s.length ≤ BR := Nat.le_trans (rMany_shr (fun r => decV_shr (fun r => decP_shr _ _ _ r) r) _ _) hm1
       obtain ⟨y1, hy1⟩ : ∃ x, x = (decV 8 (decP [] v true) false true) (rMany (decV 8 (decP [] v true) false true) k1 (rArr true x0.2).2).2 := ⟨_, rfl⟩
       refine skt ?_
       refine sq ?_
       refine bl ?_
       refine sr ?_
       refine asg rfl rfl ?_
       refine nl ?_
       refine sq ?_
       refine sr ?_
       refine mv rfl rfl ?_
       refine nl ?_
       refine cF rfl ?_
       refine sr ?_
       refine mv rfl rfl ?_
       refine nl ?_
       refine cdT rfl (by omega) ?_
       refine rg ?_
       refine tf (.tail .head) ?_
       refine cl rfl rfl rfl (d8t hR_1 hy1) rfl (fun v_ H1 L1 hle_ hR_ => ?_)
       obtain ⟨N105, rfl, hR105, rfl, rfl⟩ := hR_
       refine asg rfl rfl ?_
       refine nl ?_
       refine rg ?_
       refine mv rfl rfl ?_
       refine mv rfl rfl ?_
       refine mv rfl rfl ?_
       refine ixk (j := k1) Tryz.runUnderlying203 Tryz.sizeOf9 rfl hga1 rfl rfl hkl1 rfl ?_
       refine stM (off := 0) Tryz.sizeOf9 rfl ho1 rfl rfl rfl (.tail .head) ?_
       refine nN ?_
       refine Nb ?_
       refine Nt ?_
       refine rg ?_
       refine mv rfl rfl ?_
       refine ad rfl rfl (c := ((k1 + 1 : Nat) : Int)) ((wrap32_le (by omega) (by omega)).trans (by omega)) rfl ?_
       refine asg rfl rfl ?_
       refine nN ?_
       have hfs1 := flatMap_snoc' fk es1 ((⟨([.string ⟨y1.1.s.toArray⟩] : List Value), rfl, all_one rfl⟩, ((decV 8 (decP [] v true) false true) (rMany (decV 8 (decP [] v true) false true) k1 (rArr true x0.2).2).2).1) : KE 1)
       have hrw1 := hbk1 ([.string ⟨y1.1.s.toArray⟩] : List Value) rfl
       refine tfN (.tail .head) ?_
       refine fun a_ w_ hA hw => ⟨hkl1, _, _, _, hA.sub ?_, le_8, hw, _, _, _, rfl, rfl, (by rw [rMany_succ, ← hy1]; exact hR105), (by rw [← hfs1]; exact hrw1), (dec_els he_1), (fun p hp => (mem_snoc hp).elim (fun h => RText.mono _ _ _ _ (Fz.le.refl _) (hg_1 p h)) (fun h => h ▸ (by show RText _ ((decV 8 (decP [] v true) false true) (rMany (decV 8 (decP [] v true) false true) k1 (rArr true x0.2).2).2).1 [.string ⟨y1.1.s.toArray⟩]; rw [← hy1]; rfl)))⟩
       exact (.cons rfl (.cons rfl (.cons rfl (.cons rfl (.cons rfl (.cons rfl (.cons rfl (.cons rfl (.nil _)))))))))
      ·
       have hkn_ : k1 = (lT x1.1).length := by omega
       subst hkn_
       have hw2_1 : Row 9 1 a1 (lT x1.1).length c1 (es1.flatMap fk) M1 := by have h := hw_1; rw [Nat.sub_self] at h; simpa [reps] using h
       refine frW hw2_1 .head (fun Hf1 hlf1 hfz1 => ?_)
       have hrs1 := RowsAt.row (R := RText) hfz1 hs_1.symm hw2_1.le.1 (fun p hp => RText.mono _ _ _ _ hlf1 (hg_1 p hp))
       rw [he_1] at hrs1
       have hf1 : ListAt Hf1 x1.1 1 RText a1 c1 := by rw [ex1]; exact listAt_of hrs1 hi1 (fun h => by have h1 := nul_le h; rw [show (lT x1.1).length = 0 by omega]; rfl)
       have hRx1 : RdAt Hf1 232 b_1 x1.2 RN1 := by rw [ex1]; exact (hR_1.mono hlf1)
       refine exX ?_
       refine XT ?_
       refine XT ?_
       refine Xb ?_
       refine Nt ?_
       refine sr ?_
       refine mv rfl rfl ?_
       refine asg rfl rfl ?_
       refine nl ?_
       refine rg ?_
       refine mv rfl rfl ?_
       refine mv rfl rfl ?_
       refine nc rfl rfl ?_
       refine fa0 F205_2 rfl rfl ?_
       refine st Tryz.sizeOf203 rfl rfl rfl rfl (.tail .head) ?_
       refine nN ?_
       refine fun a_ w_ hA hw => ⟨_, _, _, hA.sub ?_, (le_7.trans (le_8.trans hlf1)), hw, a1, c1, RN1, rfl, rfl, hRx1, hf1⟩
       exact (.cons rfl (.cons rfl (.cons rfl (.nil _))))
   ·
    refine skN ?_
    obtain rfl : x1 = ((Tr.mk 0 [] true [] []), x0.2) := (hx1.trans (step_no (Or.inl (show v < (5 : Int) by omega)))).trans (by rw [dflF_eq]; rfl)
    refine fun a_ w_ hA hw => ⟨_, _, _, hA.sub ?_, (Fz.le.refl _), hw, none, 0, Nj0, rfl, rfl, hRj0, (ListAt.none rfl)⟩
    exact (.cons rfl (.cons rfl (.cons rfl (.nil _))))
  ·
   obtain ⟨a1, c1, Nj1, rfl, rfl, pj0, pj1⟩ := hI
   have hRj1 := pj0
   have hf1 := pj1
   refine sq ?_
   refine sr ?_
   refine mv rfl rfl ?_
   refine nl ?_
   refine cdT rfl (by omega) ?_
   refine rg ?_
   refine mv rfl rfl ?_
   refine cl rfl rfl rfl (d_tags hRj1) rfl (fun v_ H1 L1 le_10 hR_ => ?_)
   obtain ⟨N118, rfl, hR118, mt, rfl, hft⟩ := hR_
   have hu2 : u = rTags x1.2 := hu
   rw [← hu2] at hR118 hft
   refine nc rfl rfl ?_
   refine fa0 F205_3 rfl rfl ?_
   refine sa Tryz.sizeOf105 rfl rfl rfl rfl rfl (.tail .head) ?_
   refine nl ?_
   refine sr ?_
   refine cl rfl rfl rfl (r_complete hR118 (he.mono (le_2.trans (le_6.trans le_10)))) rfl (fun v_ H1 L1 hle_ hR_ => ?_)
   obtain ⟨rfl, rfl, rfl⟩ := hR_
   refine asg rfl rfl ?_
   refine nl ?_
   refine drW .head ?_
   have hA_ := (show At_ListGroupsRequest v _ (decP fs_ListGroupsRequest v true _).1 [.int .i16 v, .slice a0 (lT x0.1).length c0, .slice a1 (lT x1.1).length c1, .map mt] from (by rw [hD]; exact ⟨a0, c0, a1, c1, mt, rfl, (hf0.mono RText.mono (le_6.trans le_10)), (hf1.mono RText.mono le_10), hft⟩))
   refine rT rfl rfl (le_2.trans (le_6.trans le_10)) (fun _ _ h => h) ⟨_, rfl, ?_⟩
   have hz := RdEnd.of (e := e) hA_
   rw [show (decP fs_ListGroupsRequest v true _).2.bad = u.2.bad by rw [hD]] at hz
   exact hz
end Go.Sx
