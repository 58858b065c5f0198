import Derived.Test.YtoncemcnclkpkaaDoorSxTab
import Derived.Test.YtoncemcnclkpkaaDoorBDescribeTransactionsRequest
import Derived.Test.YtoncemcnclkpkaaDoorRK2
import Derived.KernelRfl
set_option linter.unusedVariables false
set_option linter.unusedSimpArgs false
set_option maxRecDepth 100000
set_option maxHeartbeats 20000000
namespace Go.Sx
open Go.Proofs
theorem def0_DescribeTransactionsRequest {H : Fz} {L : Own} {b : Nat} {c0 c1 c2 : Value} :
    Fn Tryd.prog 108 [.pointer (some ⟨b, 0, none⟩)] H ([(b, .cells [c0, c1, c2].toArray 122 (0, 0))] :: L) (fun _ H' L' => H = H' ∧ L' = [(b, .cells [c0, c1, c2].toArray 122 (0, 0))] :: L) := by
  refine Fn.mk Tryd.call108 Tryd.func108 rfl Tryd.ntmps108 rfl ?_
  refine skN ?_
  exact fun _ _ hA hw => rn rfl (Fz.le.refl _) ⟨rfl, rfl⟩ hA hw
theorem rd_DescribeTransactionsRequest_t {H : Fz} {L : Own} {b : Nat} {v : Int} {a : Option Addr} {c : Nat} {s : List UInt8} {e : Value} (hB : BytesAt H a c s) (hL_ : s.length ≤ BR) (he : H.at 0 0 [e]) (hv0 : 0 ≤ v) (hv1 : v ≤ 0) :
    Fn Tryd.prog 109 [.pointer (some ⟨b, 0, none⟩), .slice a s.length c, .bool false] H ([(b, .cells [.int .i16 v, .slice none 0 0, .map none].toArray 122 (0, 0))] :: L) (fun r H' L' => ∃ cs : List Value, L' = [(b, .cells cs.toArray 122 (0, 0))] :: L ∧ RdEnd H' (At_DescribeTransactionsRequest v) (decP fs_DescribeTransactionsRequest v true ⟨s, false, !a.isNone⟩) e r cs) := by
  refine Fn.mk Tryd.call109 Tryd.func109 rfl Tryd.ntmps109 rfl ?_
  refine sr ?_
  refine asg rfl rfl ?_
  refine nl ?_
  refine sr ?_
  refine mv rfl rfl ?_
  refine cl rfl rfl rfl def0_DescribeTransactionsRequest rfl (fun v_ H1 L1 hle_ hR_ => ?_)
  obtain ⟨rfl, rfl⟩ := hR_
  refine nl ?_
  refine sr ?_
  refine mv rfl rfl ?_
  refine bd' S124 rfl rfl rfl ?_
  refine al Tryd.zeroValue124 rfl rfl (fun b_1 => ?_)
  refine sa Tryd.sizeOf124 rfl rfl rfl rfl rfl .head ?_
  have hR0_ : RdAt H 124 b_1 ⟨s, false, !a.isNone⟩ [(b_1, .cells [_, _].toArray 124 (0, 0))] := ⟨a, c, rfl, hB, by simp⟩
  obtain ⟨x0, hx0⟩ : ∃ x, x = stepF (Fd.mk 11 0 (-1) (-1) (-1) 0 8 []) v true ⟨s, false, !a.isNone⟩ := ⟨_, rfl⟩
  obtain ⟨u, hu⟩ : ∃ x, x = tailU true x0.2 := ⟨_, rfl⟩
  have hD : decP fs_DescribeTransactionsRequest v true ⟨s, false, !a.isNone⟩ = (.mk 0 [] false [x0.1] u.1, u.2) := by
    generalize (⟨s, false, !a.isNone⟩ : Rd) = r_ at hx0 ⊢
    rw [decP_eq]; unfold fs_DescribeTransactionsRequest; simp only [decFs_cons, decFs_nil, ← hx0, ← hu]
  have hL0 : x0.2.s.length ≤ BR := by rw [hx0]; exact Nat.le_trans (stepF_shr _ _ _ _) hL_
  have hE : u.2.bad = true → (decP fs_DescribeTransactionsRequest v true ⟨s, false, !a.isNone⟩).2.bad = true := fun h => by rw [hD]; exact h
  have hB0 : x0.2.bad = true → (decP fs_DescribeTransactionsRequest v true ⟨s, false, !a.isNone⟩).2.bad = true := fun h => hE (by rw [hu]; exact tailU_bad h)
  refine nl ?_
  refine sr ?_
  refine mv rfl rfl ?_
  refine nc rfl rfl ?_
  refine fa0 F122_0 rfl rfl ?_
  refine ld (Says.own (.tail .head)) Tryd.isAgg47 rfl (Nat.zero_add _).symm rfl rfl ?_
  refine asg rfl rfl ?_
  refine nl ?_
  refine sr ?_
  refine mv rfl rfl ?_
  refine nl ?_
  refine sr ?_
  refine mv rfl rfl ?_
  refine ge rfl rfl rfl ?_
  refine asg rfl rfl ?_
  refine nl ?_
  refine sr ?_
  refine mv rfl rfl ?_
  refine nl ?_
  refine sr ?_
  refine mv rfl rfl ?_
  refine asg rfl rfl ?_
  refine nl ?_
  refine sq ?_
  refine sr ?_
  refine mv rfl rfl ?_
  refine nc rfl rfl ?_
  refine fa0 F122_1 rfl rfl ?_
  refine ld (Says.own (.tail .head)) Tryd.isAgg120 rfl (Nat.zero_add _).symm rfl rfl ?_
  refine asg rfl rfl ?_
  refine nl ?_
  refine sr ?_
  refine mv rfl rfl ?_
  refine asg rfl rfl ?_
  refine nl ?_
  refine sr ?_
  refine asg rfl rfl ?_
  refine nl ?_
  refine sq ?_
  refine sr ?_
  refine mv rfl rfl ?_
  refine nl ?_
  refine cdT rfl (by omega) ?_
  refine rg ?_
  have ey0 : x0 = (.mk 0 [] (if 0 ≤ ((-1) : Int) ∧ (v < ((-1) : Int) ∨ (rArr true ⟨s, false, !a.isNone⟩).1 = 0) then false else decide ((rArr true ⟨s, false, !a.isNone⟩).1 ≤ 0)) (rMany (decV 8 (decP [] v true) false true) (rArr true ⟨s, false, !a.isNone⟩).1.toNat (rArr true ⟨s, false, !a.isNone⟩).2).1 [], (rMany (decV 8 (decP [] v true) false true) (rArr true ⟨s, false, !a.isNone⟩).1.toNat (rArr true ⟨s, false, !a.isNone⟩).2).2) := (hx0.trans (step_yes (by decide) (show (0 : Int) ≤ v by omega) (Or.inl (by decide)))).trans (decF'_list rfl rfl)
  have hn0 : (rArr true ⟨s, false, !a.isNone⟩).1.toNat = (lT x0.1).length := by rw [ey0]; exact (lT_many nul_le).symm
  have ex0 := ey0
  rw [hn0] at ex0
  have hl0 := rArr_le true ⟨s, false, !a.isNone⟩
  have hm0 : (rArr true ⟨s, false, !a.isNone⟩).2.s.length ≤ BR := Nat.le_trans (rArr_len true ⟨s, false, !a.isNone⟩) hL_
  have hnb0 : (lT x0.1).length ≤ BR := by omega
  refine cl rfl rfl rfl (r_arrt hR0_) rfl (fun v_ H1 L1 hle_ hR_ => ?_)
  obtain ⟨rfl, N35, rfl, hR35, rfl⟩ := hR_
  have hh0 := rArr_hi true ⟨s, false, !a.isNone⟩
  refine asg rfl rfl ?_
  refine nl ?_
  refine sq ?_
  refine sr ?_
  refine cl rfl rfl rfl (r_ok hR35) rfl (fun v_ H1 L1 hle_ hR_ => ?_)
  obtain ⟨rfl, rfl, rfl⟩ := hR_
  refine nt rfl rfl ?_
  refine nl ?_
  refine cb rfl (fun h38 => ?_) (fun h38 => ?_)
  · skip
    have hbad_ : (rArr true ⟨s, false, !a.isNone⟩).2.bad = true := by simpa using h38
    refine sr ?_
    refine cl rfl rfl rfl (r_complete hR35 he) rfl (fun v_ H1 L1 hle_ hR_ => ?_)
    obtain ⟨rfl, rfl, rfl⟩ := hR_
    refine asg rfl rfl ?_
    refine nl ?_
    refine drW .head ?_
    exact rT rfl rfl (Fz.le.refl _) (fun _ _ h => h) ⟨_, rfl, RdEnd.out (hB0 (by rw [ey0]; exact rMany_bad (fun r h => decV_bad (decP_bad _ _ _) h) _ _ hbad_)) hbad_⟩
  · skip
    refine skt ?_
    refine sr ?_
    refine mv rfl rfl ?_
    refine sh' (j := 0) Tryd.runUnderlying120 Tryd.sizeOf9 rfl rfl rfl (Nat.zero_le _) rfl ?_
    refine asg rfl rfl ?_
    refine nl ?_
    refine sq ?_
    refine sr ?_
    refine mv rfl rfl ?_
    refine gt rfl rfl rfl ?_
    refine nl ?_
    refine nulC2 ?_
    refine cutT (fun l' H' L' => ∃ (a0 : Option Addr), ∃ (c0 : Nat), ∃ (Nr0 : Chunk), [(2, .bool false), (7, .pointer (some ⟨b_1, 0, none⟩)), (9, .bool (decide ((0 : Int) ≤ v))), (10, .pointer (some ⟨b, 0, none⟩)), (11, .slice none 0 0), (12, .slice a0 (lT x0.1).length c0), (13, .int .i32 (rArr true ⟨s, false, !a.isNone⟩).1)] = l' ∧ Nr0 :: N35 :: [(b, .cells [.int .i16 v, .slice none 0 0, .map none].toArray 122 (0, 0))] :: L = L' ∧ Row 9 1 a0 (lT x0.1).length c0 (reps [.string ⟨#[]⟩] (lT x0.1).length) Nr0 ∧ a0.isNone = (if 0 ≤ ((-1) : Int) ∧ (v < ((-1) : Int) ∨ (rArr true ⟨s, false, !a.isNone⟩).1 = 0) then false else decide ((rArr true ⟨s, false, !a.isNone⟩).1 ≤ 0))) ?_ (fun l' H' L' le_2 hI => ?_)
    · skip
      refine cd rfl (fun h43 => ?_) (fun h43 => ?_)
      · skip
        refine rg ?_
        refine mv rfl rfl ?_
        refine mv rfl rfl ?_
        refine apz (zs := [.string ⟨#[]⟩]) (m := (lT x0.1).length) Tryd.underlying120 Tryd.underlying21 I9 rfl rfl rfl (by omega) (by omega) (by have h9 := hnb0; unfold BR at h9; omega) (by have h9 := hnb0; unfold BR at h9; unfold maxLen; omega) rfl (fun g46 cp46 N46 r46 => ?_)
        refine asg rfl rfl ?_
        refine nN ?_
        refine drN (.tail .head) ?_
        refine fun a_ w_ hA hw => ⟨_, _, _, hA.sub ?_, (Fz.le.refl _), hw, (some ⟨g46, 0, none⟩), cp46, N46, rfl, rfl, r46, (by rw [if_neg (by omega)]; exact (decide_eq_false (by omega)).symm)⟩
        exact (.cons rfl (.cons rfl (.cons rfl (.cons rfl (.cons rfl (.cons rfl (.cons rfl (.nil _))))))))
      · skip
        refine skN ?_
        refine fun a_ w_ hA hw => ⟨_, _, _, hA.sub ?_, (Fz.le.refl _), hw, none, 0, [], rfl, rfl, (by rw [show (lT x0.1).length = 0 by omega]; exact (Row.nil _ _)), (by rw [if_neg (by omega)]; exact (decide_eq_true (by omega)).symm)⟩
        exact (.cons rfl (.cons rfl (.cons rfl (.cons rfl (.cons rfl (.cons (by rw [show (lT x0.1).length = 0 by omega]; rfl) (.cons rfl (.nil _))))))))
    · skip
      obtain ⟨a0, c0, Nr0, rfl, rfl, pj0, pj1⟩ := hI
      have hr0 := pj0
      have hi0 := pj1
      refine sq ?_
      refine sr ?_
      refine asg rfl rfl ?_
      refine nl ?_
      refine bl (lp ((lT x0.1).length) (fun k0 l' H' L' => ∃ (es0 : List (KE 1)) (M0 RN0 : Chunk), [(2, .bool false), (7, .pointer (some ⟨b_1, 0, none⟩)), (9, .bool (decide ((0 : Int) ≤ v))), (10, .pointer (some ⟨b, 0, none⟩)), (11, .slice none 0 0), (12, .slice a0 (lT x0.1).length c0), (13, .int .i32 (rArr true ⟨s, false, !a.isNone⟩).1), (14, .int .i32 (k0 : Int))] = l' ∧ M0 :: RN0 :: [(b, .cells [.int .i16 v, .slice none 0 0, .map none].toArray 122 (0, 0))] :: L = L' ∧ RdAt H' 124 b_1 (rMany (decV 8 (decP [] v true) false true) k0 (rArr true ⟨s, false, !a.isNone⟩).2).2 RN0 ∧ Row 9 1 a0 (lT x0.1).length c0 (es0.flatMap fk ++ reps [.string ⟨#[]⟩] ((lT x0.1).length - k0)) M0 ∧ es0.map (·.2) = (rMany (decV 8 (decP [] v true) false true) k0 (rArr true ⟨s, false, !a.isNone⟩).2).1 ∧ ∀ p ∈ es0, RText H' p.2 (fk p)) [(2, .bool false), (7, .pointer (some ⟨b_1, 0, none⟩)), (9, .bool (decide ((0 : Int) ≤ v))), (10, .pointer (some ⟨b, 0, none⟩)), (11, .slice none 0 0), (12, .slice a0 (lT x0.1).length c0), (13, .int .i32 (rArr true ⟨s, false, !a.isNone⟩).1), (14, .int .i32 (0 : Int))] (.cons rfl (.cons rfl (.cons rfl (.cons rfl (.cons rfl (.cons rfl (.cons rfl (.cons rfl (.nil _))))))))) ⟨[], Nr0, _, rfl, rfl, (hR35.mono le_2), hr0, rfl, (fun p hp => by cases hp)⟩ (fun k0 l' H' L' hk0 le_3 hI => ?_))
      obtain ⟨es0, M0, RN0, rfl, rfl, hR_0, hw_0, he_0, hg_0⟩ := hI
      have hs_0 := els_len he_0
      have hp_0 : (es0.flatMap fk).length = k0 * 1 := els_flat hs_0
      refine sq ?_
      refine sr ?_
      refine mv rfl rfl ?_
      refine mv rfl rfl ?_
      refine lt rfl rfl rfl ?_
      refine nl ?_
      refine cd rfl (fun h49 => ?_) (fun h49 => ?_)
      · skip
        have hkl0 : k0 < (lT x0.1).length := by omega
        obtain ⟨g0, po0, hga0, rfl, hbk0⟩ := hw_0.next (zs := [.string ⟨#[]⟩]) hkl0 rfl (by decide)
        have ho0 : 0 + k0 * 1 = (es0.flatMap fk).length := by rw [hp_0]; omega
        have hbz0 : ((decV 8 (decP [] v true) false true) (rMany (decV 8 (decP [] v true) false true) k0 (rArr true ⟨s, false, !a.isNone⟩).2).2).2.bad = true → (decP fs_DescribeTransactionsRequest v true ⟨s, false, !a.isNone⟩).2.bad = true := fun h => hB0 (by rw [ex0]; exact rMany_mono (fun r h => decV_bad (fun r h => decP_bad _ _ _ r h) h) _ (show k0 + 1 ≤ (lT x0.1).length from hkl0) (by rw [rMany_succ]; exact h))
        have hLk0 : (rMany (decV 8 (decP [] v true) false true) k0 (rArr true ⟨s, false, !a.isNone⟩).2).2.s.length ≤ BR := Nat.le_trans (rMany_shr (fun r => decV_shr (fun r => decP_shr _ _ _ r) r) _ _) hm0
        obtain ⟨y0, hy0⟩ : ∃ x, x = (decV 8 (decP [] v true) false true) (rMany (decV 8 (decP [] v true) false true) k0 (rArr true ⟨s, false, !a.isNone⟩).2).2 := ⟨_, rfl⟩
        refine skt ?_
        refine sq ?_
        refine bl ?_
        refine sr ?_
        refine asg rfl rfl ?_
        refine nl ?_
        refine sq ?_
        refine sr ?_
        refine mv rfl rfl ?_
        refine nl ?_
        refine cF rfl ?_
        refine sr ?_
        refine mv rfl rfl ?_
        refine nl ?_
        refine cdT rfl (by omega) ?_
        refine rg ?_
        refine tf (.tail .head) ?_
        refine cl rfl rfl rfl (d8t hR_0 hy0) rfl (fun v_ H1 L1 hle_ hR_ => ?_)
        obtain ⟨N57, rfl, hR57, rfl, rfl⟩ := hR_
        refine asg rfl rfl ?_
        refine nl ?_
        refine rg ?_
        refine mv rfl rfl ?_
        refine mv rfl rfl ?_
        refine mv rfl rfl ?_
        refine ixk (j := k0) Tryd.runUnderlying120 Tryd.sizeOf9 rfl hga0 rfl rfl hkl0 rfl ?_
        refine stM (off := 0) Tryd.sizeOf9 rfl ho0 rfl rfl rfl (.tail .head) ?_
        refine nN ?_
        refine Nb ?_
        refine Nt ?_
        refine rg ?_
        refine mv rfl rfl ?_
        refine ad rfl rfl (c := ((k0 + 1 : Nat) : Int)) ((wrap32_le (by omega) (by omega)).trans (by omega)) rfl ?_
        refine asg rfl rfl ?_
        refine nN ?_
        have hfs0 := flatMap_snoc' fk es0 ((⟨([.string ⟨y0.1.s.toArray⟩] : List Value), rfl, all_one rfl⟩, ((decV 8 (decP [] v true) false true) (rMany (decV 8 (decP [] v true) false true) k0 (rArr true ⟨s, false, !a.isNone⟩).2).2).1) : KE 1)
        have hrw0 := hbk0 ([.string ⟨y0.1.s.toArray⟩] : List Value) rfl
        refine tfN (.tail .head) ?_
        refine fun a_ w_ hA hw => ⟨hkl0, _, _, _, hA.sub ?_, le_3, hw, _, _, _, rfl, rfl, (by rw [rMany_succ, ← hy0]; exact hR57), (by rw [← hfs0]; exact hrw0), (dec_els he_0), (fun p hp => (mem_snoc hp).elim (fun h => RText.mono _ _ _ _ (Fz.le.refl _) (hg_0 p h)) (fun h => h ▸ (by show RText _ ((decV 8 (decP [] v true) false true) (rMany (decV 8 (decP [] v true) false true) k0 (rArr true ⟨s, false, !a.isNone⟩).2).2).1 [.string ⟨y0.1.s.toArray⟩]; rw [← hy0]; rfl)))⟩
        exact (.cons rfl (.cons rfl (.cons rfl (.cons rfl (.cons rfl (.cons rfl (.cons rfl (.cons rfl (.nil _)))))))))
      · skip
        have hkn_ : k0 = (lT x0.1).length := by omega
        subst hkn_
        have hw2_0 : Row 9 1 a0 (lT x0.1).length c0 (es0.flatMap fk) M0 := by have h := hw_0; rw [Nat.sub_self] at h; simpa [reps] using h
        refine frW hw2_0 .head (fun Hf0 hlf0 hfz0 => ?_)
        have hrs0 := RowsAt.row (R := RText) hfz0 hs_0.symm hw2_0.le.1 (fun p hp => RText.mono _ _ _ _ hlf0 (hg_0 p hp))
        rw [he_0] at hrs0
        have hf0 : ListAt Hf0 x0.1 1 RText a0 c0 := by rw [ex0]; exact listAt_of hrs0 hi0 (fun h => by have h1 := nul_le h; rw [show (lT x0.1).length = 0 by omega]; rfl)
        have hRx0 : RdAt Hf0 124 b_1 x0.2 RN0 := by rw [ex0]; exact (hR_0.mono hlf0)
        refine exX ?_
        refine XT ?_
        refine XT ?_
        refine Xb ?_
        refine Nt ?_
        refine sr ?_
        refine mv rfl rfl ?_
        refine asg rfl rfl ?_
        refine nl ?_
        refine rg ?_
        refine mv rfl rfl ?_
        refine mv rfl rfl ?_
        refine nc rfl rfl ?_
        refine fa0 F122_1 rfl rfl ?_
        refine st Tryd.sizeOf120 rfl rfl rfl rfl (.tail .head) ?_
        refine nl ?_
        refine sq ?_
        refine sr ?_
        refine mv rfl rfl ?_
        refine nl ?_
        refine cdT rfl (by omega) ?_
        refine rg ?_
        refine mv rfl rfl ?_
        refine cl rfl rfl rfl (d_tags hRx0) rfl (fun v_ H1 L1 le_5 hR_ => ?_)
        obtain ⟨N70, rfl, hR70, mt, rfl, hft⟩ := hR_
        have hu2 : u = rTags x0.2 := hu
        rw [← hu2] at hR70 hft
        refine nc rfl rfl ?_
        refine fa0 F122_2 rfl rfl ?_
        refine sa Tryd.sizeOf95 rfl rfl rfl rfl rfl (.tail .head) ?_
        refine nl ?_
        refine sr ?_
        refine cl rfl rfl rfl (r_complete hR70 (he.mono (le_2.trans (le_3.trans (hlf0.trans le_5))))) rfl (fun v_ H1 L1 hle_ hR_ => ?_)
        obtain ⟨rfl, rfl, rfl⟩ := hR_
        refine asg rfl rfl ?_
        refine nl ?_
        refine drW .head ?_
        have hA_ := (show At_DescribeTransactionsRequest v _ (decP fs_DescribeTransactionsRequest v true _).1 [.int .i16 v, .slice a0 (lT x0.1).length c0, .map mt] from (by rw [hD]; exact ⟨a0, c0, mt, rfl, (hf0.mono RText.mono le_5), hft⟩))
        refine rT rfl rfl (le_2.trans (le_3.trans (hlf0.trans le_5))) (fun _ _ h => h) ⟨_, rfl, ?_⟩
        have hz := RdEnd.of (e := e) hA_
        rw [show (decP fs_DescribeTransactionsRequest v true _).2.bad = u.2.bad by rw [hD]] at hz
        exact hz
end Go.Sx
