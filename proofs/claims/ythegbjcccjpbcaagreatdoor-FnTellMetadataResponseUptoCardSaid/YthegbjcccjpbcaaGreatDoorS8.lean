import Derived.Test.YthegbjcccjpbcaaGreatDoorS7
import Derived.KernelRfl
set_option linter.unusedVariables false
set_option linter.unusedSimpArgs false
set_option maxRecDepth 100000
set_option maxHeartbeats 20000000
namespace Go.Sx
open Go.Proofs
def UslC (fs : List Fd) : Prop := ∀ {H : Fz} {L : Own} {a : Option Addr} {c0 : Nat} {e : TC} {x : Tr} (_ : FdsAt H a fs) (_ : TreeAt H e x) (_ : uslP fs x = true),
  Fn Tryz.prog 26 [.slice a fs.length c0, .agg (e.cells x).toArray] H L (fun r H' L' => L = L' ∧ r = .bool true)
theorem s_usl0 {fs : List Fd} (hN : ∀ f ∈ fs, f.kind = 10 → f.nul < 0) (hP : ∀ f ∈ fs, UslC f.sub) : UslC fs := by
 intro H L a c0 e x hF hX h
 have hu0 : x.u.length = 0 := by rw [uslP_u h]; rfl
 refine Fn.mk Tryz.call26 Tryz.func26 rfl Tryz.ntmps26 rfl ?_
 refine sr ?_
 refine bx rfl rfl rfl (fun b_1 => ?_)
 refine asg rfl rfl ?_
 refine nl ?_
 refine sq ?_
 refine sr ?_
 refine fa0 F26_4 rfl rfl ?_
 refine ld (Says.own .head) Tryz.isAgg24 rfl (Nat.zero_add _).symm rfl rfl ?_
 refine ls Tryz.runUnderlying24 rfl rfl ?_
 refine gt rfl rfl rfl ?_
 refine nl ?_
 refine cdU rfl (fun h11 => ?_) (fun h11 => ?_)
 ·
  exfalso
  omega
 ·
  refine skt ?_
  refine sq ?_
  refine sr ?_
  refine mv rfl rfl ?_
  refine ls Tryz.runUnderlying29 rfl rfl ?_
  refine mv rfl rfl ?_
  refine nl ?_
  refine capL (fun F_4 hF_4 => ?_)
  refine fr (fs.length) (fun k l' H' L' => [(3, .pointer (some ⟨b_1, 0, none⟩)), (12, .slice a fs.length c0), (13, .int .i64 (fs.length : Int))] = l' ∧ F_4 = L') [(3, .pointer (some ⟨b_1, 0, none⟩)), (12, .slice a fs.length c0), (13, .int .i64 (fs.length : Int))] (fun k l' H' L' h => ?_) (by have := hF.few; omega) rfl (.of ⟨rfl, rfl, rfl, trivial⟩) ⟨rfl, rfl⟩ rfl rfl rfl rfl rfl (fun k l' H' L' hk le_2 hI => ?_) (fun l' H' L' le_3 hI => ?_)
  · obtain ⟨rfl, _⟩ := h; exact ⟨rfl, rfl, rfl, rfl⟩
  ·
   obtain ⟨rfl, rfl⟩ := hI
   subst hF_4
   have hk_ := uslP_at h k hk
   have hN_ := hN _ (List.getElem_mem hk)
   have hq8 : fs[k].kind = 8 → (x.at k).s.length = 0 := fun q => by rw [(usl_text hk_ q).2]; rfl
   have hq9 : fs[k].kind = 9 ∨ fs[k].kind = 11 → (x.at k).s.length = 0 ∧ (x.at k).l.length = 0 := fun q => by rw [(usl_list hk_ q).1, (usl_list hk_ q).2]; exact ⟨rfl, rfl⟩
   refine sr ?_
   refine mv rfl rfl ?_
   obtain ⟨b_5, o_6, e_7, g_8⟩ := (hF.mono le_2).at_ (ne_nil_of_lt hk)
   obtain ⟨c_9, q_10, q_11⟩ := g_8 k hk
   refine ix2 Tryz.runUnderlying29 Tryz.sizeOf51 rfl e_7 rfl rfl hk rfl ?_
   refine la (Says.fz q_10) Tryz.isAgg51 Tryz.sizeOf51 rfl (Nat.add_zero _).symm rfl rfl ?_
   refine al Tryz.zeroValue51 rfl rfl (fun b_12 => ?_)
   refine asg rfl rfl ?_
   refine sa Tryz.sizeOf51 rfl rfl rfl rfl rfl .head ?_
   refine nl ?_
   refine sr ?_
   refine la (Says.own (.tail .head)) Tryz.isAgg26 Tryz.sizeOf26 rfl (Nat.zero_add _).symm rfl rfl ?_
   refine mv rfl rfl ?_
   refine cl rfl rfl rfl (s_at (i := k) (hX.mono le_2)) rfl (fun v_ H1 L1 hle hR => ?_)
   obtain ⟨rfl, rfl, c21, rfl, g21⟩ := hR
   refine al Tryz.zeroValue26 rfl rfl (fun b_13 => ?_)
   refine sa Tryz.sizeOf26 rfl rfl rfl rfl rfl .head ?_
   refine nl ?_
   refine sr ?_
   refine fa0 F51_0 rfl rfl ?_
   refine ld (Says.own (.tail .head)) Tryz.isAgg3 rfl (Nat.zero_add _).symm rfl rfl ?_
   refine nl ?_
   refine bl ?_
   refine sr ?_
   refine eq' rfl rfl rfl ?_
   refine asg rfl rfl ?_
   refine nl ?_
   refine cdU rfl (fun h32 => ?_) (fun h32 => ?_)
   ·
    refine sr ?_
    refine fa0 F26_2 rfl rfl ?_
    refine ld (Says.own .head) Tryz.isAgg4 rfl (Nat.zero_add _).symm rfl rfl ?_
    refine fa0 F51_3 rfl rfl ?_
    refine ld (Says.own (.tail .head)) Tryz.isAgg3 rfl (Nat.zero_add _).symm rfl rfl ?_
    refine ge rfl rfl rfl ?_
    refine neb2 Tryz.underlying4 rfl rfl (usl_text hk_ (by omega)).1 rfl ?_
    refine mv rfl rfl ?_
    refine gr rfl rfl ?_
    refine fa0 F26_1 rfl rfl ?_
    refine gr rfl rfl ?_
    refine ld (Says.own .head) Tryz.isAgg22 rfl (Nat.zero_add _).symm rfl rfl ?_
    refine gr rfl rfl ?_
    refine ls Tryz.runUnderlying22 rfl rfl ?_
    refine gr rfl rfl ?_
    refine gt rfl rfl rfl ?_
    refine pkF rfl rfl rfl rfl ?_
    refine nl ?_
    refine cdU rfl (fun h45 => ?_) (fun h45 => ?_)
    ·
     exfalso
     omega
    ·
     refine skN ?_
     refine Nb ?_
     refine Nb ?_
     refine drN .head ?_
     refine drN .head ?_
     refine fun a w hA hw => ⟨_, _, _, hA.sub ?_, le_2, hw, _, rfl, rfl, rfl⟩
     exact (.of ⟨rfl, rfl, rfl, rfl, trivial⟩)
   ·
    refine sr ?_
    refine eq' rfl rfl rfl ?_
    refine asg rfl rfl ?_
    refine nl ?_
    refine cdU rfl (fun h46 => ?_) (fun h46 => ?_)
    ·
     refine sq ?_
     refine rgD 5 kp3 mixed ?_
     refine dU 0 rfl rfl rfl (y_fa0 F26_1 rfl) kp3 ler ?_
     refine dU 1 rfl rfl rfl (y_ld (Says.own .head) Tryz.isAgg22 rfl (Nat.zero_add _).symm rfl) kp3 ler ?_
     refine dE 2 (by kernel_rfl) rfl ?_
     refine mks (m := 16) (c := 16) Tryz.underlying22 I5 rfl rfl rfl rfl rfl (by decide) (by decide) (by decide) rfl (fun b_14 N50 r50 => ?_)
     refine dN (.skip (.keep (.keep (.keep .nil)))) ler ?_
     refine dE 3 (by kernel_rfl) rfl ?_
     refine frL (show Row 5 1 _ 16 _ (bytesOf (List.replicate 16 0)) N50 from r50) .head (fun H8 le8 z8 => ?_)
     have y8 := BytesAt.row z8 (show Row 5 1 _ 16 _ (bytesOf (List.replicate 16 0)) N50 from r50) (by decide)
     have es_ := usl_uuid hk_ (by omega)
     refine cl rfl rfl rfl (s_same' (g21.s.mono le8) y8 rfl rfl) rfl (fun v_ H1 L1 hle hR => ?_)
     rw [decide_eq_true es_] at hR
     obtain ⟨rfl, rfl, rfl⟩ := hR
     refine dN kp3 le8 ?_
     refine dU 4 rfl rfl rfl (y_nt rfl) kp3 le8 ?_
     refine dD (by kernel_rfl) ?_
     refine Nt ?_
     refine cF rfl ?_
     refine skN ?_
     refine Nb ?_
     refine Nb ?_
     refine drN .head ?_
     refine drN .head ?_
     refine fun a w hA hw => ⟨_, _, _, hA.sub ?_, (le_2.trans le8), hw, _, rfl, rfl, rfl⟩
     exact (.of ⟨rfl, rfl, rfl, rfl, trivial⟩)
    ·
     refine sq ?_
     refine sr ?_
     refine eq' rfl rfl rfl ?_
     refine asg rfl rfl ?_
     refine nl ?_
     refine cdU rfl (fun h53 => ?_) (fun h53 => ?_)
     ·
      refine skt ?_
      refine cT rfl ?_
      refine sr ?_
      refine fa0 F26_1 rfl rfl ?_
      refine ld (Says.own .head) Tryz.isAgg22 rfl (Nat.zero_add _).symm rfl rfl ?_
      refine ls Tryz.runUnderlying22 rfl rfl ?_
      refine gt rfl rfl rfl ?_
      refine mv rfl rfl ?_
      refine spl (t := 60) rfl (fun hn_ => absurd hn_ (by omega)) (fun _ => ?_)
      refine gr rfl rfl ?_
      refine fa0 F26_3 rfl rfl ?_
      refine gr rfl rfl ?_
      refine ld (Says.own .head) Tryz.isAgg23 rfl (Nat.zero_add _).symm rfl rfl ?_
      refine gr rfl rfl ?_
      refine ls Tryz.runUnderlying23 rfl rfl ?_
      refine gr rfl rfl ?_
      refine gt rfl rfl rfl ?_
      refine pkF rfl rfl rfl rfl ?_
      refine nl ?_
      refine cdU rfl (fun h65 => ?_) (fun h65 => ?_)
      ·
       exfalso
       omega
      ·
       refine skN ?_
       refine Nb ?_
       refine Nb ?_
       refine drN .head ?_
       refine drN .head ?_
       refine fun a w hA hw => ⟨_, _, _, hA.sub ?_, le_2, hw, _, rfl, rfl, rfl⟩
       exact (.of ⟨rfl, rfl, rfl, rfl, trivial⟩)
     ·
      refine rg ?_
      refine eq' rfl rfl rfl ?_
      refine asg rfl rfl ?_
      refine nl ?_
      refine cdU rfl (fun h53b => ?_) (fun h53b => ?_)
      ·
       refine sr ?_
       refine fa0 F26_1 rfl rfl ?_
       refine ld (Says.own .head) Tryz.isAgg22 rfl (Nat.zero_add _).symm rfl rfl ?_
       refine ls Tryz.runUnderlying22 rfl rfl ?_
       refine gt rfl rfl rfl ?_
       refine mv rfl rfl ?_
       refine spl (t := 60) rfl (fun hn_ => absurd hn_ (by omega)) (fun _ => ?_)
       refine gr rfl rfl ?_
       refine fa0 F26_3 rfl rfl ?_
       refine gr rfl rfl ?_
       refine ld (Says.own .head) Tryz.isAgg23 rfl (Nat.zero_add _).symm rfl rfl ?_
       refine gr rfl rfl ?_
       refine ls Tryz.runUnderlying23 rfl rfl ?_
       refine gr rfl rfl ?_
       refine gt rfl rfl rfl ?_
       refine pkF rfl rfl rfl rfl ?_
       refine nl ?_
       refine cdU rfl (fun h65 => ?_) (fun h65 => ?_)
       ·
        exfalso
        omega
       ·
        refine skN ?_
        refine Nb ?_
        refine Nb ?_
        refine drN .head ?_
        refine drN .head ?_
        refine fun a w hA hw => ⟨_, _, _, hA.sub ?_, le_2, hw, _, rfl, rfl, rfl⟩
        exact (.of ⟨rfl, rfl, rfl, rfl, trivial⟩)
      ·
       refine sr ?_
       refine eq' rfl rfl rfl ?_
       refine asg rfl rfl ?_
       refine nl ?_
       refine cdU rfl (fun h66 => ?_) (fun h66 => ?_)
       ·
        refine sr ?_
        refine fa0 F51_3 rfl rfl ?_
        refine ld (Says.own (.tail .head)) Tryz.isAgg3 rfl (Nat.zero_add _).symm rfl rfl ?_
        refine ge rfl rfl rfl ?_
        refine mv rfl rfl ?_
        refine spl (t := 71) rfl (fun hn_ => absurd hn_ (by omega)) (fun _ => ?_)
        refine gs rfl rfl rfl rfl ?_
        refine gs rfl rfl rfl rfl ?_
        refine gs rfl rfl rfl rfl ?_
        refine pkF rfl rfl rfl rfl ?_
        refine mv rfl rfl ?_
        refine gr rfl rfl ?_
        refine fa0 F51_3 rfl rfl ?_
        refine gr rfl rfl ?_
        refine ld (Says.own (.tail .head)) Tryz.isAgg3 rfl (Nat.zero_add _).symm rfl rfl ?_
        refine gr rfl rfl ?_
        refine lt rfl rfl rfl ?_
        refine gr rfl rfl ?_
        refine mv rfl rfl ?_
        refine spl (t := 80) rfl (fun _ => ?_) (fun hn_ => absurd (by omega) hn_)
        refine gr rfl rfl ?_
        refine fa0 F51_7 rfl rfl ?_
        refine gr rfl rfl ?_
        refine ld (Says.own (.tail .head)) Tryz.isAgg29 rfl (Nat.zero_add _).symm rfl rfl ?_
        refine gr rfl rfl ?_
        refine la (Says.own .head) Tryz.isAgg26 Tryz.sizeOf26 rfl (Nat.zero_add _).symm rfl rfl ?_
        refine gr rfl rfl ?_
        refine cl rfl rfl rfl (hP _ (List.getElem_mem hk) q_11.sub g21 (usl_struct hk_ (by omega) (by omega))) rfl (fun v_ H1 L1 le_15 hR => ?_)
        obtain ⟨rfl, rfl⟩ := hR
        refine gr rfl rfl ?_
        refine nt rfl rfl ?_
        refine gr rfl rfl ?_
        refine pkT rfl rfl rfl rfl ?_
        refine pkF rfl rfl rfl rfl ?_
        refine nl ?_
        refine cF rfl ?_
        refine skN ?_
        refine Nb ?_
        refine Nb ?_
        refine drN .head ?_
        refine drN .head ?_
        refine fun a w hA hw => ⟨_, _, _, hA.sub ?_, (le_2.trans le_15), hw, _, rfl, rfl, rfl⟩
        exact (.of ⟨rfl, rfl, rfl, rfl, trivial⟩)
       ·
        refine sq ?_
        refine rgD 8 kp3 mixed ?_
        refine dU 0 rfl rfl rfl (y_fa0 F26_0 rfl) kp3 ler ?_
        refine dU 1 rfl rfl rfl (y_ld (Says.own .head) Tryz.isAgg2 rfl (Nat.zero_add _).symm rfl) kp3 ler ?_
        refine dU 2 rfl rfl rfl (y_fa0 F51_0 rfl) kp3 ler ?_
        refine dU 3 rfl rfl rfl (y_ld (Says.own (.tail .head)) Tryz.isAgg3 rfl (Nat.zero_add _).symm rfl) kp3 ler ?_
        refine dU 4 rfl rfl rfl (y_fa0 F51_5 rfl) kp3 ler ?_
        refine dU 5 rfl rfl rfl (y_ld (Says.own (.tail .head)) Tryz.isAgg2 rfl (Nat.zero_add _).symm rfl) kp3 ler ?_
        refine dE 6 (by kernel_rfl) rfl ?_
        refine cl rfl rfl rfl s_number rfl (fun v_ H1 L1 hle hR => ?_)
        obtain ⟨rfl, rfl, rfl⟩ := hR
        refine dN kp3 ler ?_
        refine dU 7 rfl rfl rfl (y_ne rfl rfl) kp3 ler ?_
        refine dD (by kernel_rfl) ?_
        refine Nt ?_
        refine cdU rfl (fun h31 => ?_) (fun h31 => ?_)
        ·
         exact absurd (usl_num hk_ (by omega)) h31
        ·
         refine skN ?_
         refine Nb ?_
         refine Nb ?_
         refine drN .head ?_
         refine drN .head ?_
         refine fun a w hA hw => ⟨_, _, _, hA.sub ?_, le_2, hw, _, rfl, rfl, rfl⟩
         exact (.of ⟨rfl, rfl, rfl, rfl, trivial⟩)
  ·
   obtain ⟨rfl, rfl⟩ := hI
   subst hF_4
   refine toWp ?_
   refine sr ?_
   refine asg rfl rfl ?_
   refine nl ?_
   refine drW .head ?_
   exact rT rfl rfl le_3 (fun _ _ h => h) ⟨rfl, rfl⟩
end Go.Sx
