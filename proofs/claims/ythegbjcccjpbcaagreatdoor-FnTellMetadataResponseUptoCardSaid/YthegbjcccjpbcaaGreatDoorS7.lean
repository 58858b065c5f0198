import Derived.Test.YthegbjcccjpbcaaGreatDoorS6
import Derived.KernelRfl
set_option linter.unusedVariables false
set_option linter.unusedSimpArgs false
set_option maxRecDepth 100000
set_option maxHeartbeats 20000000
namespace Go.Sx
open Go.Proofs
def ToldC (fs : List Fd) (v : Int) (flex : Bool) : Prop := ∀ {H : Fz} {L : Own} {a : Option Addr} {c0 : Nat} {c e : TC} {t g : Tr} (_ : FdsAt H a fs) (_ : TreeAt H c t) (_ : TreeAt H e g) (_ : toldP fs v flex t g = true),
  Fn Tryz.prog 10 [.slice a fs.length c0, .int .i64 v, .bool flex, .agg (c.cells t).toArray, .agg (e.cells g).toArray] H L (fun r H' L' => L = L' ∧ r = .bool true)
def TellC (f : Fd) (v : Int) (flex : Bool) : Prop := ∀ {H : Fz} {L : Own} {d : FC} {c e : TC} {t g : Tr} (_ : FdAt H d f) (_ : TreeAt H c t) (_ : TreeAt H e g) (_ : toldF f v flex t g = true),
  Fn Tryz.prog 25 [.agg (d.cells f).toArray, .int .i64 v, .bool flex, .agg (c.cells t).toArray, .agg (e.cells g).toArray] H L (fun r H' L' => L = L' ∧ r = .bool true)
theorem toldV_s {k : Int} {p : Tr → Tr → Bool} {t g : Tr} (h : toldV k p t g = true) (hk : k = 8 ∨ k = 9) : g.s = whole t.s := by rw [tV8 hk] at h; simpa using h
theorem toldV_u {k : Int} {p : Tr → Tr → Bool} {t g : Tr} (h : toldV k p t g = true) (hk : k = 7) : g.s = pad16 t.s := by subst hk; rw [tV7] at h; simpa using h
theorem toldV_p {k : Int} {p : Tr → Tr → Bool} {t g : Tr} (h : toldV k p t g = true) (hk : k = 10) : p t g = true := by subst hk; rw [tV10] at h; exact h
theorem toldV_n {k : Int} {p : Tr → Tr → Bool} {t g : Tr} (h : toldV k p t g = true) (hk : k ≠ 7 ∧ k ≠ 8 ∧ k ≠ 9 ∧ k ≠ 10) : g.n = numK k t.n := by rw [tVn hk.1 hk.2.1 hk.2.2.1 hk.2.2.2] at h; simpa using h
theorem neb2 {P : Program} {ops : Array Oper} {Q : Exit → Act → World → Prop} {rest : List Oper} {n : Nat} {l : Env} {H : Fz} {L : Own} {d ty : Nat} {pos : String} {af : Array Edge} {x y : Operand} {T T' : Nat} {a b : Bool} (hu : P.underlying T = some .bool) (hx : get l x = some (.bool a)) (hy : get l y = some (.bool b)) (hab : a = b) (hn : Nat.blt d n = true) (h : WL P ops Q rest n ((d, .bool false) :: l) H L) : WL P ops Q (⟨some d, .binOp .neq T x y T', ty, pos, af, none⟩ :: rest) n l H L := by
 subst hab; exact neb hu hx hy hn h
theorem s_told0 {f : Fd} {v : Int} {flex : Bool} (hP : ToldC f.sub v flex) (hL : f.kind = 11 → TellC (oneOf f) v flex) (ho : f.kind = 11 → f.of ≠ 11) : TellC f v flex := by
 intro H L d c e t g hF hT hG h
 refine Fn.mk Tryz.call25 Tryz.func25 rfl Tryz.ntmps25 rfl ?_
 refine sr ?_
 refine bx rfl rfl rfl (fun b_1 => ?_)
 refine bx rfl rfl rfl (fun b_2 => ?_)
 refine bx rfl rfl rfl (fun b_3 => ?_)
 refine asg rfl rfl ?_
 refine nl ?_
 refine sr ?_
 refine la (Says.own (.tail (.tail .head))) Tryz.isAgg51 Tryz.sizeOf51 rfl (Nat.zero_add _).symm rfl rfl ?_
 refine mv rfl rfl ?_
 refine la (Says.own (.tail .head)) Tryz.isAgg26 Tryz.sizeOf26 rfl (Nat.zero_add _).symm rfl rfl ?_
 refine cl rfl rfl rfl s_null rfl (fun v_ H1 L1 hle hR => ?_)
 obtain ⟨rfl, rfl, rfl⟩ := hR
 refine asg rfl rfl ?_
 refine nl ?_
 refine sr ?_
 refine fa0 F51_3 rfl rfl ?_
 refine ld (Says.own (.tail (.tail .head))) Tryz.isAgg3 rfl (Nat.zero_add _).symm rfl rfl ?_
 refine ge rfl rfl rfl ?_
 refine mv rfl rfl ?_
 refine spl (t := 24) rfl (fun h24 => ?_) (fun h24 => ?_)
 ·
  refine gr rfl rfl ?_
  refine mv rfl rfl ?_
  refine gr rfl rfl ?_
  refine fa0 F51_3 rfl rfl ?_
  refine gr rfl rfl ?_
  refine ld (Says.own (.tail (.tail .head))) Tryz.isAgg3 rfl (Nat.zero_add _).symm rfl rfl ?_
  refine gr rfl rfl ?_
  refine ge rfl rfl rfl ?_
  refine pkT rfl rfl rfl rfl ?_
  refine asg rfl rfl ?_
  refine nl ?_
  refine sq ?_
  refine sr ?_
  refine fa0 F51_0 rfl rfl ?_
  refine ld (Says.own (.tail (.tail .head))) Tryz.isAgg3 rfl (Nat.zero_add _).symm rfl rfl ?_
  refine eq' rfl rfl rfl ?_
  refine mv rfl rfl ?_
  refine spl (t := 33) rfl (fun h33 => ?_) (fun h33 => ?_)
  ·
   refine gs rfl rfl rfl rfl ?_
   refine gs rfl rfl rfl rfl ?_
   refine gs rfl rfl rfl rfl ?_
   refine pkT rfl rfl rfl rfl ?_
   refine mv rfl rfl ?_
   refine gs rfl rfl rfl rfl ?_
   refine pkT rfl rfl rfl rfl ?_
   refine mv rfl rfl ?_
   refine gr rfl rfl ?_
   refine fa0 F26_2 rfl rfl ?_
   refine gr rfl rfl ?_
   refine ld (Says.own .head) Tryz.isAgg4 rfl (Nat.zero_add _).symm rfl rfl ?_
   refine gr rfl rfl ?_
   refine mv rfl rfl ?_
   refine gr rfl rfl ?_
   refine neb2 Tryz.underlying4 rfl rfl (told_nul h (by omega)) rfl ?_
   refine pkT rfl rfl rfl rfl ?_
   refine nl ?_
   refine cF rfl ?_
   refine skt ?_
   refine sq ?_
   refine sr ?_
   refine mv rfl rfl ?_
   refine nl ?_
   refine cbU rfl (fun h47 => ?_) (fun h47 => ?_)
   ·
    refine sr ?_
    refine asg rfl rfl ?_
    refine nl ?_
    refine drW .head ?_
    refine drW .head ?_
    refine drW .head ?_
    exact rT rfl rfl ler (fun _ _ h => h) ⟨rfl, rfl⟩
   ·
    have hr_ := told_rest h h47
    refine skt ?_
    refine sq ?_
    refine sr ?_
    refine fa0 F51_0 rfl rfl ?_
    refine ld (Says.own (.tail (.tail .head))) Tryz.isAgg3 rfl (Nat.zero_add _).symm rfl rfl ?_
    refine nl ?_
    refine bl ?_
    refine sq ?_
    refine sr ?_
    refine eq' rfl rfl rfl ?_
    refine asg rfl rfl ?_
    refine nl ?_
    refine cdU rfl (fun h50 => ?_) (fun h50 => ?_)
    ·
     refine skt ?_
     refine cT rfl ?_
     refine sq ?_
     refine rgD 7 kp3 mixed ?_
     have hv_ := hr_
     rw [if_neg (by omega)] at hv_
     refine dU 0 rfl rfl rfl (y_fa0 F26_1 rfl) kp3 ler ?_
     refine dU 1 rfl rfl rfl (y_ld (Says.own .head) Tryz.isAgg22 rfl (Nat.zero_add _).symm rfl) kp3 ler ?_
     refine dU 2 rfl rfl rfl (y_fa0 F26_1 rfl) kp3 ler ?_
     refine dU 3 rfl rfl rfl (y_ld (Says.own (.tail .head)) Tryz.isAgg22 rfl (Nat.zero_add _).symm rfl) kp3 ler ?_
     refine dE 4 (by kernel_rfl) rfl ?_
     refine cl rfl rfl rfl (s_whole hT.s rfl) rfl (fun v_ H1 L1 hle hR => ?_)
     obtain ⟨rfl, rfl, rfl⟩ := hR
     refine dN kp3 ler ?_
     refine dE 5 (by kernel_rfl) rfl ?_
     have es_ := toldV_s hv_ (by omega)
     refine cl rfl rfl rfl (s_same hG.s (hT.s.take most)) rfl (fun v_ H1 L1 hle hR => ?_)
     rw [decide_eq_true es_] at hR
     obtain ⟨rfl, rfl, rfl⟩ := hR
     refine dN kp3 ler ?_
     refine dU 6 rfl rfl rfl (y_asg rfl) kp3 ler ?_
     refine dD (by kernel_rfl) ?_
     refine Nt ?_
     refine drW .head ?_
     refine drW .head ?_
     refine drW .head ?_
     exact rT rfl rfl ler (fun _ _ h => h) ⟨rfl, rfl⟩
    ·
     refine rg ?_
     refine eq' rfl rfl rfl ?_
     refine asg rfl rfl ?_
     refine nl ?_
     refine cdU rfl (fun h50b => ?_) (fun h50b => ?_)
     ·
      refine sq ?_
      refine rgD 7 kp3 mixed ?_
      have hv_ := hr_
      rw [if_neg (by omega)] at hv_
      refine dU 0 rfl rfl rfl (y_fa0 F26_1 rfl) kp3 ler ?_
      refine dU 1 rfl rfl rfl (y_ld (Says.own .head) Tryz.isAgg22 rfl (Nat.zero_add _).symm rfl) kp3 ler ?_
      refine dU 2 rfl rfl rfl (y_fa0 F26_1 rfl) kp3 ler ?_
      refine dU 3 rfl rfl rfl (y_ld (Says.own (.tail .head)) Tryz.isAgg22 rfl (Nat.zero_add _).symm rfl) kp3 ler ?_
      refine dE 4 (by kernel_rfl) rfl ?_
      refine cl rfl rfl rfl (s_whole hT.s rfl) rfl (fun v_ H1 L1 hle hR => ?_)
      obtain ⟨rfl, rfl, rfl⟩ := hR
      refine dN kp3 ler ?_
      refine dE 5 (by kernel_rfl) rfl ?_
      have es_ := toldV_s hv_ (by omega)
      refine cl rfl rfl rfl (s_same hG.s (hT.s.take most)) rfl (fun v_ H1 L1 hle hR => ?_)
      rw [decide_eq_true es_] at hR
      obtain ⟨rfl, rfl, rfl⟩ := hR
      refine dN kp3 ler ?_
      refine dU 6 rfl rfl rfl (y_asg rfl) kp3 ler ?_
      refine dD (by kernel_rfl) ?_
      refine Nt ?_
      refine drW .head ?_
      refine drW .head ?_
      refine drW .head ?_
      exact rT rfl rfl ler (fun _ _ h => h) ⟨rfl, rfl⟩
     ·
      refine sr ?_
      refine eq' rfl rfl rfl ?_
      refine asg rfl rfl ?_
      refine nl ?_
      refine cdU rfl (fun h59 => ?_) (fun h59 => ?_)
      ·
       refine sr ?_
       refine mks (m := 16) (c := 16) Tryz.underlying22 I5 rfl rfl rfl rfl rfl (by decide) (by decide) (by decide) rfl (fun b_4 N61 r61 => ?_)
       refine asg rfl rfl ?_
       refine nl ?_
       refine sr ?_
       refine mv rfl rfl ?_
       refine fa0 F26_1 rfl rfl ?_
       refine ld (Says.own (.tail (.tail .head))) Tryz.isAgg22 rfl (Nat.zero_add _).symm rfl rfl ?_
       refine cpB Tryz.underlying22 rfl rfl rfl r61 (fun _ => .head) hT.s rfl rfl (fun N65 r65 => ?_)
       rw [row16] at r65
       refine nl ?_
       refine sr ?_
       have hv_ := hr_
       rw [if_neg (by omega)] at hv_
       refine fa0 F26_1 rfl rfl ?_
       refine ld (Says.own (.tail .head)) Tryz.isAgg22 rfl (Nat.zero_add _).symm rfl rfl ?_
       refine mv rfl rfl ?_
       refine frL (show Row 5 1 _ 16 _ (bytesOf (pad16 t.s)) N65 from r65) .head (fun H8 le8 z8 => ?_)
       have y8 := BytesAt.row z8 (show Row 5 1 _ 16 _ (bytesOf (pad16 t.s)) N65 from r65) (by rw [pad16_len]; decide)
       have es_ := toldV_u hv_ (by omega)
       refine cl rfl rfl rfl (s_same' (hG.s.mono le8) y8 rfl (pad16_len _).symm) rfl (fun v_ H1 L1 hle hR => ?_)
       rw [decide_eq_true es_] at hR
       obtain ⟨rfl, rfl, rfl⟩ := hR
       refine asg rfl rfl ?_
       refine nl ?_
       refine drW .head ?_
       refine drW .head ?_
       refine drW .head ?_
       exact rT rfl rfl le8 (fun _ _ h => h) ⟨rfl, rfl⟩
      ·
       refine sr ?_
       refine eq' rfl rfl rfl ?_
       refine asg rfl rfl ?_
       refine nl ?_
       refine cdU rfl (fun h70 => ?_) (fun h70 => ?_)
       ·
        refine sr ?_
        have hv_ := hr_
        rw [if_neg (by omega)] at hv_
        refine fa0 F51_7 rfl rfl ?_
        refine ld (Says.own (.tail (.tail .head))) Tryz.isAgg29 rfl (Nat.zero_add _).symm rfl rfl ?_
        refine mv rfl rfl ?_
        refine mv rfl rfl ?_
        refine la (Says.own (.tail .head)) Tryz.isAgg26 Tryz.sizeOf26 rfl (Nat.zero_add _).symm rfl rfl ?_
        refine la (Says.own .head) Tryz.isAgg26 Tryz.sizeOf26 rfl (Nat.zero_add _).symm rfl rfl ?_
        refine cl rfl rfl rfl (hP hF.sub hT hG (toldV_p hv_ (by omega))) rfl (fun v_ H1 L1 le_5 hR => ?_)
        obtain ⟨rfl, rfl⟩ := hR
        refine asg rfl rfl ?_
        refine nl ?_
        refine drW .head ?_
        refine drW .head ?_
        refine drW .head ?_
        exact rT rfl rfl le_5 (fun _ _ h => h) ⟨rfl, rfl⟩
       ·
        refine sr ?_
        refine eq' rfl rfl rfl ?_
        refine asg rfl rfl ?_
        refine nl ?_
        refine cdU rfl (fun h79 => ?_) (fun h79 => ?_)
        ·
         refine sr ?_
         refine fa0 F26_3 rfl rfl ?_
         refine ld (Says.own (.tail .head)) Tryz.isAgg23 rfl (Nat.zero_add _).symm rfl rfl ?_
         refine cl rfl rfl rfl (s_things hT.l rfl) rfl (fun v_ H1 L1 hle hR => ?_)
         obtain ⟨rfl, rfl, rfl⟩ := hR
         have ha_ := hr_
         rw [if_pos (by omega)] at ha_
         obtain ⟨hlen, hall⟩ := toldAll_at ha_
         have hthl := things_len t
         refine asg rfl rfl ?_
         refine nl ?_
         refine sq ?_
         refine sr ?_
         refine fa0 F26_3 rfl rfl ?_
         refine ld (Says.own .head) Tryz.isAgg23 rfl (Nat.zero_add _).symm rfl rfl ?_
         refine ls Tryz.runUnderlying23 rfl rfl ?_
         refine mv rfl rfl ?_
         refine ls Tryz.runUnderlying23 rfl rfl ?_
         refine ne' rfl rfl rfl ?_
         refine nl ?_
         refine cdU rfl (fun h89 => ?_) (fun h89 => ?_)
         ·
          exfalso
          have hl2 : (t.l.take most).length = g.l.length := hlen
          omega
         ·
          refine skt ?_
          refine sr ?_
          refine la (Says.own (.tail (.tail .head))) Tryz.isAgg51 Tryz.sizeOf51 rfl (Nat.zero_add _).symm rfl rfl ?_
          refine al Tryz.zeroValue51 rfl rfl (fun b_6 => ?_)
          refine sa Tryz.sizeOf51 rfl rfl rfl rfl rfl .head ?_
          refine nl ?_
          refine sr ?_
          refine fa0 F51_6 rfl rfl ?_
          refine ld (Says.own (.tail (.tail (.tail .head)))) Tryz.isAgg3 rfl (Nat.zero_add _).symm rfl rfl ?_
          refine fa0 F51_0 rfl rfl ?_
          refine st Tryz.sizeOf3 rfl rfl rfl rfl .head ?_
          refine fa0 F51_3 rfl rfl ?_
          refine st Tryz.sizeOf3 rfl rfl rfl rfl .head ?_
          refine fa0 F51_4 rfl rfl ?_
          refine st Tryz.sizeOf3 rfl rfl rfl rfl .head ?_
          refine nl ?_
          refine sq ?_
          refine sr ?_
          refine mv rfl rfl ?_
          refine ls Tryz.runUnderlying23 rfl rfl ?_
          refine mv rfl rfl ?_
          refine nl ?_
          refine capL (fun F_9 hF_9 => ?_)
          refine fr ((t.l.take most).length) (fun k l' H' L' => [(1, .int .i64 v), (2, .bool flex), (9, .pointer (some ⟨b_3, 0, none⟩)), (14, .slice c.la (t.l.take most).length c.lc), (15, .pointer (some ⟨b_6, 0, none⟩)), (97, .int .i64 ((t.l.take most).length : Int))] = l' ∧ F_9 = L') [(1, .int .i64 v), (2, .bool flex), (9, .pointer (some ⟨b_3, 0, none⟩)), (14, .slice c.la (t.l.take most).length c.lc), (15, .pointer (some ⟨b_6, 0, none⟩)), (97, .int .i64 ((t.l.take most).length : Int))] (fun k l' H' L' h => ?_) (by have : (t.l.take most).length ≤ 32767 := hthl; omega) rfl (.of ⟨rfl, rfl, rfl, rfl, rfl, rfl, trivial⟩) ⟨rfl, rfl⟩ rfl rfl rfl rfl rfl (fun k l' H' L' hk le_7 hI => ?_) (fun l' H' L' le_8 hI => ?_)
          · obtain ⟨rfl, _⟩ := h; exact ⟨rfl, rfl, rfl, rfl⟩
          ·
           obtain ⟨rfl, rfl⟩ := hI
           subst hF_9
           refine sr ?_
           refine mv rfl rfl ?_
           refine asg rfl rfl ?_
           refine nl ?_
           refine sq ?_
           refine rgD 14 kp4 mixed ?_
           refine dU 0 rfl rfl rfl (y_la (Says.own .head) Tryz.isAgg51 Tryz.sizeOf51 rfl (Nat.zero_add _).symm rfl) kp4 ler ?_
           refine dU 1 rfl rfl rfl (y_mv rfl) kp4 ler ?_
           refine dU 2 rfl rfl rfl (y_mv rfl) kp4 ler ?_
           refine dU 3 rfl rfl rfl (y_mv rfl) kp4 ler ?_
           refine dU 4 rfl rfl rfl (y_mv rfl) kp4 ler ?_
           obtain ⟨b_10, o_11, e_12, g_13⟩ := ((hT.l.take most).mono le_7).at_ (ne_nil_of_lt hk)
           obtain ⟨c_14, q_15, q_16⟩ := g_13 k hk
           refine dU 5 rfl rfl rfl (y_ix2 Tryz.runUnderlying23 Tryz.sizeOf26 rfl e_12 rfl rfl hk) kp4 ler ?_
           refine dU 6 rfl rfl rfl (y_la (Says.fz q_15) Tryz.isAgg26 Tryz.sizeOf26 rfl (Nat.add_zero _).symm rfl) kp4 ler ?_
           refine dU 7 rfl rfl rfl (y_fa0 F26_3 rfl) kp4 ler ?_
           refine dU 8 rfl rfl rfl (y_ld (Says.own (.tail .head)) Tryz.isAgg23 rfl (Nat.zero_add _).symm rfl) kp4 ler ?_
           refine dU 9 rfl rfl rfl (y_mv rfl) kp4 ler ?_
           obtain ⟨b_17, o_18, e_19, g_20⟩ := (hG.l.mono le_7).at_ (ne_nil_of_lt (show k < g.l.length from hlen ▸ hk))
           obtain ⟨c_21, q_22, q_23⟩ := g_20 k (show k < g.l.length from hlen ▸ hk)
           refine dU 10 rfl rfl rfl (y_ix2 Tryz.runUnderlying23 Tryz.sizeOf26 rfl e_19 rfl rfl (show k < g.l.length from hlen ▸ hk)) kp4 ler ?_
           refine dU 11 rfl rfl rfl (y_la (Says.fz q_22) Tryz.isAgg26 Tryz.sizeOf26 rfl (Nat.add_zero _).symm rfl) kp4 ler ?_
           refine dE 12 (by kernel_rfl) rfl ?_
           refine cl rfl rfl rfl (hL (by omega) (FdAt.of ⟨show (-1 : Int) ≤ 1000 by decide, ho (by omega)⟩ (hF.sub.mono le_7)) q_16 q_23 (toldE_F (hall k hk (hlen ▸ hk)) (ho (by omega)))) rfl (fun v_ H1 L1 le_24 hR => ?_)
           obtain ⟨rfl, rfl⟩ := hR
           refine dN kp4 le_24 ?_
           refine dU 13 rfl rfl rfl (y_nt rfl) kp4 le_24 ?_
           refine dD (by kernel_rfl) ?_
           refine Nt ?_
           refine cF rfl ?_
           refine skN ?_
           refine Nb ?_
           refine fun a w hA hw => ⟨_, _, _, hA.sub ?_, (le_7.trans le_24), hw, _, rfl, rfl, rfl⟩
           exact (.of ⟨rfl, rfl, rfl, rfl, rfl, rfl, rfl, trivial⟩)
          ·
           obtain ⟨rfl, rfl⟩ := hI
           subst hF_9
           refine toWp ?_
           refine sr ?_
           refine asg rfl rfl ?_
           refine nl ?_
           refine drW .head ?_
           refine drW .head ?_
           refine drW .head ?_
           refine drW .head ?_
           exact rT rfl rfl le_8 (fun _ _ h => h) ⟨rfl, rfl⟩
        ·
         refine skN ?_
         refine Nb ?_
         refine Nt ?_
         refine sq ?_
         refine rgD 9 kp3 mixed ?_
         refine dU 0 rfl rfl rfl (y_fa0 F26_0 rfl) kp3 ler ?_
         refine dU 1 rfl rfl rfl (y_ld (Says.own .head) Tryz.isAgg2 rfl (Nat.zero_add _).symm rfl) kp3 ler ?_
         refine dU 2 rfl rfl rfl (y_fa0 F51_0 rfl) kp3 ler ?_
         refine dU 3 rfl rfl rfl (y_ld (Says.own (.tail (.tail .head))) Tryz.isAgg3 rfl (Nat.zero_add _).symm rfl) kp3 ler ?_
         refine dU 4 rfl rfl rfl (y_fa0 F26_0 rfl) kp3 ler ?_
         refine dU 5 rfl rfl rfl (y_ld (Says.own (.tail .head)) Tryz.isAgg2 rfl (Nat.zero_add _).symm rfl) kp3 ler ?_
         refine dE 6 (by kernel_rfl) rfl ?_
         refine cl rfl rfl rfl s_number rfl (fun v_ H1 L1 hle hR => ?_)
         obtain ⟨rfl, rfl, rfl⟩ := hR
         refine dN kp3 ler ?_
         have hv_ := hr_
         rw [if_neg (by omega)] at hv_
         refine dU 7 rfl rfl rfl (y_eq rfl rfl) kp3 ler ?_
         refine dU 8 rfl rfl rfl (y_asg rfl) kp3 ler ?_
         refine dD (by kernel_rfl) ?_
         refine Nt ?_
         refine drW .head ?_
         refine drW .head ?_
         refine drW .head ?_
         exact rT rfl rfl ler (fun _ _ h => h) ⟨rfl, congrArg Value.bool (decide_eq_true (toldV_n hv_ (by omega)))⟩
  ·
   refine gr rfl rfl ?_
   refine fa0 F51_0 rfl rfl ?_
   refine gr rfl rfl ?_
   refine ld (Says.own (.tail (.tail .head))) Tryz.isAgg3 rfl (Nat.zero_add _).symm rfl rfl ?_
   refine gr rfl rfl ?_
   refine eq' rfl rfl rfl ?_
   refine pkF rfl rfl rfl rfl ?_
   refine mv rfl rfl ?_
   refine spl (t := 38) rfl (fun h38 => ?_) (fun h38 => ?_)
   ·
    refine gs rfl rfl rfl rfl ?_
    refine pkT rfl rfl rfl rfl ?_
    refine mv rfl rfl ?_
    refine gr rfl rfl ?_
    refine fa0 F26_2 rfl rfl ?_
    refine gr rfl rfl ?_
    refine ld (Says.own .head) Tryz.isAgg4 rfl (Nat.zero_add _).symm rfl rfl ?_
    refine gr rfl rfl ?_
    refine mv rfl rfl ?_
    refine gr rfl rfl ?_
    refine neb2 Tryz.underlying4 rfl rfl (told_nul h (by omega)) rfl ?_
    refine pkT rfl rfl rfl rfl ?_
    refine nl ?_
    refine cF rfl ?_
    refine skt ?_
    refine sq ?_
    refine sr ?_
    refine mv rfl rfl ?_
    refine nl ?_
    refine cbU rfl (fun h47 => ?_) (fun h47 => ?_)
    ·
     refine sr ?_
     refine asg rfl rfl ?_
     refine nl ?_
     refine drW .head ?_
     refine drW .head ?_
     refine drW .head ?_
     exact rT rfl rfl ler (fun _ _ h => h) ⟨rfl, rfl⟩
    ·
     have hr_ := told_rest h h47
     refine skt ?_
     refine sq ?_
     refine sr ?_
     refine fa0 F51_0 rfl rfl ?_
     refine ld (Says.own (.tail (.tail .head))) Tryz.isAgg3 rfl (Nat.zero_add _).symm rfl rfl ?_
     refine nl ?_
     refine bl ?_
     refine sq ?_
     refine sr ?_
     refine eq' rfl rfl rfl ?_
     refine asg rfl rfl ?_
     refine nl ?_
     refine cdU rfl (fun h50 => ?_) (fun h50 => ?_)
     ·
      refine skt ?_
      refine cT rfl ?_
      refine sq ?_
      refine rgD 7 kp3 mixed ?_
      have hv_ := hr_
      rw [if_neg (by omega)] at hv_
      refine dU 0 rfl rfl rfl (y_fa0 F26_1 rfl) kp3 ler ?_
      refine dU 1 rfl rfl rfl (y_ld (Says.own .head) Tryz.isAgg22 rfl (Nat.zero_add _).symm rfl) kp3 ler ?_
      refine dU 2 rfl rfl rfl (y_fa0 F26_1 rfl) kp3 ler ?_
      refine dU 3 rfl rfl rfl (y_ld (Says.own (.tail .head)) Tryz.isAgg22 rfl (Nat.zero_add _).symm rfl) kp3 ler ?_
      refine dE 4 (by kernel_rfl) rfl ?_
      refine cl rfl rfl rfl (s_whole hT.s rfl) rfl (fun v_ H1 L1 hle hR => ?_)
      obtain ⟨rfl, rfl, rfl⟩ := hR
      refine dN kp3 ler ?_
      refine dE 5 (by kernel_rfl) rfl ?_
      have es_ := toldV_s hv_ (by omega)
      refine cl rfl rfl rfl (s_same hG.s (hT.s.take most)) rfl (fun v_ H1 L1 hle hR => ?_)
      rw [decide_eq_true es_] at hR
      obtain ⟨rfl, rfl, rfl⟩ := hR
      refine dN kp3 ler ?_
      refine dU 6 rfl rfl rfl (y_asg rfl) kp3 ler ?_
      refine dD (by kernel_rfl) ?_
      refine Nt ?_
      refine drW .head ?_
      refine drW .head ?_
      refine drW .head ?_
      exact rT rfl rfl ler (fun _ _ h => h) ⟨rfl, rfl⟩
     ·
      refine rg ?_
      refine eq' rfl rfl rfl ?_
      refine asg rfl rfl ?_
      refine nl ?_
      refine cdU rfl (fun h50b => ?_) (fun h50b => ?_)
      ·
       refine sq ?_
       refine rgD 7 kp3 mixed ?_
       have hv_ := hr_
       rw [if_neg (by omega)] at hv_
       refine dU 0 rfl rfl rfl (y_fa0 F26_1 rfl) kp3 ler ?_
       refine dU 1 rfl rfl rfl (y_ld (Says.own .head) Tryz.isAgg22 rfl (Nat.zero_add _).symm rfl) kp3 ler ?_
       refine dU 2 rfl rfl rfl (y_fa0 F26_1 rfl) kp3 ler ?_
       refine dU 3 rfl rfl rfl (y_ld (Says.own (.tail .head)) Tryz.isAgg22 rfl (Nat.zero_add _).symm rfl) kp3 ler ?_
       refine dE 4 (by kernel_rfl) rfl ?_
       refine cl rfl rfl rfl (s_whole hT.s rfl) rfl (fun v_ H1 L1 hle hR => ?_)
       obtain ⟨rfl, rfl, rfl⟩ := hR
       refine dN kp3 ler ?_
       refine dE 5 (by kernel_rfl) rfl ?_
       have es_ := toldV_s hv_ (by omega)
       refine cl rfl rfl rfl (s_same hG.s (hT.s.take most)) rfl (fun v_ H1 L1 hle hR => ?_)
       rw [decide_eq_true es_] at hR
       obtain ⟨rfl, rfl, rfl⟩ := hR
       refine dN kp3 ler ?_
       refine dU 6 rfl rfl rfl (y_asg rfl) kp3 ler ?_
       refine dD (by kernel_rfl) ?_
       refine Nt ?_
       refine drW .head ?_
       refine drW .head ?_
       refine drW .head ?_
       exact rT rfl rfl ler (fun _ _ h => h) ⟨rfl, rfl⟩
      ·
       refine sr ?_
       refine eq' rfl rfl rfl ?_
       refine asg rfl rfl ?_
       refine nl ?_
       refine cdU rfl (fun h59 => ?_) (fun h59 => ?_)
       ·
        refine sr ?_
        refine mks (m := 16) (c := 16) Tryz.underlying22 I5 rfl rfl rfl rfl rfl (by decide) (by decide) (by decide) rfl (fun b_25 N61 r61 => ?_)
        refine asg rfl rfl ?_
        refine nl ?_
        refine sr ?_
        refine mv rfl rfl ?_
        refine fa0 F26_1 rfl rfl ?_
        refine ld (Says.own (.tail (.tail .head))) Tryz.isAgg22 rfl (Nat.zero_add _).symm rfl rfl ?_
        refine cpB Tryz.underlying22 rfl rfl rfl r61 (fun _ => .head) hT.s rfl rfl (fun N65 r65 => ?_)
        rw [row16] at r65
        refine nl ?_
        refine sr ?_
        have hv_ := hr_
        rw [if_neg (by omega)] at hv_
        refine fa0 F26_1 rfl rfl ?_
        refine ld (Says.own (.tail .head)) Tryz.isAgg22 rfl (Nat.zero_add _).symm rfl rfl ?_
        refine mv rfl rfl ?_
        refine frL (show Row 5 1 _ 16 _ (bytesOf (pad16 t.s)) N65 from r65) .head (fun H8 le8 z8 => ?_)
        have y8 := BytesAt.row z8 (show Row 5 1 _ 16 _ (bytesOf (pad16 t.s)) N65 from r65) (by rw [pad16_len]; decide)
        have es_ := toldV_u hv_ (by omega)
        refine cl rfl rfl rfl (s_same' (hG.s.mono le8) y8 rfl (pad16_len _).symm) rfl (fun v_ H1 L1 hle hR => ?_)
        rw [decide_eq_true es_] at hR
        obtain ⟨rfl, rfl, rfl⟩ := hR
        refine asg rfl rfl ?_
        refine nl ?_
        refine drW .head ?_
        refine drW .head ?_
        refine drW .head ?_
        exact rT rfl rfl le8 (fun _ _ h => h) ⟨rfl, rfl⟩
       ·
        refine sr ?_
        refine eq' rfl rfl rfl ?_
        refine asg rfl rfl ?_
        refine nl ?_
        refine cdU rfl (fun h70 => ?_) (fun h70 => ?_)
        ·
         refine sr ?_
         have hv_ := hr_
         rw [if_neg (by omega)] at hv_
         refine fa0 F51_7 rfl rfl ?_
         refine ld (Says.own (.tail (.tail .head))) Tryz.isAgg29 rfl (Nat.zero_add _).symm rfl rfl ?_
         refine mv rfl rfl ?_
         refine mv rfl rfl ?_
         refine la (Says.own (.tail .head)) Tryz.isAgg26 Tryz.sizeOf26 rfl (Nat.zero_add _).symm rfl rfl ?_
         refine la (Says.own .head) Tryz.isAgg26 Tryz.sizeOf26 rfl (Nat.zero_add _).symm rfl rfl ?_
         refine cl rfl rfl rfl (hP hF.sub hT hG (toldV_p hv_ (by omega))) rfl (fun v_ H1 L1 le_26 hR => ?_)
         obtain ⟨rfl, rfl⟩ := hR
         refine asg rfl rfl ?_
         refine nl ?_
         refine drW .head ?_
         refine drW .head ?_
         refine drW .head ?_
         exact rT rfl rfl le_26 (fun _ _ h => h) ⟨rfl, rfl⟩
        ·
         refine sr ?_
         refine eq' rfl rfl rfl ?_
         refine asg rfl rfl ?_
         refine nl ?_
         refine cdU rfl (fun h79 => ?_) (fun h79 => ?_)
         ·
          refine sr ?_
          refine fa0 F26_3 rfl rfl ?_
          refine ld (Says.own (.tail .head)) Tryz.isAgg23 rfl (Nat.zero_add _).symm rfl rfl ?_
          refine cl rfl rfl rfl (s_things hT.l rfl) rfl (fun v_ H1 L1 hle hR => ?_)
          obtain ⟨rfl, rfl, rfl⟩ := hR
          have ha_ := hr_
          rw [if_pos (by omega)] at ha_
          obtain ⟨hlen, hall⟩ := toldAll_at ha_
          have hthl := things_len t
          refine asg rfl rfl ?_
          refine nl ?_
          refine sq ?_
          refine sr ?_
          refine fa0 F26_3 rfl rfl ?_
          refine ld (Says.own .head) Tryz.isAgg23 rfl (Nat.zero_add _).symm rfl rfl ?_
          refine ls Tryz.runUnderlying23 rfl rfl ?_
          refine mv rfl rfl ?_
          refine ls Tryz.runUnderlying23 rfl rfl ?_
          refine ne' rfl rfl rfl ?_
          refine nl ?_
          refine cdU rfl (fun h89 => ?_) (fun h89 => ?_)
          ·
           exfalso
           have hl2 : (t.l.take most).length = g.l.length := hlen
           omega
          ·
           refine skt ?_
           refine sr ?_
           refine la (Says.own (.tail (.tail .head))) Tryz.isAgg51 Tryz.sizeOf51 rfl (Nat.zero_add _).symm rfl rfl ?_
           refine al Tryz.zeroValue51 rfl rfl (fun b_27 => ?_)
           refine sa Tryz.sizeOf51 rfl rfl rfl rfl rfl .head ?_
           refine nl ?_
           refine sr ?_
           refine fa0 F51_6 rfl rfl ?_
           refine ld (Says.own (.tail (.tail (.tail .head)))) Tryz.isAgg3 rfl (Nat.zero_add _).symm rfl rfl ?_
           refine fa0 F51_0 rfl rfl ?_
           refine st Tryz.sizeOf3 rfl rfl rfl rfl .head ?_
           refine fa0 F51_3 rfl rfl ?_
           refine st Tryz.sizeOf3 rfl rfl rfl rfl .head ?_
           refine fa0 F51_4 rfl rfl ?_
           refine st Tryz.sizeOf3 rfl rfl rfl rfl .head ?_
           refine nl ?_
           refine sq ?_
           refine sr ?_
           refine mv rfl rfl ?_
           refine ls Tryz.runUnderlying23 rfl rfl ?_
           refine mv rfl rfl ?_
           refine nl ?_
           refine capL (fun F_30 hF_30 => ?_)
           refine fr ((t.l.take most).length) (fun k l' H' L' => [(1, .int .i64 v), (2, .bool flex), (9, .pointer (some ⟨b_3, 0, none⟩)), (14, .slice c.la (t.l.take most).length c.lc), (15, .pointer (some ⟨b_27, 0, none⟩)), (97, .int .i64 ((t.l.take most).length : Int))] = l' ∧ F_30 = L') [(1, .int .i64 v), (2, .bool flex), (9, .pointer (some ⟨b_3, 0, none⟩)), (14, .slice c.la (t.l.take most).length c.lc), (15, .pointer (some ⟨b_27, 0, none⟩)), (97, .int .i64 ((t.l.take most).length : Int))] (fun k l' H' L' h => ?_) (by have : (t.l.take most).length ≤ 32767 := hthl; omega) rfl (.of ⟨rfl, rfl, rfl, rfl, rfl, rfl, trivial⟩) ⟨rfl, rfl⟩ rfl rfl rfl rfl rfl (fun k l' H' L' hk le_28 hI => ?_) (fun l' H' L' le_29 hI => ?_)
           · obtain ⟨rfl, _⟩ := h; exact ⟨rfl, rfl, rfl, rfl⟩
           ·
            obtain ⟨rfl, rfl⟩ := hI
            subst hF_30
            refine sr ?_
            refine mv rfl rfl ?_
            refine asg rfl rfl ?_
            refine nl ?_
            refine sq ?_
            refine rgD 14 kp4 mixed ?_
            refine dU 0 rfl rfl rfl (y_la (Says.own .head) Tryz.isAgg51 Tryz.sizeOf51 rfl (Nat.zero_add _).symm rfl) kp4 ler ?_
            refine dU 1 rfl rfl rfl (y_mv rfl) kp4 ler ?_
            refine dU 2 rfl rfl rfl (y_mv rfl) kp4 ler ?_
            refine dU 3 rfl rfl rfl (y_mv rfl) kp4 ler ?_
            refine dU 4 rfl rfl rfl (y_mv rfl) kp4 ler ?_
            obtain ⟨b_31, o_32, e_33, g_34⟩ := ((hT.l.take most).mono le_28).at_ (ne_nil_of_lt hk)
            obtain ⟨c_35, q_36, q_37⟩ := g_34 k hk
            refine dU 5 rfl rfl rfl (y_ix2 Tryz.runUnderlying23 Tryz.sizeOf26 rfl e_33 rfl rfl hk) kp4 ler ?_
            refine dU 6 rfl rfl rfl (y_la (Says.fz q_36) Tryz.isAgg26 Tryz.sizeOf26 rfl (Nat.add_zero _).symm rfl) kp4 ler ?_
            refine dU 7 rfl rfl rfl (y_fa0 F26_3 rfl) kp4 ler ?_
            refine dU 8 rfl rfl rfl (y_ld (Says.own (.tail .head)) Tryz.isAgg23 rfl (Nat.zero_add _).symm rfl) kp4 ler ?_
            refine dU 9 rfl rfl rfl (y_mv rfl) kp4 ler ?_
            obtain ⟨b_38, o_39, e_40, g_41⟩ := (hG.l.mono le_28).at_ (ne_nil_of_lt (show k < g.l.length from hlen ▸ hk))
            obtain ⟨c_42, q_43, q_44⟩ := g_41 k (show k < g.l.length from hlen ▸ hk)
            refine dU 10 rfl rfl rfl (y_ix2 Tryz.runUnderlying23 Tryz.sizeOf26 rfl e_40 rfl rfl (show k < g.l.length from hlen ▸ hk)) kp4 ler ?_
            refine dU 11 rfl rfl rfl (y_la (Says.fz q_43) Tryz.isAgg26 Tryz.sizeOf26 rfl (Nat.add_zero _).symm rfl) kp4 ler ?_
            refine dE 12 (by kernel_rfl) rfl ?_
            refine cl rfl rfl rfl (hL (by omega) (FdAt.of ⟨show (-1 : Int) ≤ 1000 by decide, ho (by omega)⟩ (hF.sub.mono le_28)) q_37 q_44 (toldE_F (hall k hk (hlen ▸ hk)) (ho (by omega)))) rfl (fun v_ H1 L1 le_45 hR => ?_)
            obtain ⟨rfl, rfl⟩ := hR
            refine dN kp4 le_45 ?_
            refine dU 13 rfl rfl rfl (y_nt rfl) kp4 le_45 ?_
            refine dD (by kernel_rfl) ?_
            refine Nt ?_
            refine cF rfl ?_
            refine skN ?_
            refine Nb ?_
            refine fun a w hA hw => ⟨_, _, _, hA.sub ?_, (le_28.trans le_45), hw, _, rfl, rfl, rfl⟩
            exact (.of ⟨rfl, rfl, rfl, rfl, rfl, rfl, rfl, trivial⟩)
           ·
            obtain ⟨rfl, rfl⟩ := hI
            subst hF_30
            refine toWp ?_
            refine sr ?_
            refine asg rfl rfl ?_
            refine nl ?_
            refine drW .head ?_
            refine drW .head ?_
            refine drW .head ?_
            refine drW .head ?_
            exact rT rfl rfl le_29 (fun _ _ h => h) ⟨rfl, rfl⟩
         ·
          refine skN ?_
          refine Nb ?_
          refine Nt ?_
          refine sq ?_
          refine rgD 9 kp3 mixed ?_
          refine dU 0 rfl rfl rfl (y_fa0 F26_0 rfl) kp3 ler ?_
          refine dU 1 rfl rfl rfl (y_ld (Says.own .head) Tryz.isAgg2 rfl (Nat.zero_add _).symm rfl) kp3 ler ?_
          refine dU 2 rfl rfl rfl (y_fa0 F51_0 rfl) kp3 ler ?_
          refine dU 3 rfl rfl rfl (y_ld (Says.own (.tail (.tail .head))) Tryz.isAgg3 rfl (Nat.zero_add _).symm rfl) kp3 ler ?_
          refine dU 4 rfl rfl rfl (y_fa0 F26_0 rfl) kp3 ler ?_
          refine dU 5 rfl rfl rfl (y_ld (Says.own (.tail .head)) Tryz.isAgg2 rfl (Nat.zero_add _).symm rfl) kp3 ler ?_
          refine dE 6 (by kernel_rfl) rfl ?_
          refine cl rfl rfl rfl s_number rfl (fun v_ H1 L1 hle hR => ?_)
          obtain ⟨rfl, rfl, rfl⟩ := hR
          refine dN kp3 ler ?_
          have hv_ := hr_
          rw [if_neg (by omega)] at hv_
          refine dU 7 rfl rfl rfl (y_eq rfl rfl) kp3 ler ?_
          refine dU 8 rfl rfl rfl (y_asg rfl) kp3 ler ?_
          refine dD (by kernel_rfl) ?_
          refine Nt ?_
          refine drW .head ?_
          refine drW .head ?_
          refine drW .head ?_
          exact rT rfl rfl ler (fun _ _ h => h) ⟨rfl, congrArg Value.bool (decide_eq_true (toldV_n hv_ (by omega)))⟩
   ·
    refine gr rfl rfl ?_
    refine mv rfl rfl ?_
    refine pkF rfl rfl rfl rfl ?_
    refine mv rfl rfl ?_
    refine spl (t := 41) rfl (fun h41 => ?_) (fun h41 => ?_)
    ·
     refine gr rfl rfl ?_
     refine fa0 F26_2 rfl rfl ?_
     refine gr rfl rfl ?_
     refine ld (Says.own .head) Tryz.isAgg4 rfl (Nat.zero_add _).symm rfl rfl ?_
     refine gr rfl rfl ?_
     refine mv rfl rfl ?_
     refine gr rfl rfl ?_
     refine neb2 Tryz.underlying4 rfl rfl (told_nul h (by omega)) rfl ?_
     refine pkT rfl rfl rfl rfl ?_
     refine nl ?_
     refine cF rfl ?_
     refine skt ?_
     refine sq ?_
     refine sr ?_
     refine mv rfl rfl ?_
     refine nl ?_
     refine cbU rfl (fun h47 => ?_) (fun h47 => ?_)
     ·
      refine sr ?_
      refine asg rfl rfl ?_
      refine nl ?_
      refine drW .head ?_
      refine drW .head ?_
      refine drW .head ?_
      exact rT rfl rfl ler (fun _ _ h => h) ⟨rfl, rfl⟩
     ·
      have hr_ := told_rest h h47
      refine skt ?_
      refine sq ?_
      refine sr ?_
      refine fa0 F51_0 rfl rfl ?_
      refine ld (Says.own (.tail (.tail .head))) Tryz.isAgg3 rfl (Nat.zero_add _).symm rfl rfl ?_
      refine nl ?_
      refine bl ?_
      refine sq ?_
      refine sr ?_
      refine eq' rfl rfl rfl ?_
      refine asg rfl rfl ?_
      refine nl ?_
      refine cdU rfl (fun h50 => ?_) (fun h50 => ?_)
      ·
       refine skt ?_
       refine cT rfl ?_
       refine sq ?_
       refine rgD 7 kp3 mixed ?_
       have hv_ := hr_
       rw [if_neg (by omega)] at hv_
       refine dU 0 rfl rfl rfl (y_fa0 F26_1 rfl) kp3 ler ?_
       refine dU 1 rfl rfl rfl (y_ld (Says.own .head) Tryz.isAgg22 rfl (Nat.zero_add _).symm rfl) kp3 ler ?_
       refine dU 2 rfl rfl rfl (y_fa0 F26_1 rfl) kp3 ler ?_
       refine dU 3 rfl rfl rfl (y_ld (Says.own (.tail .head)) Tryz.isAgg22 rfl (Nat.zero_add _).symm rfl) kp3 ler ?_
       refine dE 4 (by kernel_rfl) rfl ?_
       refine cl rfl rfl rfl (s_whole hT.s rfl) rfl (fun v_ H1 L1 hle hR => ?_)
       obtain ⟨rfl, rfl, rfl⟩ := hR
       refine dN kp3 ler ?_
       refine dE 5 (by kernel_rfl) rfl ?_
       have es_ := toldV_s hv_ (by omega)
       refine cl rfl rfl rfl (s_same hG.s (hT.s.take most)) rfl (fun v_ H1 L1 hle hR => ?_)
       rw [decide_eq_true es_] at hR
       obtain ⟨rfl, rfl, rfl⟩ := hR
       refine dN kp3 ler ?_
       refine dU 6 rfl rfl rfl (y_asg rfl) kp3 ler ?_
       refine dD (by kernel_rfl) ?_
       refine Nt ?_
       refine drW .head ?_
       refine drW .head ?_
       refine drW .head ?_
       exact rT rfl rfl ler (fun _ _ h => h) ⟨rfl, rfl⟩
      ·
       refine rg ?_
       refine eq' rfl rfl rfl ?_
       refine asg rfl rfl ?_
       refine nl ?_
       refine cdU rfl (fun h50b => ?_) (fun h50b => ?_)
       ·
        refine sq ?_
        refine rgD 7 kp3 mixed ?_
        have hv_ := hr_
        rw [if_neg (by omega)] at hv_
        refine dU 0 rfl rfl rfl (y_fa0 F26_1 rfl) kp3 ler ?_
        refine dU 1 rfl rfl rfl (y_ld (Says.own .head) Tryz.isAgg22 rfl (Nat.zero_add _).symm rfl) kp3 ler ?_
        refine dU 2 rfl rfl rfl (y_fa0 F26_1 rfl) kp3 ler ?_
        refine dU 3 rfl rfl rfl (y_ld (Says.own (.tail .head)) Tryz.isAgg22 rfl (Nat.zero_add _).symm rfl) kp3 ler ?_
        refine dE 4 (by kernel_rfl) rfl ?_
        refine cl rfl rfl rfl (s_whole hT.s rfl) rfl (fun v_ H1 L1 hle hR => ?_)
        obtain ⟨rfl, rfl, rfl⟩ := hR
        refine dN kp3 ler ?_
        refine dE 5 (by kernel_rfl) rfl ?_
        have es_ := toldV_s hv_ (by omega)
        refine cl rfl rfl rfl (s_same hG.s (hT.s.take most)) rfl (fun v_ H1 L1 hle hR => ?_)
        rw [decide_eq_true es_] at hR
        obtain ⟨rfl, rfl, rfl⟩ := hR
        refine dN kp3 ler ?_
        refine dU 6 rfl rfl rfl (y_asg rfl) kp3 ler ?_
        refine dD (by kernel_rfl) ?_
        refine Nt ?_
        refine drW .head ?_
        refine drW .head ?_
        refine drW .head ?_
        exact rT rfl rfl ler (fun _ _ h => h) ⟨rfl, rfl⟩
       ·
        refine sr ?_
        refine eq' rfl rfl rfl ?_
        refine asg rfl rfl ?_
        refine nl ?_
        refine cdU rfl (fun h59 => ?_) (fun h59 => ?_)
        ·
         refine sr ?_
         refine mks (m := 16) (c := 16) Tryz.underlying22 I5 rfl rfl rfl rfl rfl (by decide) (by decide) (by decide) rfl (fun b_46 N61 r61 => ?_)
         refine asg rfl rfl ?_
         refine nl ?_
         refine sr ?_
         refine mv rfl rfl ?_
         refine fa0 F26_1 rfl rfl ?_
         refine ld (Says.own (.tail (.tail .head))) Tryz.isAgg22 rfl (Nat.zero_add _).symm rfl rfl ?_
         refine cpB Tryz.underlying22 rfl rfl rfl r61 (fun _ => .head) hT.s rfl rfl (fun N65 r65 => ?_)
         rw [row16] at r65
         refine nl ?_
         refine sr ?_
         have hv_ := hr_
         rw [if_neg (by omega)] at hv_
         refine fa0 F26_1 rfl rfl ?_
         refine ld (Says.own (.tail .head)) Tryz.isAgg22 rfl (Nat.zero_add _).symm rfl rfl ?_
         refine mv rfl rfl ?_
         refine frL (show Row 5 1 _ 16 _ (bytesOf (pad16 t.s)) N65 from r65) .head (fun H8 le8 z8 => ?_)
         have y8 := BytesAt.row z8 (show Row 5 1 _ 16 _ (bytesOf (pad16 t.s)) N65 from r65) (by rw [pad16_len]; decide)
         have es_ := toldV_u hv_ (by omega)
         refine cl rfl rfl rfl (s_same' (hG.s.mono le8) y8 rfl (pad16_len _).symm) rfl (fun v_ H1 L1 hle hR => ?_)
         rw [decide_eq_true es_] at hR
         obtain ⟨rfl, rfl, rfl⟩ := hR
         refine asg rfl rfl ?_
         refine nl ?_
         refine drW .head ?_
         refine drW .head ?_
         refine drW .head ?_
         exact rT rfl rfl le8 (fun _ _ h => h) ⟨rfl, rfl⟩
        ·
         refine sr ?_
         refine eq' rfl rfl rfl ?_
         refine asg rfl rfl ?_
         refine nl ?_
         refine cdU rfl (fun h70 => ?_) (fun h70 => ?_)
         ·
          refine sr ?_
          have hv_ := hr_
          rw [if_neg (by omega)] at hv_
          refine fa0 F51_7 rfl rfl ?_
          refine ld (Says.own (.tail (.tail .head))) Tryz.isAgg29 rfl (Nat.zero_add _).symm rfl rfl ?_
          refine mv rfl rfl ?_
          refine mv rfl rfl ?_
          refine la (Says.own (.tail .head)) Tryz.isAgg26 Tryz.sizeOf26 rfl (Nat.zero_add _).symm rfl rfl ?_
          refine la (Says.own .head) Tryz.isAgg26 Tryz.sizeOf26 rfl (Nat.zero_add _).symm rfl rfl ?_
          refine cl rfl rfl rfl (hP hF.sub hT hG (toldV_p hv_ (by omega))) rfl (fun v_ H1 L1 le_47 hR => ?_)
          obtain ⟨rfl, rfl⟩ := hR
          refine asg rfl rfl ?_
          refine nl ?_
          refine drW .head ?_
          refine drW .head ?_
          refine drW .head ?_
          exact rT rfl rfl le_47 (fun _ _ h => h) ⟨rfl, rfl⟩
         ·
          refine sr ?_
          refine eq' rfl rfl rfl ?_
          refine asg rfl rfl ?_
          refine nl ?_
          refine cdU rfl (fun h79 => ?_) (fun h79 => ?_)
          ·
           refine sr ?_
           refine fa0 F26_3 rfl rfl ?_
           refine ld (Says.own (.tail .head)) Tryz.isAgg23 rfl (Nat.zero_add _).symm rfl rfl ?_
           refine cl rfl rfl rfl (s_things hT.l rfl) rfl (fun v_ H1 L1 hle hR => ?_)
           obtain ⟨rfl, rfl, rfl⟩ := hR
           have ha_ := hr_
           rw [if_pos (by omega)] at ha_
           obtain ⟨hlen, hall⟩ := toldAll_at ha_
           have hthl := things_len t
           refine asg rfl rfl ?_
           refine nl ?_
           refine sq ?_
           refine sr ?_
           refine fa0 F26_3 rfl rfl ?_
           refine ld (Says.own .head) Tryz.isAgg23 rfl (Nat.zero_add _).symm rfl rfl ?_
           refine ls Tryz.runUnderlying23 rfl rfl ?_
           refine mv rfl rfl ?_
           refine ls Tryz.runUnderlying23 rfl rfl ?_
           refine ne' rfl rfl rfl ?_
           refine nl ?_
           refine cdU rfl (fun h89 => ?_) (fun h89 => ?_)
           ·
            exfalso
            have hl2 : (t.l.take most).length = g.l.length := hlen
            omega
           ·
            refine skt ?_
            refine sr ?_
            refine la (Says.own (.tail (.tail .head))) Tryz.isAgg51 Tryz.sizeOf51 rfl (Nat.zero_add _).symm rfl rfl ?_
            refine al Tryz.zeroValue51 rfl rfl (fun b_48 => ?_)
            refine sa Tryz.sizeOf51 rfl rfl rfl rfl rfl .head ?_
            refine nl ?_
            refine sr ?_
            refine fa0 F51_6 rfl rfl ?_
            refine ld (Says.own (.tail (.tail (.tail .head)))) Tryz.isAgg3 rfl (Nat.zero_add _).symm rfl rfl ?_
            refine fa0 F51_0 rfl rfl ?_
            refine st Tryz.sizeOf3 rfl rfl rfl rfl .head ?_
            refine fa0 F51_3 rfl rfl ?_
            refine st Tryz.sizeOf3 rfl rfl rfl rfl .head ?_
            refine fa0 F51_4 rfl rfl ?_
            refine st Tryz.sizeOf3 rfl rfl rfl rfl .head ?_
            refine nl ?_
            refine sq ?_
            refine sr ?_
            refine mv rfl rfl ?_
            refine ls Tryz.runUnderlying23 rfl rfl ?_
            refine mv rfl rfl ?_
            refine nl ?_
            refine capL (fun F_51 hF_51 => ?_)
            refine fr ((t.l.take most).length) (fun k l' H' L' => [(1, .int .i64 v), (2, .bool flex), (9, .pointer (some ⟨b_3, 0, none⟩)), (14, .slice c.la (t.l.take most).length c.lc), (15, .pointer (some ⟨b_48, 0, none⟩)), (97, .int .i64 ((t.l.take most).length : Int))] = l' ∧ F_51 = L') [(1, .int .i64 v), (2, .bool flex), (9, .pointer (some ⟨b_3, 0, none⟩)), (14, .slice c.la (t.l.take most).length c.lc), (15, .pointer (some ⟨b_48, 0, none⟩)), (97, .int .i64 ((t.l.take most).length : Int))] (fun k l' H' L' h => ?_) (by have : (t.l.take most).length ≤ 32767 := hthl; omega) rfl (.of ⟨rfl, rfl, rfl, rfl, rfl, rfl, trivial⟩) ⟨rfl, rfl⟩ rfl rfl rfl rfl rfl (fun k l' H' L' hk le_49 hI => ?_) (fun l' H' L' le_50 hI => ?_)
            · obtain ⟨rfl, _⟩ := h; exact ⟨rfl, rfl, rfl, rfl⟩
            ·
             obtain ⟨rfl, rfl⟩ := hI
             subst hF_51
             refine sr ?_
             refine mv rfl rfl ?_
             refine asg rfl rfl ?_
             refine nl ?_
             refine sq ?_
             refine rgD 14 kp4 mixed ?_
             refine dU 0 rfl rfl rfl (y_la (Says.own .head) Tryz.isAgg51 Tryz.sizeOf51 rfl (Nat.zero_add _).symm rfl) kp4 ler ?_
             refine dU 1 rfl rfl rfl (y_mv rfl) kp4 ler ?_
             refine dU 2 rfl rfl rfl (y_mv rfl) kp4 ler ?_
             refine dU 3 rfl rfl rfl (y_mv rfl) kp4 ler ?_
             refine dU 4 rfl rfl rfl (y_mv rfl) kp4 ler ?_
             obtain ⟨b_52, o_53, e_54, g_55⟩ := ((hT.l.take most).mono le_49).at_ (ne_nil_of_lt hk)
             obtain ⟨c_56, q_57, q_58⟩ := g_55 k hk
             refine dU 5 rfl rfl rfl (y_ix2 Tryz.runUnderlying23 Tryz.sizeOf26 rfl e_54 rfl rfl hk) kp4 ler ?_
             refine dU 6 rfl rfl rfl (y_la (Says.fz q_57) Tryz.isAgg26 Tryz.sizeOf26 rfl (Nat.add_zero _).symm rfl) kp4 ler ?_
             refine dU 7 rfl rfl rfl (y_fa0 F26_3 rfl) kp4 ler ?_
             refine dU 8 rfl rfl rfl (y_ld (Says.own (.tail .head)) Tryz.isAgg23 rfl (Nat.zero_add _).symm rfl) kp4 ler ?_
             refine dU 9 rfl rfl rfl (y_mv rfl) kp4 ler ?_
             obtain ⟨b_59, o_60, e_61, g_62⟩ := (hG.l.mono le_49).at_ (ne_nil_of_lt (show k < g.l.length from hlen ▸ hk))
             obtain ⟨c_63, q_64, q_65⟩ := g_62 k (show k < g.l.length from hlen ▸ hk)
             refine dU 10 rfl rfl rfl (y_ix2 Tryz.runUnderlying23 Tryz.sizeOf26 rfl e_61 rfl rfl (show k < g.l.length from hlen ▸ hk)) kp4 ler ?_
             refine dU 11 rfl rfl rfl (y_la (Says.fz q_64) Tryz.isAgg26 Tryz.sizeOf26 rfl (Nat.add_zero _).symm rfl) kp4 ler ?_
             refine dE 12 (by kernel_rfl) rfl ?_
             refine cl rfl rfl rfl (hL (by omega) (FdAt.of ⟨show (-1 : Int) ≤ 1000 by decide, ho (by omega)⟩ (hF.sub.mono le_49)) q_58 q_65 (toldE_F (hall k hk (hlen ▸ hk)) (ho (by omega)))) rfl (fun v_ H1 L1 le_66 hR => ?_)
             obtain ⟨rfl, rfl⟩ := hR
             refine dN kp4 le_66 ?_
             refine dU 13 rfl rfl rfl (y_nt rfl) kp4 le_66 ?_
             refine dD (by kernel_rfl) ?_
             refine Nt ?_
             refine cF rfl ?_
             refine skN ?_
             refine Nb ?_
             refine fun a w hA hw => ⟨_, _, _, hA.sub ?_, (le_49.trans le_66), hw, _, rfl, rfl, rfl⟩
             exact (.of ⟨rfl, rfl, rfl, rfl, rfl, rfl, rfl, trivial⟩)
            ·
             obtain ⟨rfl, rfl⟩ := hI
             subst hF_51
             refine toWp ?_
             refine sr ?_
             refine asg rfl rfl ?_
             refine nl ?_
             refine drW .head ?_
             refine drW .head ?_
             refine drW .head ?_
             refine drW .head ?_
             exact rT rfl rfl le_50 (fun _ _ h => h) ⟨rfl, rfl⟩
          ·
           refine skN ?_
           refine Nb ?_
           refine Nt ?_
           refine sq ?_
           refine rgD 9 kp3 mixed ?_
           refine dU 0 rfl rfl rfl (y_fa0 F26_0 rfl) kp3 ler ?_
           refine dU 1 rfl rfl rfl (y_ld (Says.own .head) Tryz.isAgg2 rfl (Nat.zero_add _).symm rfl) kp3 ler ?_
           refine dU 2 rfl rfl rfl (y_fa0 F51_0 rfl) kp3 ler ?_
           refine dU 3 rfl rfl rfl (y_ld (Says.own (.tail (.tail .head))) Tryz.isAgg3 rfl (Nat.zero_add _).symm rfl) kp3 ler ?_
           refine dU 4 rfl rfl rfl (y_fa0 F26_0 rfl) kp3 ler ?_
           refine dU 5 rfl rfl rfl (y_ld (Says.own (.tail .head)) Tryz.isAgg2 rfl (Nat.zero_add _).symm rfl) kp3 ler ?_
           refine dE 6 (by kernel_rfl) rfl ?_
           refine cl rfl rfl rfl s_number rfl (fun v_ H1 L1 hle hR => ?_)
           obtain ⟨rfl, rfl, rfl⟩ := hR
           refine dN kp3 ler ?_
           have hv_ := hr_
           rw [if_neg (by omega)] at hv_
           refine dU 7 rfl rfl rfl (y_eq rfl rfl) kp3 ler ?_
           refine dU 8 rfl rfl rfl (y_asg rfl) kp3 ler ?_
           refine dD (by kernel_rfl) ?_
           refine Nt ?_
           refine drW .head ?_
           refine drW .head ?_
           refine drW .head ?_
           exact rT rfl rfl ler (fun _ _ h => h) ⟨rfl, congrArg Value.bool (decide_eq_true (toldV_n hv_ (by omega)))⟩
    ·
     refine gs rfl rfl rfl rfl ?_
     refine gs rfl rfl rfl rfl ?_
     refine gs rfl rfl rfl rfl ?_
     refine gs rfl rfl rfl rfl ?_
     refine pkF rfl rfl rfl rfl ?_
     refine nl ?_
     refine cF rfl ?_
     refine skt ?_
     refine sq ?_
     refine sr ?_
     refine mv rfl rfl ?_
     refine nl ?_
     refine cbU rfl (fun h47 => ?_) (fun h47 => ?_)
     ·
      refine sr ?_
      refine asg rfl rfl ?_
      refine nl ?_
      refine drW .head ?_
      refine drW .head ?_
      refine drW .head ?_
      exact rT rfl rfl ler (fun _ _ h => h) ⟨rfl, rfl⟩
     ·
      have hr_ := told_rest h h47
      refine skt ?_
      refine sq ?_
      refine sr ?_
      refine fa0 F51_0 rfl rfl ?_
      refine ld (Says.own (.tail (.tail .head))) Tryz.isAgg3 rfl (Nat.zero_add _).symm rfl rfl ?_
      refine nl ?_
      refine bl ?_
      refine sq ?_
      refine sr ?_
      refine eq' rfl rfl rfl ?_
      refine asg rfl rfl ?_
      refine nl ?_
      refine cdU rfl (fun h50 => ?_) (fun h50 => ?_)
      ·
       refine skt ?_
       refine cT rfl ?_
       refine sq ?_
       refine rgD 7 kp3 mixed ?_
       have hv_ := hr_
       rw [if_neg (by omega)] at hv_
       refine dU 0 rfl rfl rfl (y_fa0 F26_1 rfl) kp3 ler ?_
       refine dU 1 rfl rfl rfl (y_ld (Says.own .head) Tryz.isAgg22 rfl (Nat.zero_add _).symm rfl) kp3 ler ?_
       refine dU 2 rfl rfl rfl (y_fa0 F26_1 rfl) kp3 ler ?_
       refine dU 3 rfl rfl rfl (y_ld (Says.own (.tail .head)) Tryz.isAgg22 rfl (Nat.zero_add _).symm rfl) kp3 ler ?_
       refine dE 4 (by kernel_rfl) rfl ?_
       refine cl rfl rfl rfl (s_whole hT.s rfl) rfl (fun v_ H1 L1 hle hR => ?_)
       obtain ⟨rfl, rfl, rfl⟩ := hR
       refine dN kp3 ler ?_
       refine dE 5 (by kernel_rfl) rfl ?_
       have es_ := toldV_s hv_ (by omega)
       refine cl rfl rfl rfl (s_same hG.s (hT.s.take most)) rfl (fun v_ H1 L1 hle hR => ?_)
       rw [decide_eq_true es_] at hR
       obtain ⟨rfl, rfl, rfl⟩ := hR
       refine dN kp3 ler ?_
       refine dU 6 rfl rfl rfl (y_asg rfl) kp3 ler ?_
       refine dD (by kernel_rfl) ?_
       refine Nt ?_
       refine drW .head ?_
       refine drW .head ?_
       refine drW .head ?_
       exact rT rfl rfl ler (fun _ _ h => h) ⟨rfl, rfl⟩
      ·
       refine rg ?_
       refine eq' rfl rfl rfl ?_
       refine asg rfl rfl ?_
       refine nl ?_
       refine cdU rfl (fun h50b => ?_) (fun h50b => ?_)
       ·
        refine sq ?_
        refine rgD 7 kp3 mixed ?_
        have hv_ := hr_
        rw [if_neg (by omega)] at hv_
        refine dU 0 rfl rfl rfl (y_fa0 F26_1 rfl) kp3 ler ?_
        refine dU 1 rfl rfl rfl (y_ld (Says.own .head) Tryz.isAgg22 rfl (Nat.zero_add _).symm rfl) kp3 ler ?_
        refine dU 2 rfl rfl rfl (y_fa0 F26_1 rfl) kp3 ler ?_
        refine dU 3 rfl rfl rfl (y_ld (Says.own (.tail .head)) Tryz.isAgg22 rfl (Nat.zero_add _).symm rfl) kp3 ler ?_
        refine dE 4 (by kernel_rfl) rfl ?_
        refine cl rfl rfl rfl (s_whole hT.s rfl) rfl (fun v_ H1 L1 hle hR => ?_)
        obtain ⟨rfl, rfl, rfl⟩ := hR
        refine dN kp3 ler ?_
        refine dE 5 (by kernel_rfl) rfl ?_
        have es_ := toldV_s hv_ (by omega)
        refine cl rfl rfl rfl (s_same hG.s (hT.s.take most)) rfl (fun v_ H1 L1 hle hR => ?_)
        rw [decide_eq_true es_] at hR
        obtain ⟨rfl, rfl, rfl⟩ := hR
        refine dN kp3 ler ?_
        refine dU 6 rfl rfl rfl (y_asg rfl) kp3 ler ?_
        refine dD (by kernel_rfl) ?_
        refine Nt ?_
        refine drW .head ?_
        refine drW .head ?_
        refine drW .head ?_
        exact rT rfl rfl ler (fun _ _ h => h) ⟨rfl, rfl⟩
       ·
        refine sr ?_
        refine eq' rfl rfl rfl ?_
        refine asg rfl rfl ?_
        refine nl ?_
        refine cdU rfl (fun h59 => ?_) (fun h59 => ?_)
        ·
         refine sr ?_
         refine mks (m := 16) (c := 16) Tryz.underlying22 I5 rfl rfl rfl rfl rfl (by decide) (by decide) (by decide) rfl (fun b_67 N61 r61 => ?_)
         refine asg rfl rfl ?_
         refine nl ?_
         refine sr ?_
         refine mv rfl rfl ?_
         refine fa0 F26_1 rfl rfl ?_
         refine ld (Says.own (.tail (.tail .head))) Tryz.isAgg22 rfl (Nat.zero_add _).symm rfl rfl ?_
         refine cpB Tryz.underlying22 rfl rfl rfl r61 (fun _ => .head) hT.s rfl rfl (fun N65 r65 => ?_)
         rw [row16] at r65
         refine nl ?_
         refine sr ?_
         have hv_ := hr_
         rw [if_neg (by omega)] at hv_
         refine fa0 F26_1 rfl rfl ?_
         refine ld (Says.own (.tail .head)) Tryz.isAgg22 rfl (Nat.zero_add _).symm rfl rfl ?_
         refine mv rfl rfl ?_
         refine frL (show Row 5 1 _ 16 _ (bytesOf (pad16 t.s)) N65 from r65) .head (fun H8 le8 z8 => ?_)
         have y8 := BytesAt.row z8 (show Row 5 1 _ 16 _ (bytesOf (pad16 t.s)) N65 from r65) (by rw [pad16_len]; decide)
         have es_ := toldV_u hv_ (by omega)
         refine cl rfl rfl rfl (s_same' (hG.s.mono le8) y8 rfl (pad16_len _).symm) rfl (fun v_ H1 L1 hle hR => ?_)
         rw [decide_eq_true es_] at hR
         obtain ⟨rfl, rfl, rfl⟩ := hR
         refine asg rfl rfl ?_
         refine nl ?_
         refine drW .head ?_
         refine drW .head ?_
         refine drW .head ?_
         exact rT rfl rfl le8 (fun _ _ h => h) ⟨rfl, rfl⟩
        ·
         refine sr ?_
         refine eq' rfl rfl rfl ?_
         refine asg rfl rfl ?_
         refine nl ?_
         refine cdU rfl (fun h70 => ?_) (fun h70 => ?_)
         ·
          refine sr ?_
          have hv_ := hr_
          rw [if_neg (by omega)] at hv_
          refine fa0 F51_7 rfl rfl ?_
          refine ld (Says.own (.tail (.tail .head))) Tryz.isAgg29 rfl (Nat.zero_add _).symm rfl rfl ?_
          refine mv rfl rfl ?_
          refine mv rfl rfl ?_
          refine la (Says.own (.tail .head)) Tryz.isAgg26 Tryz.sizeOf26 rfl (Nat.zero_add _).symm rfl rfl ?_
          refine la (Says.own .head) Tryz.isAgg26 Tryz.sizeOf26 rfl (Nat.zero_add _).symm rfl rfl ?_
          refine cl rfl rfl rfl (hP hF.sub hT hG (toldV_p hv_ (by omega))) rfl (fun v_ H1 L1 le_68 hR => ?_)
          obtain ⟨rfl, rfl⟩ := hR
          refine asg rfl rfl ?_
          refine nl ?_
          refine drW .head ?_
          refine drW .head ?_
          refine drW .head ?_
          exact rT rfl rfl le_68 (fun _ _ h => h) ⟨rfl, rfl⟩
         ·
          refine sr ?_
          refine eq' rfl rfl rfl ?_
          refine asg rfl rfl ?_
          refine nl ?_
          refine cdU rfl (fun h79 => ?_) (fun h79 => ?_)
          ·
           refine sr ?_
           refine fa0 F26_3 rfl rfl ?_
           refine ld (Says.own (.tail .head)) Tryz.isAgg23 rfl (Nat.zero_add _).symm rfl rfl ?_
           refine cl rfl rfl rfl (s_things hT.l rfl) rfl (fun v_ H1 L1 hle hR => ?_)
           obtain ⟨rfl, rfl, rfl⟩ := hR
           have ha_ := hr_
           rw [if_pos (by omega)] at ha_
           obtain ⟨hlen, hall⟩ := toldAll_at ha_
           have hthl := things_len t
           refine asg rfl rfl ?_
           refine nl ?_
           refine sq ?_
           refine sr ?_
           refine fa0 F26_3 rfl rfl ?_
           refine ld (Says.own .head) Tryz.isAgg23 rfl (Nat.zero_add _).symm rfl rfl ?_
           refine ls Tryz.runUnderlying23 rfl rfl ?_
           refine mv rfl rfl ?_
           refine ls Tryz.runUnderlying23 rfl rfl ?_
           refine ne' rfl rfl rfl ?_
           refine nl ?_
           refine cdU rfl (fun h89 => ?_) (fun h89 => ?_)
           ·
            exfalso
            have hl2 : (t.l.take most).length = g.l.length := hlen
            omega
           ·
            refine skt ?_
            refine sr ?_
            refine la (Says.own (.tail (.tail .head))) Tryz.isAgg51 Tryz.sizeOf51 rfl (Nat.zero_add _).symm rfl rfl ?_
            refine al Tryz.zeroValue51 rfl rfl (fun b_69 => ?_)
            refine sa Tryz.sizeOf51 rfl rfl rfl rfl rfl .head ?_
            refine nl ?_
            refine sr ?_
            refine fa0 F51_6 rfl rfl ?_
            refine ld (Says.own (.tail (.tail (.tail .head)))) Tryz.isAgg3 rfl (Nat.zero_add _).symm rfl rfl ?_
            refine fa0 F51_0 rfl rfl ?_
            refine st Tryz.sizeOf3 rfl rfl rfl rfl .head ?_
            refine fa0 F51_3 rfl rfl ?_
            refine st Tryz.sizeOf3 rfl rfl rfl rfl .head ?_
            refine fa0 F51_4 rfl rfl ?_
            refine st Tryz.sizeOf3 rfl rfl rfl rfl .head ?_
            refine nl ?_
            refine sq ?_
            refine sr ?_
            refine mv rfl rfl ?_
            refine ls Tryz.runUnderlying23 rfl rfl ?_
            refine mv rfl rfl ?_
            refine nl ?_
            refine capL (fun F_72 hF_72 => ?_)
            refine fr ((t.l.take most).length) (fun k l' H' L' => [(1, .int .i64 v), (2, .bool flex), (9, .pointer (some ⟨b_3, 0, none⟩)), (14, .slice c.la (t.l.take most).length c.lc), (15, .pointer (some ⟨b_69, 0, none⟩)), (97, .int .i64 ((t.l.take most).length : Int))] = l' ∧ F_72 = L') [(1, .int .i64 v), (2, .bool flex), (9, .pointer (some ⟨b_3, 0, none⟩)), (14, .slice c.la (t.l.take most).length c.lc), (15, .pointer (some ⟨b_69, 0, none⟩)), (97, .int .i64 ((t.l.take most).length : Int))] (fun k l' H' L' h => ?_) (by have : (t.l.take most).length ≤ 32767 := hthl; omega) rfl (.of ⟨rfl, rfl, rfl, rfl, rfl, rfl, trivial⟩) ⟨rfl, rfl⟩ rfl rfl rfl rfl rfl (fun k l' H' L' hk le_70 hI => ?_) (fun l' H' L' le_71 hI => ?_)
            · obtain ⟨rfl, _⟩ := h; exact ⟨rfl, rfl, rfl, rfl⟩
            ·
             obtain ⟨rfl, rfl⟩ := hI
             subst hF_72
             refine sr ?_
             refine mv rfl rfl ?_
             refine asg rfl rfl ?_
             refine nl ?_
             refine sq ?_
             refine rgD 14 kp4 mixed ?_
             refine dU 0 rfl rfl rfl (y_la (Says.own .head) Tryz.isAgg51 Tryz.sizeOf51 rfl (Nat.zero_add _).symm rfl) kp4 ler ?_
             refine dU 1 rfl rfl rfl (y_mv rfl) kp4 ler ?_
             refine dU 2 rfl rfl rfl (y_mv rfl) kp4 ler ?_
             refine dU 3 rfl rfl rfl (y_mv rfl) kp4 ler ?_
             refine dU 4 rfl rfl rfl (y_mv rfl) kp4 ler ?_
             obtain ⟨b_73, o_74, e_75, g_76⟩ := ((hT.l.take most).mono le_70).at_ (ne_nil_of_lt hk)
             obtain ⟨c_77, q_78, q_79⟩ := g_76 k hk
             refine dU 5 rfl rfl rfl (y_ix2 Tryz.runUnderlying23 Tryz.sizeOf26 rfl e_75 rfl rfl hk) kp4 ler ?_
             refine dU 6 rfl rfl rfl (y_la (Says.fz q_78) Tryz.isAgg26 Tryz.sizeOf26 rfl (Nat.add_zero _).symm rfl) kp4 ler ?_
             refine dU 7 rfl rfl rfl (y_fa0 F26_3 rfl) kp4 ler ?_
             refine dU 8 rfl rfl rfl (y_ld (Says.own (.tail .head)) Tryz.isAgg23 rfl (Nat.zero_add _).symm rfl) kp4 ler ?_
             refine dU 9 rfl rfl rfl (y_mv rfl) kp4 ler ?_
             obtain ⟨b_80, o_81, e_82, g_83⟩ := (hG.l.mono le_70).at_ (ne_nil_of_lt (show k < g.l.length from hlen ▸ hk))
             obtain ⟨c_84, q_85, q_86⟩ := g_83 k (show k < g.l.length from hlen ▸ hk)
             refine dU 10 rfl rfl rfl (y_ix2 Tryz.runUnderlying23 Tryz.sizeOf26 rfl e_82 rfl rfl (show k < g.l.length from hlen ▸ hk)) kp4 ler ?_
             refine dU 11 rfl rfl rfl (y_la (Says.fz q_85) Tryz.isAgg26 Tryz.sizeOf26 rfl (Nat.add_zero _).symm rfl) kp4 ler ?_
             refine dE 12 (by kernel_rfl) rfl ?_
             refine cl rfl rfl rfl (hL (by omega) (FdAt.of ⟨show (-1 : Int) ≤ 1000 by decide, ho (by omega)⟩ (hF.sub.mono le_70)) q_79 q_86 (toldE_F (hall k hk (hlen ▸ hk)) (ho (by omega)))) rfl (fun v_ H1 L1 le_87 hR => ?_)
             obtain ⟨rfl, rfl⟩ := hR
             refine dN kp4 le_87 ?_
             refine dU 13 rfl rfl rfl (y_nt rfl) kp4 le_87 ?_
             refine dD (by kernel_rfl) ?_
             refine Nt ?_
             refine cF rfl ?_
             refine skN ?_
             refine Nb ?_
             refine fun a w hA hw => ⟨_, _, _, hA.sub ?_, (le_70.trans le_87), hw, _, rfl, rfl, rfl⟩
             exact (.of ⟨rfl, rfl, rfl, rfl, rfl, rfl, rfl, trivial⟩)
            ·
             obtain ⟨rfl, rfl⟩ := hI
             subst hF_72
             refine toWp ?_
             refine sr ?_
             refine asg rfl rfl ?_
             refine nl ?_
             refine drW .head ?_
             refine drW .head ?_
             refine drW .head ?_
             refine drW .head ?_
             exact rT rfl rfl le_71 (fun _ _ h => h) ⟨rfl, rfl⟩
          ·
           refine skN ?_
           refine Nb ?_
           refine Nt ?_
           refine sq ?_
           refine rgD 9 kp3 mixed ?_
           refine dU 0 rfl rfl rfl (y_fa0 F26_0 rfl) kp3 ler ?_
           refine dU 1 rfl rfl rfl (y_ld (Says.own .head) Tryz.isAgg2 rfl (Nat.zero_add _).symm rfl) kp3 ler ?_
           refine dU 2 rfl rfl rfl (y_fa0 F51_0 rfl) kp3 ler ?_
           refine dU 3 rfl rfl rfl (y_ld (Says.own (.tail (.tail .head))) Tryz.isAgg3 rfl (Nat.zero_add _).symm rfl) kp3 ler ?_
           refine dU 4 rfl rfl rfl (y_fa0 F26_0 rfl) kp3 ler ?_
           refine dU 5 rfl rfl rfl (y_ld (Says.own (.tail .head)) Tryz.isAgg2 rfl (Nat.zero_add _).symm rfl) kp3 ler ?_
           refine dE 6 (by kernel_rfl) rfl ?_
           refine cl rfl rfl rfl s_number rfl (fun v_ H1 L1 hle hR => ?_)
           obtain ⟨rfl, rfl, rfl⟩ := hR
           refine dN kp3 ler ?_
           have hv_ := hr_
           rw [if_neg (by omega)] at hv_
           refine dU 7 rfl rfl rfl (y_eq rfl rfl) kp3 ler ?_
           refine dU 8 rfl rfl rfl (y_asg rfl) kp3 ler ?_
           refine dD (by kernel_rfl) ?_
           refine Nt ?_
           refine drW .head ?_
           refine drW .head ?_
           refine drW .head ?_
           exact rT rfl rfl ler (fun _ _ h => h) ⟨rfl, congrArg Value.bool (decide_eq_true (toldV_n hv_ (by omega)))⟩
 ·
  refine gs rfl rfl rfl rfl ?_
  refine gs rfl rfl rfl rfl ?_
  refine gs rfl rfl rfl rfl ?_
  refine gs rfl rfl rfl rfl ?_
  refine pkF rfl rfl rfl rfl ?_
  refine asg rfl rfl ?_
  refine nl ?_
  refine sq ?_
  refine sr ?_
  refine fa0 F51_0 rfl rfl ?_
  refine ld (Says.own (.tail (.tail .head))) Tryz.isAgg3 rfl (Nat.zero_add _).symm rfl rfl ?_
  refine eq' rfl rfl rfl ?_
  refine mv rfl rfl ?_
  refine spl (t := 33) rfl (fun h33 => ?_) (fun h33 => ?_)
  ·
   refine gs rfl rfl rfl rfl ?_
   refine gs rfl rfl rfl rfl ?_
   refine gs rfl rfl rfl rfl ?_
   refine pkT rfl rfl rfl rfl ?_
   refine mv rfl rfl ?_
   refine gs rfl rfl rfl rfl ?_
   refine pkT rfl rfl rfl rfl ?_
   refine mv rfl rfl ?_
   refine gr rfl rfl ?_
   refine fa0 F26_2 rfl rfl ?_
   refine gr rfl rfl ?_
   refine ld (Says.own .head) Tryz.isAgg4 rfl (Nat.zero_add _).symm rfl rfl ?_
   refine gr rfl rfl ?_
   refine mv rfl rfl ?_
   refine gr rfl rfl ?_
   refine neb2 Tryz.underlying4 rfl rfl (told_nul h (by omega)) rfl ?_
   refine pkT rfl rfl rfl rfl ?_
   refine nl ?_
   refine cF rfl ?_
   refine skt ?_
   refine sq ?_
   refine sr ?_
   refine mv rfl rfl ?_
   refine nl ?_
   refine cbU rfl (fun h47 => ?_) (fun h47 => ?_)
   ·
    refine sr ?_
    refine asg rfl rfl ?_
    refine nl ?_
    refine drW .head ?_
    refine drW .head ?_
    refine drW .head ?_
    exact rT rfl rfl ler (fun _ _ h => h) ⟨rfl, rfl⟩
   ·
    have hr_ := told_rest h h47
    refine skt ?_
    refine sq ?_
    refine sr ?_
    refine fa0 F51_0 rfl rfl ?_
    refine ld (Says.own (.tail (.tail .head))) Tryz.isAgg3 rfl (Nat.zero_add _).symm rfl rfl ?_
    refine nl ?_
    refine bl ?_
    refine sq ?_
    refine sr ?_
    refine eq' rfl rfl rfl ?_
    refine asg rfl rfl ?_
    refine nl ?_
    refine cdU rfl (fun h50 => ?_) (fun h50 => ?_)
    ·
     refine skt ?_
     refine cT rfl ?_
     refine sq ?_
     refine rgD 7 kp3 mixed ?_
     have hv_ := hr_
     rw [if_neg (by omega)] at hv_
     refine dU 0 rfl rfl rfl (y_fa0 F26_1 rfl) kp3 ler ?_
     refine dU 1 rfl rfl rfl (y_ld (Says.own .head) Tryz.isAgg22 rfl (Nat.zero_add _).symm rfl) kp3 ler ?_
     refine dU 2 rfl rfl rfl (y_fa0 F26_1 rfl) kp3 ler ?_
     refine dU 3 rfl rfl rfl (y_ld (Says.own (.tail .head)) Tryz.isAgg22 rfl (Nat.zero_add _).symm rfl) kp3 ler ?_
     refine dE 4 (by kernel_rfl) rfl ?_
     refine cl rfl rfl rfl (s_whole hT.s rfl) rfl (fun v_ H1 L1 hle hR => ?_)
     obtain ⟨rfl, rfl, rfl⟩ := hR
     refine dN kp3 ler ?_
     refine dE 5 (by kernel_rfl) rfl ?_
     have es_ := toldV_s hv_ (by omega)
     refine cl rfl rfl rfl (s_same hG.s (hT.s.take most)) rfl (fun v_ H1 L1 hle hR => ?_)
     rw [decide_eq_true es_] at hR
     obtain ⟨rfl, rfl, rfl⟩ := hR
     refine dN kp3 ler ?_
     refine dU 6 rfl rfl rfl (y_asg rfl) kp3 ler ?_
     refine dD (by kernel_rfl) ?_
     refine Nt ?_
     refine drW .head ?_
     refine drW .head ?_
     refine drW .head ?_
     exact rT rfl rfl ler (fun _ _ h => h) ⟨rfl, rfl⟩
    ·
     refine rg ?_
     refine eq' rfl rfl rfl ?_
     refine asg rfl rfl ?_
     refine nl ?_
     refine cdU rfl (fun h50b => ?_) (fun h50b => ?_)
     ·
      refine sq ?_
      refine rgD 7 kp3 mixed ?_
      have hv_ := hr_
      rw [if_neg (by omega)] at hv_
      refine dU 0 rfl rfl rfl (y_fa0 F26_1 rfl) kp3 ler ?_
      refine dU 1 rfl rfl rfl (y_ld (Says.own .head) Tryz.isAgg22 rfl (Nat.zero_add _).symm rfl) kp3 ler ?_
      refine dU 2 rfl rfl rfl (y_fa0 F26_1 rfl) kp3 ler ?_
      refine dU 3 rfl rfl rfl (y_ld (Says.own (.tail .head)) Tryz.isAgg22 rfl (Nat.zero_add _).symm rfl) kp3 ler ?_
      refine dE 4 (by kernel_rfl) rfl ?_
      refine cl rfl rfl rfl (s_whole hT.s rfl) rfl (fun v_ H1 L1 hle hR => ?_)
      obtain ⟨rfl, rfl, rfl⟩ := hR
      refine dN kp3 ler ?_
      refine dE 5 (by kernel_rfl) rfl ?_
      have es_ := toldV_s hv_ (by omega)
      refine cl rfl rfl rfl (s_same hG.s (hT.s.take most)) rfl (fun v_ H1 L1 hle hR => ?_)
      rw [decide_eq_true es_] at hR
      obtain ⟨rfl, rfl, rfl⟩ := hR
      refine dN kp3 ler ?_
      refine dU 6 rfl rfl rfl (y_asg rfl) kp3 ler ?_
      refine dD (by kernel_rfl) ?_
      refine Nt ?_
      refine drW .head ?_
      refine drW .head ?_
      refine drW .head ?_
      exact rT rfl rfl ler (fun _ _ h => h) ⟨rfl, rfl⟩
     ·
      refine sr ?_
      refine eq' rfl rfl rfl ?_
      refine asg rfl rfl ?_
      refine nl ?_
      refine cdU rfl (fun h59 => ?_) (fun h59 => ?_)
      ·
       refine sr ?_
       refine mks (m := 16) (c := 16) Tryz.underlying22 I5 rfl rfl rfl rfl rfl (by decide) (by decide) (by decide) rfl (fun b_88 N61 r61 => ?_)
       refine asg rfl rfl ?_
       refine nl ?_
       refine sr ?_
       refine mv rfl rfl ?_
       refine fa0 F26_1 rfl rfl ?_
       refine ld (Says.own (.tail (.tail .head))) Tryz.isAgg22 rfl (Nat.zero_add _).symm rfl rfl ?_
       refine cpB Tryz.underlying22 rfl rfl rfl r61 (fun _ => .head) hT.s rfl rfl (fun N65 r65 => ?_)
       rw [row16] at r65
       refine nl ?_
       refine sr ?_
       have hv_ := hr_
       rw [if_neg (by omega)] at hv_
       refine fa0 F26_1 rfl rfl ?_
       refine ld (Says.own (.tail .head)) Tryz.isAgg22 rfl (Nat.zero_add _).symm rfl rfl ?_
       refine mv rfl rfl ?_
       refine frL (show Row 5 1 _ 16 _ (bytesOf (pad16 t.s)) N65 from r65) .head (fun H8 le8 z8 => ?_)
       have y8 := BytesAt.row z8 (show Row 5 1 _ 16 _ (bytesOf (pad16 t.s)) N65 from r65) (by rw [pad16_len]; decide)
       have es_ := toldV_u hv_ (by omega)
       refine cl rfl rfl rfl (s_same' (hG.s.mono le8) y8 rfl (pad16_len _).symm) rfl (fun v_ H1 L1 hle hR => ?_)
       rw [decide_eq_true es_] at hR
       obtain ⟨rfl, rfl, rfl⟩ := hR
       refine asg rfl rfl ?_
       refine nl ?_
       refine drW .head ?_
       refine drW .head ?_
       refine drW .head ?_
       exact rT rfl rfl le8 (fun _ _ h => h) ⟨rfl, rfl⟩
      ·
       refine sr ?_
       refine eq' rfl rfl rfl ?_
       refine asg rfl rfl ?_
       refine nl ?_
       refine cdU rfl (fun h70 => ?_) (fun h70 => ?_)
       ·
        refine sr ?_
        have hv_ := hr_
        rw [if_neg (by omega)] at hv_
        refine fa0 F51_7 rfl rfl ?_
        refine ld (Says.own (.tail (.tail .head))) Tryz.isAgg29 rfl (Nat.zero_add _).symm rfl rfl ?_
        refine mv rfl rfl ?_
        refine mv rfl rfl ?_
        refine la (Says.own (.tail .head)) Tryz.isAgg26 Tryz.sizeOf26 rfl (Nat.zero_add _).symm rfl rfl ?_
        refine la (Says.own .head) Tryz.isAgg26 Tryz.sizeOf26 rfl (Nat.zero_add _).symm rfl rfl ?_
        refine cl rfl rfl rfl (hP hF.sub hT hG (toldV_p hv_ (by omega))) rfl (fun v_ H1 L1 le_89 hR => ?_)
        obtain ⟨rfl, rfl⟩ := hR
        refine asg rfl rfl ?_
        refine nl ?_
        refine drW .head ?_
        refine drW .head ?_
        refine drW .head ?_
        exact rT rfl rfl le_89 (fun _ _ h => h) ⟨rfl, rfl⟩
       ·
        refine sr ?_
        refine eq' rfl rfl rfl ?_
        refine asg rfl rfl ?_
        refine nl ?_
        refine cdU rfl (fun h79 => ?_) (fun h79 => ?_)
        ·
         refine sr ?_
         refine fa0 F26_3 rfl rfl ?_
         refine ld (Says.own (.tail .head)) Tryz.isAgg23 rfl (Nat.zero_add _).symm rfl rfl ?_
         refine cl rfl rfl rfl (s_things hT.l rfl) rfl (fun v_ H1 L1 hle hR => ?_)
         obtain ⟨rfl, rfl, rfl⟩ := hR
         have ha_ := hr_
         rw [if_pos (by omega)] at ha_
         obtain ⟨hlen, hall⟩ := toldAll_at ha_
         have hthl := things_len t
         refine asg rfl rfl ?_
         refine nl ?_
         refine sq ?_
         refine sr ?_
         refine fa0 F26_3 rfl rfl ?_
         refine ld (Says.own .head) Tryz.isAgg23 rfl (Nat.zero_add _).symm rfl rfl ?_
         refine ls Tryz.runUnderlying23 rfl rfl ?_
         refine mv rfl rfl ?_
         refine ls Tryz.runUnderlying23 rfl rfl ?_
         refine ne' rfl rfl rfl ?_
         refine nl ?_
         refine cdU rfl (fun h89 => ?_) (fun h89 => ?_)
         ·
          exfalso
          have hl2 : (t.l.take most).length = g.l.length := hlen
          omega
         ·
          refine skt ?_
          refine sr ?_
          refine la (Says.own (.tail (.tail .head))) Tryz.isAgg51 Tryz.sizeOf51 rfl (Nat.zero_add _).symm rfl rfl ?_
          refine al Tryz.zeroValue51 rfl rfl (fun b_90 => ?_)
          refine sa Tryz.sizeOf51 rfl rfl rfl rfl rfl .head ?_
          refine nl ?_
          refine sr ?_
          refine fa0 F51_6 rfl rfl ?_
          refine ld (Says.own (.tail (.tail (.tail .head)))) Tryz.isAgg3 rfl (Nat.zero_add _).symm rfl rfl ?_
          refine fa0 F51_0 rfl rfl ?_
          refine st Tryz.sizeOf3 rfl rfl rfl rfl .head ?_
          refine fa0 F51_3 rfl rfl ?_
          refine st Tryz.sizeOf3 rfl rfl rfl rfl .head ?_
          refine fa0 F51_4 rfl rfl ?_
          refine st Tryz.sizeOf3 rfl rfl rfl rfl .head ?_
          refine nl ?_
          refine sq ?_
          refine sr ?_
          refine mv rfl rfl ?_
          refine ls Tryz.runUnderlying23 rfl rfl ?_
          refine mv rfl rfl ?_
          refine nl ?_
          refine capL (fun F_93 hF_93 => ?_)
          refine fr ((t.l.take most).length) (fun k l' H' L' => [(1, .int .i64 v), (2, .bool flex), (9, .pointer (some ⟨b_3, 0, none⟩)), (14, .slice c.la (t.l.take most).length c.lc), (15, .pointer (some ⟨b_90, 0, none⟩)), (97, .int .i64 ((t.l.take most).length : Int))] = l' ∧ F_93 = L') [(1, .int .i64 v), (2, .bool flex), (9, .pointer (some ⟨b_3, 0, none⟩)), (14, .slice c.la (t.l.take most).length c.lc), (15, .pointer (some ⟨b_90, 0, none⟩)), (97, .int .i64 ((t.l.take most).length : Int))] (fun k l' H' L' h => ?_) (by have : (t.l.take most).length ≤ 32767 := hthl; omega) rfl (.of ⟨rfl, rfl, rfl, rfl, rfl, rfl, trivial⟩) ⟨rfl, rfl⟩ rfl rfl rfl rfl rfl (fun k l' H' L' hk le_91 hI => ?_) (fun l' H' L' le_92 hI => ?_)
          · obtain ⟨rfl, _⟩ := h; exact ⟨rfl, rfl, rfl, rfl⟩
          ·
           obtain ⟨rfl, rfl⟩ := hI
           subst hF_93
           refine sr ?_
           refine mv rfl rfl ?_
           refine asg rfl rfl ?_
           refine nl ?_
           refine sq ?_
           refine rgD 14 kp4 mixed ?_
           refine dU 0 rfl rfl rfl (y_la (Says.own .head) Tryz.isAgg51 Tryz.sizeOf51 rfl (Nat.zero_add _).symm rfl) kp4 ler ?_
           refine dU 1 rfl rfl rfl (y_mv rfl) kp4 ler ?_
           refine dU 2 rfl rfl rfl (y_mv rfl) kp4 ler ?_
           refine dU 3 rfl rfl rfl (y_mv rfl) kp4 ler ?_
           refine dU 4 rfl rfl rfl (y_mv rfl) kp4 ler ?_
           obtain ⟨b_94, o_95, e_96, g_97⟩ := ((hT.l.take most).mono le_91).at_ (ne_nil_of_lt hk)
           obtain ⟨c_98, q_99, q_100⟩ := g_97 k hk
           refine dU 5 rfl rfl rfl (y_ix2 Tryz.runUnderlying23 Tryz.sizeOf26 rfl e_96 rfl rfl hk) kp4 ler ?_
           refine dU 6 rfl rfl rfl (y_la (Says.fz q_99) Tryz.isAgg26 Tryz.sizeOf26 rfl (Nat.add_zero _).symm rfl) kp4 ler ?_
           refine dU 7 rfl rfl rfl (y_fa0 F26_3 rfl) kp4 ler ?_
           refine dU 8 rfl rfl rfl (y_ld (Says.own (.tail .head)) Tryz.isAgg23 rfl (Nat.zero_add _).symm rfl) kp4 ler ?_
           refine dU 9 rfl rfl rfl (y_mv rfl) kp4 ler ?_
           obtain ⟨b_101, o_102, e_103, g_104⟩ := (hG.l.mono le_91).at_ (ne_nil_of_lt (show k < g.l.length from hlen ▸ hk))
           obtain ⟨c_105, q_106, q_107⟩ := g_104 k (show k < g.l.length from hlen ▸ hk)
           refine dU 10 rfl rfl rfl (y_ix2 Tryz.runUnderlying23 Tryz.sizeOf26 rfl e_103 rfl rfl (show k < g.l.length from hlen ▸ hk)) kp4 ler ?_
           refine dU 11 rfl rfl rfl (y_la (Says.fz q_106) Tryz.isAgg26 Tryz.sizeOf26 rfl (Nat.add_zero _).symm rfl) kp4 ler ?_
           refine dE 12 (by kernel_rfl) rfl ?_
           refine cl rfl rfl rfl (hL (by omega) (FdAt.of ⟨show (-1 : Int) ≤ 1000 by decide, ho (by omega)⟩ (hF.sub.mono le_91)) q_100 q_107 (toldE_F (hall k hk (hlen ▸ hk)) (ho (by omega)))) rfl (fun v_ H1 L1 le_108 hR => ?_)
           obtain ⟨rfl, rfl⟩ := hR
           refine dN kp4 le_108 ?_
           refine dU 13 rfl rfl rfl (y_nt rfl) kp4 le_108 ?_
           refine dD (by kernel_rfl) ?_
           refine Nt ?_
           refine cF rfl ?_
           refine skN ?_
           refine Nb ?_
           refine fun a w hA hw => ⟨_, _, _, hA.sub ?_, (le_91.trans le_108), hw, _, rfl, rfl, rfl⟩
           exact (.of ⟨rfl, rfl, rfl, rfl, rfl, rfl, rfl, trivial⟩)
          ·
           obtain ⟨rfl, rfl⟩ := hI
           subst hF_93
           refine toWp ?_
           refine sr ?_
           refine asg rfl rfl ?_
           refine nl ?_
           refine drW .head ?_
           refine drW .head ?_
           refine drW .head ?_
           refine drW .head ?_
           exact rT rfl rfl le_92 (fun _ _ h => h) ⟨rfl, rfl⟩
        ·
         refine skN ?_
         refine Nb ?_
         refine Nt ?_
         refine sq ?_
         refine rgD 9 kp3 mixed ?_
         refine dU 0 rfl rfl rfl (y_fa0 F26_0 rfl) kp3 ler ?_
         refine dU 1 rfl rfl rfl (y_ld (Says.own .head) Tryz.isAgg2 rfl (Nat.zero_add _).symm rfl) kp3 ler ?_
         refine dU 2 rfl rfl rfl (y_fa0 F51_0 rfl) kp3 ler ?_
         refine dU 3 rfl rfl rfl (y_ld (Says.own (.tail (.tail .head))) Tryz.isAgg3 rfl (Nat.zero_add _).symm rfl) kp3 ler ?_
         refine dU 4 rfl rfl rfl (y_fa0 F26_0 rfl) kp3 ler ?_
         refine dU 5 rfl rfl rfl (y_ld (Says.own (.tail .head)) Tryz.isAgg2 rfl (Nat.zero_add _).symm rfl) kp3 ler ?_
         refine dE 6 (by kernel_rfl) rfl ?_
         refine cl rfl rfl rfl s_number rfl (fun v_ H1 L1 hle hR => ?_)
         obtain ⟨rfl, rfl, rfl⟩ := hR
         refine dN kp3 ler ?_
         have hv_ := hr_
         rw [if_neg (by omega)] at hv_
         refine dU 7 rfl rfl rfl (y_eq rfl rfl) kp3 ler ?_
         refine dU 8 rfl rfl rfl (y_asg rfl) kp3 ler ?_
         refine dD (by kernel_rfl) ?_
         refine Nt ?_
         refine drW .head ?_
         refine drW .head ?_
         refine drW .head ?_
         exact rT rfl rfl ler (fun _ _ h => h) ⟨rfl, congrArg Value.bool (decide_eq_true (toldV_n hv_ (by omega)))⟩
  ·
   refine gr rfl rfl ?_
   refine fa0 F51_0 rfl rfl ?_
   refine gr rfl rfl ?_
   refine ld (Says.own (.tail (.tail .head))) Tryz.isAgg3 rfl (Nat.zero_add _).symm rfl rfl ?_
   refine gr rfl rfl ?_
   refine eq' rfl rfl rfl ?_
   refine pkF rfl rfl rfl rfl ?_
   refine mv rfl rfl ?_
   refine spl (t := 38) rfl (fun h38 => ?_) (fun h38 => ?_)
   ·
    refine gs rfl rfl rfl rfl ?_
    refine pkT rfl rfl rfl rfl ?_
    refine mv rfl rfl ?_
    refine gr rfl rfl ?_
    refine fa0 F26_2 rfl rfl ?_
    refine gr rfl rfl ?_
    refine ld (Says.own .head) Tryz.isAgg4 rfl (Nat.zero_add _).symm rfl rfl ?_
    refine gr rfl rfl ?_
    refine mv rfl rfl ?_
    refine gr rfl rfl ?_
    refine neb2 Tryz.underlying4 rfl rfl (told_nul h (by omega)) rfl ?_
    refine pkT rfl rfl rfl rfl ?_
    refine nl ?_
    refine cF rfl ?_
    refine skt ?_
    refine sq ?_
    refine sr ?_
    refine mv rfl rfl ?_
    refine nl ?_
    refine cbU rfl (fun h47 => ?_) (fun h47 => ?_)
    ·
     refine sr ?_
     refine asg rfl rfl ?_
     refine nl ?_
     refine drW .head ?_
     refine drW .head ?_
     refine drW .head ?_
     exact rT rfl rfl ler (fun _ _ h => h) ⟨rfl, rfl⟩
    ·
     have hr_ := told_rest h h47
     refine skt ?_
     refine sq ?_
     refine sr ?_
     refine fa0 F51_0 rfl rfl ?_
     refine ld (Says.own (.tail (.tail .head))) Tryz.isAgg3 rfl (Nat.zero_add _).symm rfl rfl ?_
     refine nl ?_
     refine bl ?_
     refine sq ?_
     refine sr ?_
     refine eq' rfl rfl rfl ?_
     refine asg rfl rfl ?_
     refine nl ?_
     refine cdU rfl (fun h50 => ?_) (fun h50 => ?_)
     ·
      refine skt ?_
      refine cT rfl ?_
      refine sq ?_
      refine rgD 7 kp3 mixed ?_
      have hv_ := hr_
      rw [if_neg (by omega)] at hv_
      refine dU 0 rfl rfl rfl (y_fa0 F26_1 rfl) kp3 ler ?_
      refine dU 1 rfl rfl rfl (y_ld (Says.own .head) Tryz.isAgg22 rfl (Nat.zero_add _).symm rfl) kp3 ler ?_
      refine dU 2 rfl rfl rfl (y_fa0 F26_1 rfl) kp3 ler ?_
      refine dU 3 rfl rfl rfl (y_ld (Says.own (.tail .head)) Tryz.isAgg22 rfl (Nat.zero_add _).symm rfl) kp3 ler ?_
      refine dE 4 (by kernel_rfl) rfl ?_
      refine cl rfl rfl rfl (s_whole hT.s rfl) rfl (fun v_ H1 L1 hle hR => ?_)
      obtain ⟨rfl, rfl, rfl⟩ := hR
      refine dN kp3 ler ?_
      refine dE 5 (by kernel_rfl) rfl ?_
      have es_ := toldV_s hv_ (by omega)
      refine cl rfl rfl rfl (s_same hG.s (hT.s.take most)) rfl (fun v_ H1 L1 hle hR => ?_)
      rw [decide_eq_true es_] at hR
      obtain ⟨rfl, rfl, rfl⟩ := hR
      refine dN kp3 ler ?_
      refine dU 6 rfl rfl rfl (y_asg rfl) kp3 ler ?_
      refine dD (by kernel_rfl) ?_
      refine Nt ?_
      refine drW .head ?_
      refine drW .head ?_
      refine drW .head ?_
      exact rT rfl rfl ler (fun _ _ h => h) ⟨rfl, rfl⟩
     ·
      refine rg ?_
      refine eq' rfl rfl rfl ?_
      refine asg rfl rfl ?_
      refine nl ?_
      refine cdU rfl (fun h50b => ?_) (fun h50b => ?_)
      ·
       refine sq ?_
       refine rgD 7 kp3 mixed ?_
       have hv_ := hr_
       rw [if_neg (by omega)] at hv_
       refine dU 0 rfl rfl rfl (y_fa0 F26_1 rfl) kp3 ler ?_
       refine dU 1 rfl rfl rfl (y_ld (Says.own .head) Tryz.isAgg22 rfl (Nat.zero_add _).symm rfl) kp3 ler ?_
       refine dU 2 rfl rfl rfl (y_fa0 F26_1 rfl) kp3 ler ?_
       refine dU 3 rfl rfl rfl (y_ld (Says.own (.tail .head)) Tryz.isAgg22 rfl (Nat.zero_add _).symm rfl) kp3 ler ?_
       refine dE 4 (by kernel_rfl) rfl ?_
       refine cl rfl rfl rfl (s_whole hT.s rfl) rfl (fun v_ H1 L1 hle hR => ?_)
       obtain ⟨rfl, rfl, rfl⟩ := hR
       refine dN kp3 ler ?_
       refine dE 5 (by kernel_rfl) rfl ?_
       have es_ := toldV_s hv_ (by omega)
       refine cl rfl rfl rfl (s_same hG.s (hT.s.take most)) rfl (fun v_ H1 L1 hle hR => ?_)
       rw [decide_eq_true es_] at hR
       obtain ⟨rfl, rfl, rfl⟩ := hR
       refine dN kp3 ler ?_
       refine dU 6 rfl rfl rfl (y_asg rfl) kp3 ler ?_
       refine dD (by kernel_rfl) ?_
       refine Nt ?_
       refine drW .head ?_
       refine drW .head ?_
       refine drW .head ?_
       exact rT rfl rfl ler (fun _ _ h => h) ⟨rfl, rfl⟩
      ·
       refine sr ?_
       refine eq' rfl rfl rfl ?_
       refine asg rfl rfl ?_
       refine nl ?_
       refine cdU rfl (fun h59 => ?_) (fun h59 => ?_)
       ·
        refine sr ?_
        refine mks (m := 16) (c := 16) Tryz.underlying22 I5 rfl rfl rfl rfl rfl (by decide) (by decide) (by decide) rfl (fun b_109 N61 r61 => ?_)
        refine asg rfl rfl ?_
        refine nl ?_
        refine sr ?_
        refine mv rfl rfl ?_
        refine fa0 F26_1 rfl rfl ?_
        refine ld (Says.own (.tail (.tail .head))) Tryz.isAgg22 rfl (Nat.zero_add _).symm rfl rfl ?_
        refine cpB Tryz.underlying22 rfl rfl rfl r61 (fun _ => .head) hT.s rfl rfl (fun N65 r65 => ?_)
        rw [row16] at r65
        refine nl ?_
        refine sr ?_
        have hv_ := hr_
        rw [if_neg (by omega)] at hv_
        refine fa0 F26_1 rfl rfl ?_
        refine ld (Says.own (.tail .head)) Tryz.isAgg22 rfl (Nat.zero_add _).symm rfl rfl ?_
        refine mv rfl rfl ?_
        refine frL (show Row 5 1 _ 16 _ (bytesOf (pad16 t.s)) N65 from r65) .head (fun H8 le8 z8 => ?_)
        have y8 := BytesAt.row z8 (show Row 5 1 _ 16 _ (bytesOf (pad16 t.s)) N65 from r65) (by rw [pad16_len]; decide)
        have es_ := toldV_u hv_ (by omega)
        refine cl rfl rfl rfl (s_same' (hG.s.mono le8) y8 rfl (pad16_len _).symm) rfl (fun v_ H1 L1 hle hR => ?_)
        rw [decide_eq_true es_] at hR
        obtain ⟨rfl, rfl, rfl⟩ := hR
        refine asg rfl rfl ?_
        refine nl ?_
        refine drW .head ?_
        refine drW .head ?_
        refine drW .head ?_
        exact rT rfl rfl le8 (fun _ _ h => h) ⟨rfl, rfl⟩
       ·
        refine sr ?_
        refine eq' rfl rfl rfl ?_
        refine asg rfl rfl ?_
        refine nl ?_
        refine cdU rfl (fun h70 => ?_) (fun h70 => ?_)
        ·
         refine sr ?_
         have hv_ := hr_
         rw [if_neg (by omega)] at hv_
         refine fa0 F51_7 rfl rfl ?_
         refine ld (Says.own (.tail (.tail .head))) Tryz.isAgg29 rfl (Nat.zero_add _).symm rfl rfl ?_
         refine mv rfl rfl ?_
         refine mv rfl rfl ?_
         refine la (Says.own (.tail .head)) Tryz.isAgg26 Tryz.sizeOf26 rfl (Nat.zero_add _).symm rfl rfl ?_
         refine la (Says.own .head) Tryz.isAgg26 Tryz.sizeOf26 rfl (Nat.zero_add _).symm rfl rfl ?_
         refine cl rfl rfl rfl (hP hF.sub hT hG (toldV_p hv_ (by omega))) rfl (fun v_ H1 L1 le_110 hR => ?_)
         obtain ⟨rfl, rfl⟩ := hR
         refine asg rfl rfl ?_
         refine nl ?_
         refine drW .head ?_
         refine drW .head ?_
         refine drW .head ?_
         exact rT rfl rfl le_110 (fun _ _ h => h) ⟨rfl, rfl⟩
        ·
         refine sr ?_
         refine eq' rfl rfl rfl ?_
         refine asg rfl rfl ?_
         refine nl ?_
         refine cdU rfl (fun h79 => ?_) (fun h79 => ?_)
         ·
          refine sr ?_
          refine fa0 F26_3 rfl rfl ?_
          refine ld (Says.own (.tail .head)) Tryz.isAgg23 rfl (Nat.zero_add _).symm rfl rfl ?_
          refine cl rfl rfl rfl (s_things hT.l rfl) rfl (fun v_ H1 L1 hle hR => ?_)
          obtain ⟨rfl, rfl, rfl⟩ := hR
          have ha_ := hr_
          rw [if_pos (by omega)] at ha_
          obtain ⟨hlen, hall⟩ := toldAll_at ha_
          have hthl := things_len t
          refine asg rfl rfl ?_
          refine nl ?_
          refine sq ?_
          refine sr ?_
          refine fa0 F26_3 rfl rfl ?_
          refine ld (Says.own .head) Tryz.isAgg23 rfl (Nat.zero_add _).symm rfl rfl ?_
          refine ls Tryz.runUnderlying23 rfl rfl ?_
          refine mv rfl rfl ?_
          refine ls Tryz.runUnderlying23 rfl rfl ?_
          refine ne' rfl rfl rfl ?_
          refine nl ?_
          refine cdU rfl (fun h89 => ?_) (fun h89 => ?_)
          ·
           exfalso
           have hl2 : (t.l.take most).length = g.l.length := hlen
           omega
          ·
           refine skt ?_
           refine sr ?_
           refine la (Says.own (.tail (.tail .head))) Tryz.isAgg51 Tryz.sizeOf51 rfl (Nat.zero_add _).symm rfl rfl ?_
           refine al Tryz.zeroValue51 rfl rfl (fun b_111 => ?_)
           refine sa Tryz.sizeOf51 rfl rfl rfl rfl rfl .head ?_
           refine nl ?_
           refine sr ?_
           refine fa0 F51_6 rfl rfl ?_
           refine ld (Says.own (.tail (.tail (.tail .head)))) Tryz.isAgg3 rfl (Nat.zero_add _).symm rfl rfl ?_
           refine fa0 F51_0 rfl rfl ?_
           refine st Tryz.sizeOf3 rfl rfl rfl rfl .head ?_
           refine fa0 F51_3 rfl rfl ?_
           refine st Tryz.sizeOf3 rfl rfl rfl rfl .head ?_
           refine fa0 F51_4 rfl rfl ?_
           refine st Tryz.sizeOf3 rfl rfl rfl rfl .head ?_
           refine nl ?_
           refine sq ?_
           refine sr ?_
           refine mv rfl rfl ?_
           refine ls Tryz.runUnderlying23 rfl rfl ?_
           refine mv rfl rfl ?_
           refine nl ?_
           refine capL (fun F_114 hF_114 => ?_)
           refine fr ((t.l.take most).length) (fun k l' H' L' => [(1, .int .i64 v), (2, .bool flex), (9, .pointer (some ⟨b_3, 0, none⟩)), (14, .slice c.la (t.l.take most).length c.lc), (15, .pointer (some ⟨b_111, 0, none⟩)), (97, .int .i64 ((t.l.take most).length : Int))] = l' ∧ F_114 = L') [(1, .int .i64 v), (2, .bool flex), (9, .pointer (some ⟨b_3, 0, none⟩)), (14, .slice c.la (t.l.take most).length c.lc), (15, .pointer (some ⟨b_111, 0, none⟩)), (97, .int .i64 ((t.l.take most).length : Int))] (fun k l' H' L' h => ?_) (by have : (t.l.take most).length ≤ 32767 := hthl; omega) rfl (.of ⟨rfl, rfl, rfl, rfl, rfl, rfl, trivial⟩) ⟨rfl, rfl⟩ rfl rfl rfl rfl rfl (fun k l' H' L' hk le_112 hI => ?_) (fun l' H' L' le_113 hI => ?_)
           · obtain ⟨rfl, _⟩ := h; exact ⟨rfl, rfl, rfl, rfl⟩
           ·
            obtain ⟨rfl, rfl⟩ := hI
            subst hF_114
            refine sr ?_
            refine mv rfl rfl ?_
            refine asg rfl rfl ?_
            refine nl ?_
            refine sq ?_
            refine rgD 14 kp4 mixed ?_
            refine dU 0 rfl rfl rfl (y_la (Says.own .head) Tryz.isAgg51 Tryz.sizeOf51 rfl (Nat.zero_add _).symm rfl) kp4 ler ?_
            refine dU 1 rfl rfl rfl (y_mv rfl) kp4 ler ?_
            refine dU 2 rfl rfl rfl (y_mv rfl) kp4 ler ?_
            refine dU 3 rfl rfl rfl (y_mv rfl) kp4 ler ?_
            refine dU 4 rfl rfl rfl (y_mv rfl) kp4 ler ?_
            obtain ⟨b_115, o_116, e_117, g_118⟩ := ((hT.l.take most).mono le_112).at_ (ne_nil_of_lt hk)
            obtain ⟨c_119, q_120, q_121⟩ := g_118 k hk
            refine dU 5 rfl rfl rfl (y_ix2 Tryz.runUnderlying23 Tryz.sizeOf26 rfl e_117 rfl rfl hk) kp4 ler ?_
            refine dU 6 rfl rfl rfl (y_la (Says.fz q_120) Tryz.isAgg26 Tryz.sizeOf26 rfl (Nat.add_zero _).symm rfl) kp4 ler ?_
            refine dU 7 rfl rfl rfl (y_fa0 F26_3 rfl) kp4 ler ?_
            refine dU 8 rfl rfl rfl (y_ld (Says.own (.tail .head)) Tryz.isAgg23 rfl (Nat.zero_add _).symm rfl) kp4 ler ?_
            refine dU 9 rfl rfl rfl (y_mv rfl) kp4 ler ?_
            obtain ⟨b_122, o_123, e_124, g_125⟩ := (hG.l.mono le_112).at_ (ne_nil_of_lt (show k < g.l.length from hlen ▸ hk))
            obtain ⟨c_126, q_127, q_128⟩ := g_125 k (show k < g.l.length from hlen ▸ hk)
            refine dU 10 rfl rfl rfl (y_ix2 Tryz.runUnderlying23 Tryz.sizeOf26 rfl e_124 rfl rfl (show k < g.l.length from hlen ▸ hk)) kp4 ler ?_
            refine dU 11 rfl rfl rfl (y_la (Says.fz q_127) Tryz.isAgg26 Tryz.sizeOf26 rfl (Nat.add_zero _).symm rfl) kp4 ler ?_
            refine dE 12 (by kernel_rfl) rfl ?_
            refine cl rfl rfl rfl (hL (by omega) (FdAt.of ⟨show (-1 : Int) ≤ 1000 by decide, ho (by omega)⟩ (hF.sub.mono le_112)) q_121 q_128 (toldE_F (hall k hk (hlen ▸ hk)) (ho (by omega)))) rfl (fun v_ H1 L1 le_129 hR => ?_)
            obtain ⟨rfl, rfl⟩ := hR
            refine dN kp4 le_129 ?_
            refine dU 13 rfl rfl rfl (y_nt rfl) kp4 le_129 ?_
            refine dD (by kernel_rfl) ?_
            refine Nt ?_
            refine cF rfl ?_
            refine skN ?_
            refine Nb ?_
            refine fun a w hA hw => ⟨_, _, _, hA.sub ?_, (le_112.trans le_129), hw, _, rfl, rfl, rfl⟩
            exact (.of ⟨rfl, rfl, rfl, rfl, rfl, rfl, rfl, trivial⟩)
           ·
            obtain ⟨rfl, rfl⟩ := hI
            subst hF_114
            refine toWp ?_
            refine sr ?_
            refine asg rfl rfl ?_
            refine nl ?_
            refine drW .head ?_
            refine drW .head ?_
            refine drW .head ?_
            refine drW .head ?_
            exact rT rfl rfl le_113 (fun _ _ h => h) ⟨rfl, rfl⟩
         ·
          refine skN ?_
          refine Nb ?_
          refine Nt ?_
          refine sq ?_
          refine rgD 9 kp3 mixed ?_
          refine dU 0 rfl rfl rfl (y_fa0 F26_0 rfl) kp3 ler ?_
          refine dU 1 rfl rfl rfl (y_ld (Says.own .head) Tryz.isAgg2 rfl (Nat.zero_add _).symm rfl) kp3 ler ?_
          refine dU 2 rfl rfl rfl (y_fa0 F51_0 rfl) kp3 ler ?_
          refine dU 3 rfl rfl rfl (y_ld (Says.own (.tail (.tail .head))) Tryz.isAgg3 rfl (Nat.zero_add _).symm rfl) kp3 ler ?_
          refine dU 4 rfl rfl rfl (y_fa0 F26_0 rfl) kp3 ler ?_
          refine dU 5 rfl rfl rfl (y_ld (Says.own (.tail .head)) Tryz.isAgg2 rfl (Nat.zero_add _).symm rfl) kp3 ler ?_
          refine dE 6 (by kernel_rfl) rfl ?_
          refine cl rfl rfl rfl s_number rfl (fun v_ H1 L1 hle hR => ?_)
          obtain ⟨rfl, rfl, rfl⟩ := hR
          refine dN kp3 ler ?_
          have hv_ := hr_
          rw [if_neg (by omega)] at hv_
          refine dU 7 rfl rfl rfl (y_eq rfl rfl) kp3 ler ?_
          refine dU 8 rfl rfl rfl (y_asg rfl) kp3 ler ?_
          refine dD (by kernel_rfl) ?_
          refine Nt ?_
          refine drW .head ?_
          refine drW .head ?_
          refine drW .head ?_
          exact rT rfl rfl ler (fun _ _ h => h) ⟨rfl, congrArg Value.bool (decide_eq_true (toldV_n hv_ (by omega)))⟩
   ·
    refine gr rfl rfl ?_
    refine mv rfl rfl ?_
    refine pkF rfl rfl rfl rfl ?_
    refine mv rfl rfl ?_
    refine gs rfl rfl rfl rfl ?_
    refine gs rfl rfl rfl rfl ?_
    refine gs rfl rfl rfl rfl ?_
    refine gs rfl rfl rfl rfl ?_
    refine pkF rfl rfl rfl rfl ?_
    refine nl ?_
    refine cF rfl ?_
    refine skt ?_
    refine sq ?_
    refine sr ?_
    refine mv rfl rfl ?_
    refine nl ?_
    refine cbU rfl (fun h47 => ?_) (fun h47 => ?_)
    ·
     refine sr ?_
     refine asg rfl rfl ?_
     refine nl ?_
     refine drW .head ?_
     refine drW .head ?_
     refine drW .head ?_
     exact rT rfl rfl ler (fun _ _ h => h) ⟨rfl, rfl⟩
    ·
     have hr_ := told_rest h h47
     refine skt ?_
     refine sq ?_
     refine sr ?_
     refine fa0 F51_0 rfl rfl ?_
     refine ld (Says.own (.tail (.tail .head))) Tryz.isAgg3 rfl (Nat.zero_add _).symm rfl rfl ?_
     refine nl ?_
     refine bl ?_
     refine sq ?_
     refine sr ?_
     refine eq' rfl rfl rfl ?_
     refine asg rfl rfl ?_
     refine nl ?_
     refine cdU rfl (fun h50 => ?_) (fun h50 => ?_)
     ·
      refine skt ?_
      refine cT rfl ?_
      refine sq ?_
      refine rgD 7 kp3 mixed ?_
      have hv_ := hr_
      rw [if_neg (by omega)] at hv_
      refine dU 0 rfl rfl rfl (y_fa0 F26_1 rfl) kp3 ler ?_
      refine dU 1 rfl rfl rfl (y_ld (Says.own .head) Tryz.isAgg22 rfl (Nat.zero_add _).symm rfl) kp3 ler ?_
      refine dU 2 rfl rfl rfl (y_fa0 F26_1 rfl) kp3 ler ?_
      refine dU 3 rfl rfl rfl (y_ld (Says.own (.tail .head)) Tryz.isAgg22 rfl (Nat.zero_add _).symm rfl) kp3 ler ?_
      refine dE 4 (by kernel_rfl) rfl ?_
      refine cl rfl rfl rfl (s_whole hT.s rfl) rfl (fun v_ H1 L1 hle hR => ?_)
      obtain ⟨rfl, rfl, rfl⟩ := hR
      refine dN kp3 ler ?_
      refine dE 5 (by kernel_rfl) rfl ?_
      have es_ := toldV_s hv_ (by omega)
      refine cl rfl rfl rfl (s_same hG.s (hT.s.take most)) rfl (fun v_ H1 L1 hle hR => ?_)
      rw [decide_eq_true es_] at hR
      obtain ⟨rfl, rfl, rfl⟩ := hR
      refine dN kp3 ler ?_
      refine dU 6 rfl rfl rfl (y_asg rfl) kp3 ler ?_
      refine dD (by kernel_rfl) ?_
      refine Nt ?_
      refine drW .head ?_
      refine drW .head ?_
      refine drW .head ?_
      exact rT rfl rfl ler (fun _ _ h => h) ⟨rfl, rfl⟩
     ·
      refine rg ?_
      refine eq' rfl rfl rfl ?_
      refine asg rfl rfl ?_
      refine nl ?_
      refine cdU rfl (fun h50b => ?_) (fun h50b => ?_)
      ·
       refine sq ?_
       refine rgD 7 kp3 mixed ?_
       have hv_ := hr_
       rw [if_neg (by omega)] at hv_
       refine dU 0 rfl rfl rfl (y_fa0 F26_1 rfl) kp3 ler ?_
       refine dU 1 rfl rfl rfl (y_ld (Says.own .head) Tryz.isAgg22 rfl (Nat.zero_add _).symm rfl) kp3 ler ?_
       refine dU 2 rfl rfl rfl (y_fa0 F26_1 rfl) kp3 ler ?_
       refine dU 3 rfl rfl rfl (y_ld (Says.own (.tail .head)) Tryz.isAgg22 rfl (Nat.zero_add _).symm rfl) kp3 ler ?_
       refine dE 4 (by kernel_rfl) rfl ?_
       refine cl rfl rfl rfl (s_whole hT.s rfl) rfl (fun v_ H1 L1 hle hR => ?_)
       obtain ⟨rfl, rfl, rfl⟩ := hR
       refine dN kp3 ler ?_
       refine dE 5 (by kernel_rfl) rfl ?_
       have es_ := toldV_s hv_ (by omega)
       refine cl rfl rfl rfl (s_same hG.s (hT.s.take most)) rfl (fun v_ H1 L1 hle hR => ?_)
       rw [decide_eq_true es_] at hR
       obtain ⟨rfl, rfl, rfl⟩ := hR
       refine dN kp3 ler ?_
       refine dU 6 rfl rfl rfl (y_asg rfl) kp3 ler ?_
       refine dD (by kernel_rfl) ?_
       refine Nt ?_
       refine drW .head ?_
       refine drW .head ?_
       refine drW .head ?_
       exact rT rfl rfl ler (fun _ _ h => h) ⟨rfl, rfl⟩
      ·
       refine sr ?_
       refine eq' rfl rfl rfl ?_
       refine asg rfl rfl ?_
       refine nl ?_
       refine cdU rfl (fun h59 => ?_) (fun h59 => ?_)
       ·
        refine sr ?_
        refine mks (m := 16) (c := 16) Tryz.underlying22 I5 rfl rfl rfl rfl rfl (by decide) (by decide) (by decide) rfl (fun b_130 N61 r61 => ?_)
        refine asg rfl rfl ?_
        refine nl ?_
        refine sr ?_
        refine mv rfl rfl ?_
        refine fa0 F26_1 rfl rfl ?_
        refine ld (Says.own (.tail (.tail .head))) Tryz.isAgg22 rfl (Nat.zero_add _).symm rfl rfl ?_
        refine cpB Tryz.underlying22 rfl rfl rfl r61 (fun _ => .head) hT.s rfl rfl (fun N65 r65 => ?_)
        rw [row16] at r65
        refine nl ?_
        refine sr ?_
        have hv_ := hr_
        rw [if_neg (by omega)] at hv_
        refine fa0 F26_1 rfl rfl ?_
        refine ld (Says.own (.tail .head)) Tryz.isAgg22 rfl (Nat.zero_add _).symm rfl rfl ?_
        refine mv rfl rfl ?_
        refine frL (show Row 5 1 _ 16 _ (bytesOf (pad16 t.s)) N65 from r65) .head (fun H8 le8 z8 => ?_)
        have y8 := BytesAt.row z8 (show Row 5 1 _ 16 _ (bytesOf (pad16 t.s)) N65 from r65) (by rw [pad16_len]; decide)
        have es_ := toldV_u hv_ (by omega)
        refine cl rfl rfl rfl (s_same' (hG.s.mono le8) y8 rfl (pad16_len _).symm) rfl (fun v_ H1 L1 hle hR => ?_)
        rw [decide_eq_true es_] at hR
        obtain ⟨rfl, rfl, rfl⟩ := hR
        refine asg rfl rfl ?_
        refine nl ?_
        refine drW .head ?_
        refine drW .head ?_
        refine drW .head ?_
        exact rT rfl rfl le8 (fun _ _ h => h) ⟨rfl, rfl⟩
       ·
        refine sr ?_
        refine eq' rfl rfl rfl ?_
        refine asg rfl rfl ?_
        refine nl ?_
        refine cdU rfl (fun h70 => ?_) (fun h70 => ?_)
        ·
         refine sr ?_
         have hv_ := hr_
         rw [if_neg (by omega)] at hv_
         refine fa0 F51_7 rfl rfl ?_
         refine ld (Says.own (.tail (.tail .head))) Tryz.isAgg29 rfl (Nat.zero_add _).symm rfl rfl ?_
         refine mv rfl rfl ?_
         refine mv rfl rfl ?_
         refine la (Says.own (.tail .head)) Tryz.isAgg26 Tryz.sizeOf26 rfl (Nat.zero_add _).symm rfl rfl ?_
         refine la (Says.own .head) Tryz.isAgg26 Tryz.sizeOf26 rfl (Nat.zero_add _).symm rfl rfl ?_
         refine cl rfl rfl rfl (hP hF.sub hT hG (toldV_p hv_ (by omega))) rfl (fun v_ H1 L1 le_131 hR => ?_)
         obtain ⟨rfl, rfl⟩ := hR
         refine asg rfl rfl ?_
         refine nl ?_
         refine drW .head ?_
         refine drW .head ?_
         refine drW .head ?_
         exact rT rfl rfl le_131 (fun _ _ h => h) ⟨rfl, rfl⟩
        ·
         refine sr ?_
         refine eq' rfl rfl rfl ?_
         refine asg rfl rfl ?_
         refine nl ?_
         refine cdU rfl (fun h79 => ?_) (fun h79 => ?_)
         ·
          refine sr ?_
          refine fa0 F26_3 rfl rfl ?_
          refine ld (Says.own (.tail .head)) Tryz.isAgg23 rfl (Nat.zero_add _).symm rfl rfl ?_
          refine cl rfl rfl rfl (s_things hT.l rfl) rfl (fun v_ H1 L1 hle hR => ?_)
          obtain ⟨rfl, rfl, rfl⟩ := hR
          have ha_ := hr_
          rw [if_pos (by omega)] at ha_
          obtain ⟨hlen, hall⟩ := toldAll_at ha_
          have hthl := things_len t
          refine asg rfl rfl ?_
          refine nl ?_
          refine sq ?_
          refine sr ?_
          refine fa0 F26_3 rfl rfl ?_
          refine ld (Says.own .head) Tryz.isAgg23 rfl (Nat.zero_add _).symm rfl rfl ?_
          refine ls Tryz.runUnderlying23 rfl rfl ?_
          refine mv rfl rfl ?_
          refine ls Tryz.runUnderlying23 rfl rfl ?_
          refine ne' rfl rfl rfl ?_
          refine nl ?_
          refine cdU rfl (fun h89 => ?_) (fun h89 => ?_)
          ·
           exfalso
           have hl2 : (t.l.take most).length = g.l.length := hlen
           omega
          ·
           refine skt ?_
           refine sr ?_
           refine la (Says.own (.tail (.tail .head))) Tryz.isAgg51 Tryz.sizeOf51 rfl (Nat.zero_add _).symm rfl rfl ?_
           refine al Tryz.zeroValue51 rfl rfl (fun b_132 => ?_)
           refine sa Tryz.sizeOf51 rfl rfl rfl rfl rfl .head ?_
           refine nl ?_
           refine sr ?_
           refine fa0 F51_6 rfl rfl ?_
           refine ld (Says.own (.tail (.tail (.tail .head)))) Tryz.isAgg3 rfl (Nat.zero_add _).symm rfl rfl ?_
           refine fa0 F51_0 rfl rfl ?_
           refine st Tryz.sizeOf3 rfl rfl rfl rfl .head ?_
           refine fa0 F51_3 rfl rfl ?_
           refine st Tryz.sizeOf3 rfl rfl rfl rfl .head ?_
           refine fa0 F51_4 rfl rfl ?_
           refine st Tryz.sizeOf3 rfl rfl rfl rfl .head ?_
           refine nl ?_
           refine sq ?_
           refine sr ?_
           refine mv rfl rfl ?_
           refine ls Tryz.runUnderlying23 rfl rfl ?_
           refine mv rfl rfl ?_
           refine nl ?_
           refine capL (fun F_135 hF_135 => ?_)
           refine fr ((t.l.take most).length) (fun k l' H' L' => [(1, .int .i64 v), (2, .bool flex), (9, .pointer (some ⟨b_3, 0, none⟩)), (14, .slice c.la (t.l.take most).length c.lc), (15, .pointer (some ⟨b_132, 0, none⟩)), (97, .int .i64 ((t.l.take most).length : Int))] = l' ∧ F_135 = L') [(1, .int .i64 v), (2, .bool flex), (9, .pointer (some ⟨b_3, 0, none⟩)), (14, .slice c.la (t.l.take most).length c.lc), (15, .pointer (some ⟨b_132, 0, none⟩)), (97, .int .i64 ((t.l.take most).length : Int))] (fun k l' H' L' h => ?_) (by have : (t.l.take most).length ≤ 32767 := hthl; omega) rfl (.of ⟨rfl, rfl, rfl, rfl, rfl, rfl, trivial⟩) ⟨rfl, rfl⟩ rfl rfl rfl rfl rfl (fun k l' H' L' hk le_133 hI => ?_) (fun l' H' L' le_134 hI => ?_)
           · obtain ⟨rfl, _⟩ := h; exact ⟨rfl, rfl, rfl, rfl⟩
           ·
            obtain ⟨rfl, rfl⟩ := hI
            subst hF_135
            refine sr ?_
            refine mv rfl rfl ?_
            refine asg rfl rfl ?_
            refine nl ?_
            refine sq ?_
            refine rgD 14 kp4 mixed ?_
            refine dU 0 rfl rfl rfl (y_la (Says.own .head) Tryz.isAgg51 Tryz.sizeOf51 rfl (Nat.zero_add _).symm rfl) kp4 ler ?_
            refine dU 1 rfl rfl rfl (y_mv rfl) kp4 ler ?_
            refine dU 2 rfl rfl rfl (y_mv rfl) kp4 ler ?_
            refine dU 3 rfl rfl rfl (y_mv rfl) kp4 ler ?_
            refine dU 4 rfl rfl rfl (y_mv rfl) kp4 ler ?_
            obtain ⟨b_136, o_137, e_138, g_139⟩ := ((hT.l.take most).mono le_133).at_ (ne_nil_of_lt hk)
            obtain ⟨c_140, q_141, q_142⟩ := g_139 k hk
            refine dU 5 rfl rfl rfl (y_ix2 Tryz.runUnderlying23 Tryz.sizeOf26 rfl e_138 rfl rfl hk) kp4 ler ?_
            refine dU 6 rfl rfl rfl (y_la (Says.fz q_141) Tryz.isAgg26 Tryz.sizeOf26 rfl (Nat.add_zero _).symm rfl) kp4 ler ?_
            refine dU 7 rfl rfl rfl (y_fa0 F26_3 rfl) kp4 ler ?_
            refine dU 8 rfl rfl rfl (y_ld (Says.own (.tail .head)) Tryz.isAgg23 rfl (Nat.zero_add _).symm rfl) kp4 ler ?_
            refine dU 9 rfl rfl rfl (y_mv rfl) kp4 ler ?_
            obtain ⟨b_143, o_144, e_145, g_146⟩ := (hG.l.mono le_133).at_ (ne_nil_of_lt (show k < g.l.length from hlen ▸ hk))
            obtain ⟨c_147, q_148, q_149⟩ := g_146 k (show k < g.l.length from hlen ▸ hk)
            refine dU 10 rfl rfl rfl (y_ix2 Tryz.runUnderlying23 Tryz.sizeOf26 rfl e_145 rfl rfl (show k < g.l.length from hlen ▸ hk)) kp4 ler ?_
            refine dU 11 rfl rfl rfl (y_la (Says.fz q_148) Tryz.isAgg26 Tryz.sizeOf26 rfl (Nat.add_zero _).symm rfl) kp4 ler ?_
            refine dE 12 (by kernel_rfl) rfl ?_
            refine cl rfl rfl rfl (hL (by omega) (FdAt.of ⟨show (-1 : Int) ≤ 1000 by decide, ho (by omega)⟩ (hF.sub.mono le_133)) q_142 q_149 (toldE_F (hall k hk (hlen ▸ hk)) (ho (by omega)))) rfl (fun v_ H1 L1 le_150 hR => ?_)
            obtain ⟨rfl, rfl⟩ := hR
            refine dN kp4 le_150 ?_
            refine dU 13 rfl rfl rfl (y_nt rfl) kp4 le_150 ?_
            refine dD (by kernel_rfl) ?_
            refine Nt ?_
            refine cF rfl ?_
            refine skN ?_
            refine Nb ?_
            refine fun a w hA hw => ⟨_, _, _, hA.sub ?_, (le_133.trans le_150), hw, _, rfl, rfl, rfl⟩
            exact (.of ⟨rfl, rfl, rfl, rfl, rfl, rfl, rfl, trivial⟩)
           ·
            obtain ⟨rfl, rfl⟩ := hI
            subst hF_135
            refine toWp ?_
            refine sr ?_
            refine asg rfl rfl ?_
            refine nl ?_
            refine drW .head ?_
            refine drW .head ?_
            refine drW .head ?_
            refine drW .head ?_
            exact rT rfl rfl le_134 (fun _ _ h => h) ⟨rfl, rfl⟩
         ·
          refine skN ?_
          refine Nb ?_
          refine Nt ?_
          refine sq ?_
          refine rgD 9 kp3 mixed ?_
          refine dU 0 rfl rfl rfl (y_fa0 F26_0 rfl) kp3 ler ?_
          refine dU 1 rfl rfl rfl (y_ld (Says.own .head) Tryz.isAgg2 rfl (Nat.zero_add _).symm rfl) kp3 ler ?_
          refine dU 2 rfl rfl rfl (y_fa0 F51_0 rfl) kp3 ler ?_
          refine dU 3 rfl rfl rfl (y_ld (Says.own (.tail (.tail .head))) Tryz.isAgg3 rfl (Nat.zero_add _).symm rfl) kp3 ler ?_
          refine dU 4 rfl rfl rfl (y_fa0 F26_0 rfl) kp3 ler ?_
          refine dU 5 rfl rfl rfl (y_ld (Says.own (.tail .head)) Tryz.isAgg2 rfl (Nat.zero_add _).symm rfl) kp3 ler ?_
          refine dE 6 (by kernel_rfl) rfl ?_
          refine cl rfl rfl rfl s_number rfl (fun v_ H1 L1 hle hR => ?_)
          obtain ⟨rfl, rfl, rfl⟩ := hR
          refine dN kp3 ler ?_
          have hv_ := hr_
          rw [if_neg (by omega)] at hv_
          refine dU 7 rfl rfl rfl (y_eq rfl rfl) kp3 ler ?_
          refine dU 8 rfl rfl rfl (y_asg rfl) kp3 ler ?_
          refine dD (by kernel_rfl) ?_
          refine Nt ?_
          refine drW .head ?_
          refine drW .head ?_
          refine drW .head ?_
          exact rT rfl rfl ler (fun _ _ h => h) ⟨rfl, congrArg Value.bool (decide_eq_true (toldV_n hv_ (by omega)))⟩
end Go.Sx
