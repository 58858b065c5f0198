import Derived.Test.YtpcgaheplmiglaaGreatS1
import Derived.Test.YtpcgaheplmiglaaGreatLibD
import Derived.KernelRfl
set_option linter.unusedVariables false
set_option linter.unusedSimpArgs false
set_option maxRecDepth 100000
set_option maxHeartbeats 20000000
namespace Go.Sx
open Go.Proofs
theorem s_same' {H : Fz} {L : Own} {a a' : Option Addr} {c c' m m' : Nat} {s t : List UInt8} (h1 : BytesAt H a c s) (h2 : BytesAt H a' c' t) (hm : m = s.length) (hm' : m' = t.length) : Fn Tryz.prog 8 [.slice a m c, .slice a' m' c'] H L (fun v H' L' => H = H' ∧ L = L' ∧ v = .bool (decide (s = t))) := by subst hm hm'; exact s_same h1 h2
theorem s_usual (f : Fd) : ∀ {H : Fz} {L : Own} {c : FC} {e : TC} {t : Tr} (hF : FdAt H c f) (hT : TreeAt H e t),
  Fn Tryz.prog 64 [.agg (c.cells f).toArray, .agg (e.cells t).toArray] H L (fun v H' L' => L = L' ∧ v = .bool (fieldU f t)) := by
 induction hsz : SizeOf.sizeOf f using Nat.strongRecOn generalizing f with
 | _ sz ih0 =>
 have ih : ∀ g, SizeOf.sizeOf g < SizeOf.sizeOf f → ∀ {H : Fz} {L : Own} {c : FC} {e : TC} {t : Tr} (hF : FdAt H c g) (hT : TreeAt H e t), Fn Tryz.prog 64 [.agg (c.cells g).toArray, .agg (e.cells t).toArray] H L (fun v H' L' => L = L' ∧ v = .bool (fieldU g t)) := fun g hg => ih0 _ (by omega) g rfl
 intro H L c e t hF hT
 refine Fn.mk Tryz.call64 Tryz.func64 rfl Tryz.ntmps64 rfl ?_
 refine sr ?_
 refine bx rfl rfl rfl (fun b_1 => ?_)
 refine bx rfl rfl rfl (fun b_2 => ?_)
 refine asg rfl rfl ?_
 refine nl ?_
 refine sq ?_
 refine sr ?_
 refine fa0 F50_0 rfl rfl ?_
 refine ld (Says.own (.tail .head)) Tryz.isAgg3 rfl (Nat.zero_add _).symm rfl rfl ?_
 refine nl ?_
 refine bl ?_
 refine sr ?_
 refine eq' rfl rfl rfl ?_
 refine asg rfl rfl ?_
 refine nl ?_
 refine cdU rfl (fun h11 => ?_) (fun h11 => ?_)
 ·
  refine sr ?_
  refine fa0 F26_0 rfl rfl ?_
  refine ld (Says.own .head) Tryz.isAgg2 rfl (Nat.zero_add _).symm rfl rfl ?_
  refine an rfl rfl (and1_i64 _) rfl ?_
  refine fa0 F50_5 rfl rfl ?_
  refine ld (Says.own (.tail .head)) Tryz.isAgg2 rfl (Nat.zero_add _).symm rfl rfl ?_
  refine eq' rfl rfl rfl ?_
  refine asg rfl rfl ?_
  refine nl ?_
  refine drW .head ?_
  refine drW .head ?_
  exact rT rfl rfl ler (fun _ _ h => h) ⟨rfl, by rw [fieldU_eq]; unfold usual'; rw [if_pos h11]⟩
 ·
  refine sr ?_
  refine eq' rfl rfl rfl ?_
  refine asg rfl rfl ?_
  refine nl ?_
  refine cdU rfl (fun h19 => ?_) (fun h19 => ?_)
  ·
   refine sq ?_
   refine sr ?_
   refine fa0 F26_1 rfl rfl ?_
   refine ld (Says.own .head) Tryz.isAgg22 rfl (Nat.zero_add _).symm rfl rfl ?_
   refine ls Tryz.runUnderlying22 rfl rfl ?_
   refine mv rfl rfl ?_
   refine nl ?_
   refine capL (fun F_5 hF_5 => ?_)
   refine fr (t.s.length) (fun k l' H' L' => [(2, .pointer (some ⟨b_1, 0, none⟩)), (3, .pointer (some ⟨b_2, 0, none⟩)), (22, .slice e.sa t.s.length e.sc), (23, .int .i64 (t.s.length : Int))] = l' ∧ H = H' ∧ F_5 = L' ∧ (∀ j (hj : j < t.s.length), j < k → j < 16 → t.s[j] = 0)) [(2, .pointer (some ⟨b_1, 0, none⟩)), (3, .pointer (some ⟨b_2, 0, none⟩)), (22, .slice e.sa t.s.length e.sc), (23, .int .i64 (t.s.length : Int))] (fun k l' H' L' h => ?_) (by have := hT.s.len; omega) rfl (.of ⟨rfl, rfl, rfl, rfl, trivial⟩) ⟨rfl, rfl, rfl, (fun j hj h => by omega)⟩ rfl rfl rfl rfl rfl (fun k l' H' L' hk le_3 hI => ?_) (fun l' H' L' le_4 hI => ?_)
   · obtain ⟨rfl, _⟩ := h; exact ⟨rfl, rfl, rfl, rfl⟩
   ·
    obtain ⟨rfl, rfl, rfl, pk0⟩ := hI
    subst hF_5
    refine sr ?_
    refine mv rfl rfl ?_
    obtain ⟨b_6, o_7, e_8, q_9⟩ := hT.s.at_ (ne_nil_of_lt hk)
    refine ix2 Tryz.runUnderlying22 Tryz.sizeOf5 rfl e_8 rfl rfl hk rfl ?_
    refine ld (Says.fz q_9) Tryz.isAgg5 rfl (by omega) (bytesOf_nth hk) rfl ?_
    refine asg rfl rfl ?_
    refine asg rfl rfl ?_
    refine nl ?_
    refine sr ?_
    refine mv rfl rfl ?_
    refine lt rfl rfl rfl ?_
    refine mv rfl rfl ?_
    refine spl (t := 31) rfl (fun h31 => ?_) (fun h31 => ?_)
    ·
     refine gr rfl rfl ?_
     refine mv rfl rfl ?_
     refine gr rfl rfl ?_
     refine ne' rfl rfl rfl ?_
     refine pk rfl rfl rfl rfl ?_
     refine nl ?_
     refine cdU rfl (fun h34 => ?_) (fun h34 => ?_)
     ·
      refine sr ?_
      refine asg rfl rfl ?_
      refine nl ?_
      refine drW .head ?_
      refine drW .head ?_
      exact rT rfl rfl ler (fun _ _ h => h) ⟨rfl, by rw [fieldU_eq]; unfold usual'; rw [if_neg h11, if_pos h19, u7_false hk (by omega) h34]⟩
     ·
      refine skN ?_
      refine Nb ?_
      refine fun a w hA hw => ⟨_, _, _, hA.sub ?_, ler, hw, _, rfl, rfl, rfl, rfl, (fun j hj h h16 => if e : j = k then (by subst e; exact u8_zero h34) else pk0 j hj (by omega) h16)⟩
      exact (.of ⟨rfl, rfl, rfl, rfl, rfl, trivial⟩)
    ·
     refine gs rfl rfl rfl rfl ?_
     refine gs rfl rfl rfl rfl ?_
     refine pk rfl rfl rfl rfl ?_
     refine nl ?_
     refine cF rfl ?_
     refine skN ?_
     refine Nb ?_
     refine fun a w hA hw => ⟨_, _, _, hA.sub ?_, ler, hw, _, rfl, rfl, rfl, rfl, (fun j hj h h16 => if e : j = k then (by subst e; omega) else pk0 j hj (by omega) h16)⟩
     exact (.of ⟨rfl, rfl, rfl, rfl, rfl, trivial⟩)
   ·
    obtain ⟨rfl, rfl, rfl, pk0⟩ := hI
    subst hF_5
    refine toWp ?_
    refine sr ?_
    refine asg rfl rfl ?_
    refine nl ?_
    refine drW .head ?_
    refine drW .head ?_
    exact rT rfl rfl ler (fun _ _ h => h) ⟨rfl, by rw [fieldU_eq]; unfold usual'; rw [if_neg h11, if_pos h19, u7_true pk0]⟩
  ·
   refine sq ?_
   refine sr ?_
   refine eq' rfl rfl rfl ?_
   refine asg rfl rfl ?_
   refine nl ?_
   refine cdU rfl (fun h36 => ?_) (fun h36 => ?_)
   ·
    refine skt ?_
    refine cT rfl ?_
    refine sq ?_
    refine sr ?_
    refine fa0 F50_3 rfl rfl ?_
    refine ld (Says.own (.tail .head)) Tryz.isAgg3 rfl (Nat.zero_add _).symm rfl rfl ?_
    refine ge rfl rfl rfl ?_
    refine nl ?_
    refine cdU rfl (fun h41 => ?_) (fun h41 => ?_)
    ·
     refine sr ?_
     refine fa0 F26_2 rfl rfl ?_
     refine ld (Says.own .head) Tryz.isAgg4 rfl (Nat.zero_add _).symm rfl rfl ?_
     refine asg rfl rfl ?_
     refine nl ?_
     refine drW .head ?_
     refine drW .head ?_
     exact rT rfl rfl ler (fun _ _ h => h) ⟨rfl, by rw [fieldU_eq]; unfold usual'; rw [if_neg h11, if_neg h19, if_pos (Or.inl h36), if_pos h41]⟩
    ·
     refine skt ?_
     refine sr ?_
     refine fa0 F26_1 rfl rfl ?_
     refine ld (Says.own .head) Tryz.isAgg22 rfl (Nat.zero_add _).symm rfl rfl ?_
     refine ls Tryz.runUnderlying22 rfl rfl ?_
     refine eq' rfl rfl rfl ?_
     refine asg rfl rfl ?_
     refine nl ?_
     refine drW .head ?_
     refine drW .head ?_
     exact rT rfl rfl ler (fun _ _ h => h) ⟨rfl, by rw [fieldU_eq]; unfold usual'; rw [if_neg h11, if_neg h19, if_pos (Or.inl h36), if_neg h41, len_zero]⟩
   ·
    refine rg ?_
    refine eq' rfl rfl rfl ?_
    refine asg rfl rfl ?_
    refine nl ?_
    refine cdU rfl (fun h36b => ?_) (fun h36b => ?_)
    ·
     refine sq ?_
     refine sr ?_
     refine fa0 F50_3 rfl rfl ?_
     refine ld (Says.own (.tail .head)) Tryz.isAgg3 rfl (Nat.zero_add _).symm rfl rfl ?_
     refine ge rfl rfl rfl ?_
     refine nl ?_
     refine cdU rfl (fun h41 => ?_) (fun h41 => ?_)
     ·
      refine sr ?_
      refine fa0 F26_2 rfl rfl ?_
      refine ld (Says.own .head) Tryz.isAgg4 rfl (Nat.zero_add _).symm rfl rfl ?_
      refine asg rfl rfl ?_
      refine nl ?_
      refine drW .head ?_
      refine drW .head ?_
      exact rT rfl rfl ler (fun _ _ h => h) ⟨rfl, by rw [fieldU_eq]; unfold usual'; rw [if_neg h11, if_neg h19, if_pos (Or.inr h36b), if_pos h41]⟩
     ·
      refine skt ?_
      refine sr ?_
      refine fa0 F26_1 rfl rfl ?_
      refine ld (Says.own .head) Tryz.isAgg22 rfl (Nat.zero_add _).symm rfl rfl ?_
      refine ls Tryz.runUnderlying22 rfl rfl ?_
      refine eq' rfl rfl rfl ?_
      refine asg rfl rfl ?_
      refine nl ?_
      refine drW .head ?_
      refine drW .head ?_
      exact rT rfl rfl ler (fun _ _ h => h) ⟨rfl, by rw [fieldU_eq]; unfold usual'; rw [if_neg h11, if_neg h19, if_pos (Or.inr h36b), if_neg h41, len_zero]⟩
    ·
     refine sr ?_
     refine eq' rfl rfl rfl ?_
     refine asg rfl rfl ?_
     refine nl ?_
     refine cdU rfl (fun h48 => ?_) (fun h48 => ?_)
     ·
      refine sr ?_
      refine fa0 F26_3 rfl rfl ?_
      refine ld (Says.own .head) Tryz.isAgg23 rfl (Nat.zero_add _).symm rfl rfl ?_
      refine ls Tryz.runUnderlying23 rfl rfl ?_
      refine eq' rfl rfl rfl ?_
      refine asg rfl rfl ?_
      refine nl ?_
      refine drW .head ?_
      refine drW .head ?_
      exact rT rfl rfl ler (fun _ _ h => h) ⟨rfl, by rw [fieldU_eq]; unfold usual'; rw [if_neg h11, if_neg h19, if_neg (fun h => h.elim h36 h36b), if_pos h48, len_zero]⟩
     ·
      refine sr ?_
      refine eq' rfl rfl rfl ?_
      refine asg rfl rfl ?_
      refine nl ?_
      refine cdU rfl (fun h54 => ?_) (fun h54 => ?_)
      ·
       refine sq ?_
       refine sr ?_
       refine fa0 F50_7 rfl rfl ?_
       refine ld (Says.own (.tail .head)) Tryz.isAgg29 rfl (Nat.zero_add _).symm rfl rfl ?_
       refine ls Tryz.runUnderlying29 rfl rfl ?_
       refine mv rfl rfl ?_
       refine nl ?_
       refine capL (fun F_12 hF_12 => ?_)
       refine fr (f.sub.length) (fun k l' H' L' => [(2, .pointer (some ⟨b_1, 0, none⟩)), (3, .pointer (some ⟨b_2, 0, none⟩)), (57, .slice c.sa f.sub.length c.sc), (58, .int .i64 (f.sub.length : Int))] = l' ∧ F_12 = L' ∧ (∀ j (hj : j < f.sub.length), j < k → fieldU f.sub[j] (t.at j) = true)) [(2, .pointer (some ⟨b_1, 0, none⟩)), (3, .pointer (some ⟨b_2, 0, none⟩)), (57, .slice c.sa f.sub.length c.sc), (58, .int .i64 (f.sub.length : Int))] (fun k l' H' L' h => ?_) (by have := hF.sub.few; omega) rfl (.of ⟨rfl, rfl, rfl, rfl, trivial⟩) ⟨rfl, rfl, (fun j hj h => by omega)⟩ rfl rfl rfl rfl rfl (fun k l' H' L' hk le_10 hI => ?_) (fun l' H' L' le_11 hI => ?_)
       · obtain ⟨rfl, _⟩ := h; exact ⟨rfl, rfl, rfl, rfl⟩
       ·
        obtain ⟨rfl, rfl, pk0⟩ := hI
        subst hF_12
        refine sr ?_
        refine mv rfl rfl ?_
        obtain ⟨b_13, o_14, e_15, g_16⟩ := (hF.sub.mono le_10).at_ (ne_nil_of_lt hk)
        obtain ⟨c_17, q_18, q_19⟩ := g_16 k hk
        refine ix2 Tryz.runUnderlying29 Tryz.sizeOf50 rfl e_15 rfl rfl hk rfl ?_
        refine la (Says.fz q_18) Tryz.isAgg50 Tryz.sizeOf50 rfl (Nat.add_zero _).symm rfl rfl ?_
        refine al Tryz.zeroValue50 rfl rfl (fun b_20 => ?_)
        refine asg rfl rfl ?_
        refine sa Tryz.sizeOf50 rfl rfl rfl rfl rfl .head ?_
        refine nl ?_
        refine sq ?_
        refine rgD 6 kp3 mixed ?_
        refine dU 0 rfl rfl rfl (y_la (Says.own .head) Tryz.isAgg50 Tryz.sizeOf50 rfl (Nat.zero_add _).symm rfl) kp3 ler ?_
        refine dU 1 rfl rfl rfl (y_la (Says.own (.tail .head)) Tryz.isAgg26 Tryz.sizeOf26 rfl (Nat.zero_add _).symm rfl) kp3 ler ?_
        refine dU 2 rfl rfl rfl (y_mv rfl) kp3 ler ?_
        refine dE 3 (by kernel_rfl) rfl ?_
        refine cl rfl rfl rfl (s_at (i := k) (hT.mono le_10)) rfl (fun v H1 L1 hle hR => ?_)
        obtain ⟨rfl, rfl, c67, rfl, g67⟩ := hR
        refine dN kp3 ler ?_
        refine dE 4 (by kernel_rfl) rfl ?_
        refine cl rfl rfl rfl (ih _ (sub_size hk) q_19 g67) rfl (fun v H1 L1 le68 hR => ?_)
        obtain ⟨rfl, rfl⟩ := hR
        refine dN kp3 le68 ?_
        refine dU 5 rfl rfl rfl (y_nt rfl) kp3 le68 ?_
        refine dD (by kernel_rfl) ?_
        refine Nt ?_
        refine cbU rfl (fun h69 => ?_) (fun h69 => ?_)
        ·
         refine sr ?_
         refine asg rfl rfl ?_
         refine nl ?_
         refine drW .head ?_
         refine drW .head ?_
         refine drW .head ?_
         exact rT rfl rfl (le_10.trans le68) (fun _ _ h => h) ⟨rfl, by rw [fieldU_eq]; unfold usual'; rw [if_neg h11, if_neg h19, if_neg (fun h => h.elim h36 h36b), if_neg h48, if_pos h54, fieldsU_false hk (by simpa using h69), Bool.false_and]⟩
        ·
         refine skN ?_
         refine Nb ?_
         refine drN .head ?_
         refine fun a w hA hw => ⟨_, _, _, hA.sub ?_, (le_10.trans le68), hw, _, rfl, rfl, rfl, (fun j hj h => if e : j = k then (by subst e; simpa using h69) else pk0 j hj (by omega))⟩
         exact (.of ⟨rfl, rfl, rfl, rfl, rfl, trivial⟩)
       ·
        obtain ⟨rfl, rfl, pk0⟩ := hI
        subst hF_12
        refine toWp ?_
        refine sr ?_
        refine fa0 F50_7 rfl rfl ?_
        refine ld (Says.own (.tail .head)) Tryz.isAgg29 rfl (Nat.zero_add _).symm rfl rfl ?_
        refine fa0 F26_4 rfl rfl ?_
        refine ld (Says.own .head) Tryz.isAgg24 rfl (Nat.zero_add _).symm rfl rfl ?_
        refine cl rfl rfl rfl (s_unknown (hF.sub.mono le_11) (hT.u.mono le_11)) rfl (fun v H1 L1 le_21 hR => ?_)
        obtain ⟨rfl, a75, c75, rfl, g75⟩ := hR
        refine ls Tryz.runUnderlying24 rfl rfl ?_
        refine eq' rfl rfl rfl ?_
        refine asg rfl rfl ?_
        refine nl ?_
        refine drW .head ?_
        refine drW .head ?_
        exact rT rfl rfl (le_11.trans le_21) (fun _ _ h => h) ⟨rfl, by rw [fieldU_eq]; unfold usual'; rw [if_neg h11, if_neg h19, if_neg (fun h => h.elim h36 h36b), if_neg h48, if_pos h54, fieldsU_true pk0, len_zero, Bool.true_and]⟩
      ·
       refine skN ?_
       refine Nb ?_
       refine Nt ?_
       refine sq ?_
       refine rgD 14 kp2 mixed ?_
       refine dU 0 rfl rfl rfl (y_fa0 F26_0 rfl) kp2 ler ?_
       refine dU 1 rfl rfl rfl (y_ld (Says.own .head) Tryz.isAgg2 rfl (Nat.zero_add _).symm rfl) kp2 ler ?_
       refine dU 2 rfl rfl rfl (y_fa0 F50_0 rfl) kp2 ler ?_
       refine dU 3 rfl rfl rfl (y_ld (Says.own (.tail .head)) Tryz.isAgg3 rfl (Nat.zero_add _).symm rfl) kp2 ler ?_
       refine dU 6 rfl rfl rfl (y_fa0 F50_5 rfl) kp2 ler ?_
       refine dU 7 rfl rfl rfl (y_ld (Says.own (.tail .head)) Tryz.isAgg2 rfl (Nat.zero_add _).symm rfl) kp2 ler ?_
       refine dU 8 rfl rfl rfl (y_fa0 F50_0 rfl) kp2 ler ?_
       refine dU 9 rfl rfl rfl (y_ld (Says.own (.tail .head)) Tryz.isAgg3 rfl (Nat.zero_add _).symm rfl) kp2 ler ?_
       refine dE 4 (by kernel_rfl) rfl ?_
       refine cl rfl rfl rfl s_width rfl (fun v H1 L1 hle hR => ?_)
       obtain ⟨rfl, rfl, rfl⟩ := hR
       refine dN kp2 ler ?_
       refine dE 5 (by kernel_rfl) rfl ?_
       refine cl rfl rfl rfl (s_fixed (width_le _)) rfl (fun v H1 L1 hle hR => ?_)
       obtain ⟨rfl, a83, c83, N83, rfl, rfl, h83⟩ := hR
       refine dN (.skip (.keep (.keep .nil))) ler ?_
       refine dE 10 (by kernel_rfl) rfl ?_
       refine cl rfl rfl rfl s_width rfl (fun v H1 L1 hle hR => ?_)
       obtain ⟨rfl, rfl, rfl⟩ := hR
       refine dN (.skip (.keep (.keep .nil))) ler ?_
       refine dE 11 (by kernel_rfl) rfl ?_
       refine cl rfl rfl rfl (s_fixed (width_le _)) rfl (fun v H1 L1 hle hR => ?_)
       obtain ⟨rfl, a89, c89, N89, rfl, rfl, h89⟩ := hR
       refine dN (.skip (.skip (.keep (.keep .nil)))) ler ?_
       refine dE 12 (by kernel_rfl) rfl ?_
       refine frL h83.1 (.tail .head) (fun H83 le83 z83 => ?_)
       have w83 := fixed_length t.n (width f.kind); have w89 := fixed_length f.df (width f.kind)
       have y83 : BytesAt H83 a83 c83 (fixed t.n (width f.kind)) := BytesAt.row z83 h83.1 (by rw [fixed_length]; unfold B47; have := width_le f.kind; omega)
       refine frL h89.1 .head (fun H89 le89 z89 => ?_)
       have y89 : BytesAt H89 a89 c89 (fixed f.df (width f.kind)) := BytesAt.row z89 h89.1 (by rw [fixed_length]; unfold B47; have := width_le f.kind; omega)
       refine cl rfl rfl rfl (s_same' (y83.mono le89) y89 w83.symm w89.symm) rfl (fun v H1 L1 hle hR => ?_)
       obtain ⟨rfl, rfl, rfl⟩ := hR
       refine dN kp2 (le83.trans le89) ?_
       refine dU 13 rfl rfl rfl (y_asg rfl) kp2 (le83.trans le89) ?_
       refine dD (by kernel_rfl) ?_
       refine Nt ?_
       refine drW .head ?_
       refine drW .head ?_
       exact rT rfl rfl (le83.trans le89) (fun _ _ h => h) ⟨rfl, by rw [fieldU_eq]; unfold usual'; rw [if_neg h11, if_neg h19, if_neg (fun h => h.elim h36 h36b), if_neg h48, if_neg h54, beq_dec]⟩
def PartC (fs : List Fd) (v : Int) (flex : Bool) : Prop := ∀ {H : Fz} {L : Own} {a : Option Addr} {c0 : Nat} {c : TC} {t : Tr} (_ : FdsAt H a fs) (_ : TreeAt H c t) (_ : (partB fs v flex t).length ≤ B46),
  Fn Tryz.prog 25 [.slice a fs.length c0, .int .i64 v, .bool flex, .agg (c.cells t).toArray] H L (fun r H' L' => OutB 5 L (partB fs v flex t) r L')
theorem s_fixed' {H : Fz} {L : Own} {n : Int} {size : Nat} (hs : size ≤ 8) : Fn Tryz.prog 84 [.int .i64 n, .int .i64 (size : Int)] H L (fun v H' L' => H = H' ∧ OutB 5 L (fixed n size) v L') :=
 (s_fixed hs).mono fun v H' L' _ ⟨h1, a, cap, N, h2, h3, h4⟩ => ⟨h1, a, cap, N, by rw [fixed_length]; exact h2, h3, by rw [fixed_length]; exact h4⟩
theorem s_value {fs : List Fd} {v : Int} {flex : Bool} (hP : PartC fs v flex) {H : Fz} {L : Own} {a : Option Addr} {c0 : Nat} {c : TC} {t : Tr} {kind : Int} {nul : Bool} (hF : FdsAt H a fs) (hT : TreeAt H c t) (hb : kind = 10 → (partB fs v flex t).length ≤ B46) :
  Fn Tryz.prog 83 [.int .i64 kind, .slice a fs.length c0, .bool nul, .int .i64 v, .bool flex, .agg (c.cells t).toArray] H L (fun r H' L' => OutB 5 L (valueB kind (partB fs v flex) nul flex t) r L') := by
 refine Fn.mk Tryz.call83 Tryz.func83 rfl Tryz.ntmps83 rfl ?_
 refine sr ?_
 refine bx rfl rfl rfl (fun b_1 => ?_)
 refine asg rfl rfl ?_
 refine nl ?_
 refine sq ?_
 refine sr ?_
 refine mv rfl rfl ?_
 refine nl ?_
 refine bl ?_
 refine sr ?_
 refine eq' rfl rfl rfl ?_
 refine asg rfl rfl ?_
 refine nl ?_
 refine cdU rfl (fun h17 => ?_) (fun h17 => ?_)
 ·
  refine sr ?_
  refine fa0 F26_0 rfl rfl ?_
  refine ld (Says.own .head) Tryz.isAgg2 rfl (Nat.zero_add _).symm rfl rfl ?_
  refine an rfl rfl (and1_i64 _) rfl ?_
  refine cv Tryz.runUnderlying2 Tryz.runUnderlying5 rfl (wrap8 _) rfl ?_
  refine bs' L22 rfl rfl rfl rfl (fun b_2 => ?_)
  refine asg rfl rfl ?_
  refine nl ?_
  refine drW (.tail .head) ?_
  exact rT rfl rfl ler (fun _ _ h => h) (OutB.of (Row.whole (ds := bytesOf [byte (t.n % 2)]) rfl (by decide)) (by unfold valueB; rw [if_pos h17]))
 ·
  refine sr ?_
  refine eq' rfl rfl rfl ?_
  refine asg rfl rfl ?_
  refine nl ?_
  refine cdU rfl (fun h24 => ?_) (fun h24 => ?_)
  ·
   refine sr ?_
   refine mks (m := 16) (c := 16) Tryz.underlying22 I5 rfl rfl rfl rfl rfl (by decide) (by decide) (by decide) rfl (fun b_3 N26 r26 => ?_)
   refine asg rfl rfl ?_
   refine nl ?_
   refine sr ?_
   refine mv rfl rfl ?_
   refine fa0 F26_1 rfl rfl ?_
   refine ld (Says.own (.tail .head)) Tryz.isAgg22 rfl (Nat.zero_add _).symm rfl rfl ?_
   refine cpB Tryz.underlying22 rfl rfl rfl r26 (fun _ => .head) hT.s rfl rfl (fun N30 r30 => ?_)
   rw [row16] at r30
   refine nl ?_
   refine sr ?_
   refine mv rfl rfl ?_
   refine asg rfl rfl ?_
   refine nl ?_
   refine drW (.tail .head) ?_
   exact rT rfl rfl ler (fun _ _ h => h) (OutB.of r30 (by unfold valueB; rw [if_neg h17, if_pos h24]))
  ·
   refine sr ?_
   refine eq' rfl rfl rfl ?_
   refine asg rfl rfl ?_
   refine nl ?_
   refine cdU rfl (fun h32 => ?_) (fun h32 => ?_)
   ·
    refine sr ?_
    refine fa0 F26_1 rfl rfl ?_
    refine ld (Says.own .head) Tryz.isAgg22 rfl (Nat.zero_add _).symm rfl rfl ?_
    refine cl rfl rfl rfl (s_whole hT.s rfl) rfl (fun v H1 L1 hle hR => ?_)
    obtain ⟨rfl, rfl, rfl⟩ := hR
    have q36 := whole_len (t.s)
    refine asg rfl rfl ?_
    refine nl ?_
    refine sq ?_
    refine sr ?_
    refine mv rfl rfl ?_
    refine nl ?_
    refine cbU rfl (fun h37 => ?_) (fun h37 => ?_)
    ·
     subst h37
     refine rg ?_
     refine asg rfl rfl ?_
     refine nl ?_
     refine sr ?_
     refine mv rfl rfl ?_
     refine mv rfl rfl ?_
     refine mv rfl rfl ?_
     refine ls Tryz.runUnderlying22 rfl rfl ?_
     have e42 : (counted flex true (0) 2).length ≤ 10 := counted_len (by omega) (by omega)
     refine cl rfl rfl rfl (s_counted (n := 0) (size := 2) (by omega) (by omega)) rfl (fun v H1 L1 hle hR => ?_)
     obtain ⟨rfl, a42, c42, N42, rfl, rfl, h42⟩ := hR
     refine mv rfl rfl ?_
     refine ap (news := bytesOf ([])) Tryz.underlying22 I5 rfl rfl h42.1 (fun _ => .head) (src_nil Tryz.underlying22) (by omega) (by unfold maxLen; omega) rfl (fun a44 c44 N44 r44 z44 => ?_)
     rw [← bytesOf_append] at r44
     refine asg rfl rfl ?_
     refine nl ?_
     refine drW (.tail .head) ?_
     exact rT rfl rfl ler (fun _ _ h => h) (OutB.of r44 (by unfold valueB; rw [if_neg h17, if_neg h24, if_pos h32]; rfl))
    ·
     subst h37
     refine skt ?_
     refine sr ?_
     refine mv rfl rfl ?_
     refine mv rfl rfl ?_
     refine mv rfl rfl ?_
     refine ls Tryz.runUnderlying22 rfl rfl ?_
     have e42 : (counted flex false ((whole t.s).length) 2).length ≤ 10 := counted_len (by omega) (by omega)
     refine cl rfl rfl rfl (s_counted (n := (whole t.s).length) (size := 2) (by omega) (by omega)) rfl (fun v H1 L1 hle hR => ?_)
     obtain ⟨rfl, a42, c42, N42, rfl, rfl, h42⟩ := hR
     refine mv rfl rfl ?_
     refine ap (news := bytesOf ((whole t.s))) Tryz.underlying22 I5 rfl rfl h42.1 (fun _ => .head) (src_bytes Tryz.underlying22 (hT.s.take most) rfl) (by omega) (by unfold maxLen; omega) rfl (fun a44 c44 N44 r44 z44 => ?_)
     rw [← bytesOf_append] at r44
     refine asg rfl rfl ?_
     refine nl ?_
     refine drW (.tail .head) ?_
     exact rT rfl rfl ler (fun _ _ h => h) (OutB.of r44 (by unfold valueB; rw [if_neg h17, if_neg h24, if_pos h32]; rfl))
   ·
    refine sr ?_
    refine eq' rfl rfl rfl ?_
    refine asg rfl rfl ?_
    refine nl ?_
    refine cdU rfl (fun h45 => ?_) (fun h45 => ?_)
    ·
     refine sr ?_
     refine fa0 F26_1 rfl rfl ?_
     refine ld (Says.own .head) Tryz.isAgg22 rfl (Nat.zero_add _).symm rfl rfl ?_
     refine cl rfl rfl rfl (s_whole hT.s rfl) rfl (fun v H1 L1 hle hR => ?_)
     obtain ⟨rfl, rfl, rfl⟩ := hR
     have q49 := whole_len (t.s)
     refine asg rfl rfl ?_
     refine nl ?_
     refine sq ?_
     refine sr ?_
     refine mv rfl rfl ?_
     refine nl ?_
     refine cbU rfl (fun h50 => ?_) (fun h50 => ?_)
     ·
      subst h50
      refine rg ?_
      refine asg rfl rfl ?_
      refine nl ?_
      refine sr ?_
      refine mv rfl rfl ?_
      refine mv rfl rfl ?_
      refine mv rfl rfl ?_
      refine ls Tryz.runUnderlying22 rfl rfl ?_
      have e55 : (counted flex true (0) 4).length ≤ 10 := counted_len (by omega) (by omega)
      refine cl rfl rfl rfl (s_counted (n := 0) (size := 4) (by omega) (by omega)) rfl (fun v H1 L1 hle hR => ?_)
      obtain ⟨rfl, a55, c55, N55, rfl, rfl, h55⟩ := hR
      refine mv rfl rfl ?_
      refine ap (news := bytesOf ([])) Tryz.underlying22 I5 rfl rfl h55.1 (fun _ => .head) (src_nil Tryz.underlying22) (by omega) (by unfold maxLen; omega) rfl (fun a57 c57 N57 r57 z57 => ?_)
      rw [← bytesOf_append] at r57
      refine asg rfl rfl ?_
      refine nl ?_
      refine drW (.tail .head) ?_
      exact rT rfl rfl ler (fun _ _ h => h) (OutB.of r57 (by unfold valueB; rw [if_neg h17, if_neg h24, if_neg h32, if_pos h45]; rfl))
     ·
      subst h50
      refine skt ?_
      refine sr ?_
      refine mv rfl rfl ?_
      refine mv rfl rfl ?_
      refine mv rfl rfl ?_
      refine ls Tryz.runUnderlying22 rfl rfl ?_
      have e55 : (counted flex false ((whole t.s).length) 4).length ≤ 10 := counted_len (by omega) (by omega)
      refine cl rfl rfl rfl (s_counted (n := (whole t.s).length) (size := 4) (by omega) (by omega)) rfl (fun v H1 L1 hle hR => ?_)
      obtain ⟨rfl, a55, c55, N55, rfl, rfl, h55⟩ := hR
      refine mv rfl rfl ?_
      refine ap (news := bytesOf ((whole t.s))) Tryz.underlying22 I5 rfl rfl h55.1 (fun _ => .head) (src_bytes Tryz.underlying22 (hT.s.take most) rfl) (by omega) (by unfold maxLen; omega) rfl (fun a57 c57 N57 r57 z57 => ?_)
      rw [← bytesOf_append] at r57
      refine asg rfl rfl ?_
      refine nl ?_
      refine drW (.tail .head) ?_
      exact rT rfl rfl ler (fun _ _ h => h) (OutB.of r57 (by unfold valueB; rw [if_neg h17, if_neg h24, if_neg h32, if_pos h45]; rfl))
    ·
     refine sr ?_
     refine eq' rfl rfl rfl ?_
     refine asg rfl rfl ?_
     refine nl ?_
     refine cdU rfl (fun h58 => ?_) (fun h58 => ?_)
     ·
      refine sr ?_
      refine mv rfl rfl ?_
      refine mv rfl rfl ?_
      refine mv rfl rfl ?_
      refine la (Says.own .head) Tryz.isAgg26 Tryz.sizeOf26 rfl (Nat.zero_add _).symm rfl rfl ?_
      refine cl rfl rfl rfl (hP hF hT (hb h58)) rfl (fun v H1 L1 le_4 hR => ?_)
      obtain ⟨a64, c64, N64, rfl, rfl, h64⟩ := hR
      refine asg rfl rfl ?_
      refine nl ?_
      refine drW (.tail .head) ?_
      exact rT rfl rfl le_4 (fun _ _ h => h) (OutB.of h64.1 (by unfold valueB; rw [if_neg h17, if_neg h24, if_neg h32, if_neg h45, if_pos h58]))
     ·
      refine skN ?_
      refine Nb ?_
      refine Nt ?_
      refine sq ?_
      refine rgD 6 kp1 mixed ?_
      refine dU 0 rfl rfl rfl (y_fa0 F26_0 rfl) kp1 ler ?_
      refine dU 1 rfl rfl rfl (y_ld (Says.own .head) Tryz.isAgg2 rfl (Nat.zero_add _).symm rfl) kp1 ler ?_
      refine dU 2 rfl rfl rfl (y_mv rfl) kp1 ler ?_
      refine dE 3 (by kernel_rfl) rfl ?_
      refine cl rfl rfl rfl s_width rfl (fun v H1 L1 hle hR => ?_)
      obtain ⟨rfl, rfl, rfl⟩ := hR
      refine dN kp1 ler ?_
      refine dE 4 (by kernel_rfl) rfl ?_
      refine cl rfl rfl rfl (s_fixed' (width_le _)) rfl (fun v H1 L1 le_5 hR => ?_)
      obtain ⟨rfl, a69, c69, N69, rfl, rfl, h69⟩ := hR
      refine dN (.skip (.keep .nil)) ler ?_
      refine dU 5 rfl rfl rfl (y_asg rfl) (.skip (.keep .nil)) ler ?_
      refine dD (by kernel_rfl) ?_
      refine Nt ?_
      refine drW (.tail .head) ?_
      exact rT rfl rfl ler (fun _ _ h => h) (OutB.of h69.1 (by unfold valueB; rw [if_neg h17, if_neg h24, if_neg h32, if_neg h45, if_neg h58]))
theorem s_field {f : Fd} {v : Int} {flex : Bool} (hP : PartC f.sub v flex) {H : Fz} {L : Own} {c : FC} {e : TC} {t : Tr} (hF : FdAt H c f) (hT : TreeAt H e t) (hb : (fieldB f v flex t).length ≤ B46) :
  Fn Tryz.prog 63 [.agg (c.cells f).toArray, .int .i64 v, .bool flex, .agg (e.cells t).toArray] H L (fun r H' L' => OutB 5 L (fieldB f v flex t) r L') := by
 refine Fn.mk Tryz.call63 Tryz.func63 rfl Tryz.ntmps63 rfl ?_
 refine sr ?_
 refine bx rfl rfl rfl (fun b_1 => ?_)
 refine bx rfl rfl rfl (fun b_2 => ?_)
 refine asg rfl rfl ?_
 refine nl ?_
 refine sr ?_
 refine la (Says.own (.tail .head)) Tryz.isAgg50 Tryz.sizeOf50 rfl (Nat.zero_add _).symm rfl rfl ?_
 refine mv rfl rfl ?_
 refine la (Says.own .head) Tryz.isAgg26 Tryz.sizeOf26 rfl (Nat.zero_add _).symm rfl rfl ?_
 refine cl rfl rfl rfl s_null rfl (fun v H1 L1 hle hR => ?_)
 obtain ⟨rfl, rfl, rfl⟩ := hR
 refine asg rfl rfl ?_
 refine nl ?_
 refine sq ?_
 refine sr ?_
 refine fa0 F50_0 rfl rfl ?_
 refine ld (Says.own (.tail .head)) Tryz.isAgg3 rfl (Nat.zero_add _).symm rfl rfl ?_
 refine eq' rfl rfl rfl ?_
 refine nl ?_
 refine cdU rfl (fun h19 => ?_) (fun h19 => ?_)
 ·
  refine sr ?_
  refine fa0 F26_3 rfl rfl ?_
  refine ld (Says.own .head) Tryz.isAgg23 rfl (Nat.zero_add _).symm rfl rfl ?_
  refine cl rfl rfl rfl (s_things hT.l rfl) rfl (fun v H1 L1 hle hR => ?_)
  obtain ⟨rfl, rfl, rfl⟩ := hR
  have q22 := take_most_len t.l
  refine asg rfl rfl ?_
  refine nl ?_
  refine sq ?_
  refine sr ?_
  refine mv rfl rfl ?_
  refine nl ?_
  refine cbU rfl (fun h23 => ?_) (fun h23 => ?_)
  ·
   refine rg ?_
   refine asg rfl rfl ?_
   refine nl ?_
   refine sr ?_
   refine mv rfl rfl ?_
   refine mv rfl rfl ?_
   refine mv rfl rfl ?_
   refine ls Tryz.runUnderlying23 rfl rfl ?_
   have e28 : (counted flex (f.isNul v t) (0) 4).length ≤ 10 := counted_len (by omega) (by omega)
   refine cl rfl rfl rfl (s_counted (n := 0) (size := 4) (by omega) (by omega)) rfl (fun v H1 L1 hle hR => ?_)
   obtain ⟨rfl, a28, c28, N28, rfl, rfl, h28⟩ := hR
   refine asg rfl rfl ?_
   refine nl ?_
   refine sq ?_
   refine sr ?_
   refine mv rfl rfl ?_
   refine ls Tryz.runUnderlying23 rfl rfl ?_
   refine mv rfl rfl ?_
   refine nl ?_
   have hB : fieldB f v flex t = counted flex (f.isNul v t) ([] : List Tr).length 4 ++ ([] : List Tr).flatMap (valueB f.of (partB f.sub v flex) false flex) := by rw [fieldB_eq]; unfold fieldB'; rw [if_pos h19]; simp only [h23]; rfl
   have hs0 : (counted flex (f.isNul v t) ([] : List Tr).length 4).length + (([] : List Tr).flatMap (valueB f.of (partB f.sub v flex) false flex)).length ≤ 70368744177664 := by rw [← List.length_append, ← hB]; exact hb
   refine capF (N := N28) (fun _ => .head) (fun F_5 hF_5 => ?_)
   refine fr (([] : List Tr).length) (fun k l' H' L' => ∃ N : Chunk, ∃ a m cap, [(1, .int .i64 v), (2, .bool flex), (4, .pointer (some ⟨b_1, 0, none⟩)), (7, .pointer (some ⟨b_2, 0, none⟩)), (10, .slice none 0 0), (11, .slice a m cap), (30, .int .i64 (([] : List Tr).length : Int))] = l' ∧ F_5 N = L' ∧ Row 5 1 a m cap (bytesOf (counted flex (f.isNul v t) ([] : List Tr).length 4 ++ (([] : List Tr).take k).flatMap (valueB f.of (partB f.sub v flex) false flex))) N ∧ m = (counted flex (f.isNul v t) ([] : List Tr).length 4).length + ((([] : List Tr).take k).flatMap (valueB f.of (partB f.sub v flex) false flex)).length) [(1, .int .i64 v), (2, .bool flex), (4, .pointer (some ⟨b_1, 0, none⟩)), (7, .pointer (some ⟨b_2, 0, none⟩)), (10, .slice none 0 0), (11, .slice a28 _ c28), (30, .int .i64 (([] : List Tr).length : Int))] (fun k l' H' L' h => ?_) (by first | omega | simp) rfl (.of ⟨rfl, rfl, rfl, rfl, rfl, rfl, rfl, trivial⟩) ⟨N28, a28, _, c28, rfl, rfl, (by simpa using h28.1), (by simp)⟩ rfl rfl rfl rfl rfl (fun k l' H' L' hk le_3 hI => ?_) (fun l' H' L' le_4 hI => ?_)
   · obtain ⟨N, a, m, cap, rfl, _⟩ := h; exact ⟨rfl, rfl, rfl, rfl⟩
   ·
    obtain ⟨N, a, m, cap, rfl, rfl, pk0, pk1⟩ := hI
    rw [hF_5]
    have hs1 := flatMap_step_le (valueB f.of (partB f.sub v flex) false flex) hk
    refine sr ?_
    refine mv rfl rfl ?_
    refine asg rfl rfl ?_
    refine nl ?_
    refine rgD 14 (.skip (.keep (.keep .nil))) mixed ?_
    refine dU 0 rfl rfl rfl (y_mv rfl) (.skip (.keep (.keep .nil))) ler ?_
    refine dU 1 rfl rfl rfl (y_fa0 F50_6 rfl) (.skip (.keep (.keep .nil))) ler ?_
    refine dU 2 rfl rfl rfl (y_ld (Says.own (.tail .head)) Tryz.isAgg3 rfl (Nat.zero_add _).symm rfl) (.skip (.keep (.keep .nil))) ler ?_
    refine dU 3 rfl rfl rfl (y_fa0 F50_7 rfl) (.skip (.keep (.keep .nil))) ler ?_
    refine dU 4 rfl rfl rfl (y_ld (Says.own (.tail .head)) Tryz.isAgg29 rfl (Nat.zero_add _).symm rfl) (.skip (.keep (.keep .nil))) ler ?_
    refine dU 5 rfl rfl rfl (y_mv rfl) (.skip (.keep (.keep .nil))) ler ?_
    refine dU 6 rfl rfl rfl (y_mv rfl) (.skip (.keep (.keep .nil))) ler ?_
    refine dU 7 rfl rfl rfl (y_mv rfl) (.skip (.keep (.keep .nil))) ler ?_
    refine dU 8 rfl rfl rfl (y_mv rfl) (.skip (.keep (.keep .nil))) ler ?_
    obtain ⟨b_6, o_7, e_8, g_9⟩ := (TreesAt.nil _).at_ (ne_nil_of_lt hk)
    obtain ⟨c_10, q_11, q_12⟩ := g_9 k hk
    refine dU 9 rfl rfl rfl (y_ix2 Tryz.runUnderlying23 Tryz.sizeOf26 rfl e_8 rfl rfl hk) (.skip (.keep (.keep .nil))) ler ?_
    refine dU 10 rfl rfl rfl (y_la (Says.fz q_11) Tryz.isAgg26 Tryz.sizeOf26 rfl (Nat.add_zero _).symm rfl) (.skip (.keep (.keep .nil))) ler ?_
    refine dE 11 (by kernel_rfl) rfl ?_
    have hv : f.of = 10 → (partB f.sub v flex ([] : List Tr)[k]).length ≤ B46 := fun e => by rw [← valueB_part e (partB f.sub v flex) false flex]; unfold B46; omega
    refine cl rfl rfl rfl (s_value hP (hF.sub.mono le_3) q_12 hv) rfl (fun v H1 L1 le_13 hR => ?_)
    obtain ⟨a45, c45, N45, rfl, rfl, h45⟩ := hR
    refine dN (.skip (.skip (.keep (.keep .nil)))) le_13 ?_
    refine dE 12 (by kernel_rfl) rfl ?_
    refine ap (news := bytesOf (((valueB f.of (partB f.sub v flex) false flex) ([] : List Tr)[k]))) Tryz.underlying22 I5 rfl rfl pk0 (fun _ => (.tail .head)) (src_row Tryz.underlying22 h45.1 .head) (by omega) (by unfold maxLen; omega) rfl (fun a46 c46 N46 r46 z46 => ?_)
    rw [← bytesOf_append] at r46
    refine dN (.skip (.skip (.keep (.keep .nil)))) le_13 ?_
    refine dU 13 rfl rfl rfl (y_asg rfl) (.skip (.skip (.keep (.keep .nil)))) le_13 ?_
    refine dD (by kernel_rfl) ?_
    refine Nb ?_
    refine drN .head ?_
    refine fun a w hA hw => ⟨_, _, _, hA.sub ?_, (le_3.trans le_13), hw, _, rfl, N46, a46, _, c46, rfl, hF_5 _, (by rw [flatMap_take_succ _ hk, ← List.append_assoc]; exact r46), (by rw [flatMap_take_succ _ hk, List.length_append]; omega)⟩
    exact (.of ⟨rfl, rfl, rfl, rfl, rfl, rfl, rfl, rfl, trivial⟩)
   ·
    obtain ⟨N, a, m, cap, rfl, rfl, pk0, pk1⟩ := hI
    rw [hF_5]
    refine toWp ?_
    refine sr ?_
    refine mv rfl rfl ?_
    refine asg rfl rfl ?_
    refine nl ?_
    refine drW (.tail .head) ?_
    refine drW (.tail .head) ?_
    exact rT rfl rfl le_4 (fun _ _ h => h) (OutB.of pk0 (by rw [hB]; simp only [List.take_length]))
  ·
   refine skt ?_
   refine sr ?_
   refine mv rfl rfl ?_
   refine mv rfl rfl ?_
   refine mv rfl rfl ?_
   refine ls Tryz.runUnderlying23 rfl rfl ?_
   have e28 : (counted flex (f.isNul v t) ((t.l.take most).length) 4).length ≤ 10 := counted_len (by omega) (by omega)
   refine cl rfl rfl rfl (s_counted (n := (t.l.take most).length) (size := 4) (by omega) (by omega)) rfl (fun v H1 L1 hle hR => ?_)
   obtain ⟨rfl, a28, c28, N28, rfl, rfl, h28⟩ := hR
   refine asg rfl rfl ?_
   refine nl ?_
   refine sq ?_
   refine sr ?_
   refine mv rfl rfl ?_
   refine ls Tryz.runUnderlying23 rfl rfl ?_
   refine mv rfl rfl ?_
   refine nl ?_
   have hB : fieldB f v flex t = counted flex (f.isNul v t) (t.l.take most).length 4 ++ (t.l.take most).flatMap (valueB f.of (partB f.sub v flex) false flex) := by rw [fieldB_eq]; unfold fieldB'; rw [if_pos h19]; simp only [h23]; rfl
   have hs0 : (counted flex (f.isNul v t) (t.l.take most).length 4).length + ((t.l.take most).flatMap (valueB f.of (partB f.sub v flex) false flex)).length ≤ 70368744177664 := by rw [← List.length_append, ← hB]; exact hb
   refine capF (N := N28) (fun _ => .head) (fun F_16 hF_16 => ?_)
   refine fr ((t.l.take most).length) (fun k l' H' L' => ∃ N : Chunk, ∃ a m cap, [(1, .int .i64 v), (2, .bool flex), (4, .pointer (some ⟨b_1, 0, none⟩)), (7, .pointer (some ⟨b_2, 0, none⟩)), (10, .slice e.la (t.l.take most).length e.lc), (11, .slice a m cap), (30, .int .i64 ((t.l.take most).length : Int))] = l' ∧ F_16 N = L' ∧ Row 5 1 a m cap (bytesOf (counted flex (f.isNul v t) (t.l.take most).length 4 ++ ((t.l.take most).take k).flatMap (valueB f.of (partB f.sub v flex) false flex))) N ∧ m = (counted flex (f.isNul v t) (t.l.take most).length 4).length + (((t.l.take most).take k).flatMap (valueB f.of (partB f.sub v flex) false flex)).length) [(1, .int .i64 v), (2, .bool flex), (4, .pointer (some ⟨b_1, 0, none⟩)), (7, .pointer (some ⟨b_2, 0, none⟩)), (10, .slice e.la (t.l.take most).length e.lc), (11, .slice a28 _ c28), (30, .int .i64 ((t.l.take most).length : Int))] (fun k l' H' L' h => ?_) (by first | omega | simp) rfl (.of ⟨rfl, rfl, rfl, rfl, rfl, rfl, rfl, trivial⟩) ⟨N28, a28, _, c28, rfl, rfl, (by simpa using h28.1), (by simp)⟩ rfl rfl rfl rfl rfl (fun k l' H' L' hk le_14 hI => ?_) (fun l' H' L' le_15 hI => ?_)
   · obtain ⟨N, a, m, cap, rfl, _⟩ := h; exact ⟨rfl, rfl, rfl, rfl⟩
   ·
    obtain ⟨N, a, m, cap, rfl, rfl, pk0, pk1⟩ := hI
    rw [hF_16]
    have hs1 := flatMap_step_le (valueB f.of (partB f.sub v flex) false flex) hk
    refine sr ?_
    refine mv rfl rfl ?_
    refine asg rfl rfl ?_
    refine nl ?_
    refine rgD 14 (.skip (.keep (.keep .nil))) mixed ?_
    refine dU 0 rfl rfl rfl (y_mv rfl) (.skip (.keep (.keep .nil))) ler ?_
    refine dU 1 rfl rfl rfl (y_fa0 F50_6 rfl) (.skip (.keep (.keep .nil))) ler ?_
    refine dU 2 rfl rfl rfl (y_ld (Says.own (.tail .head)) Tryz.isAgg3 rfl (Nat.zero_add _).symm rfl) (.skip (.keep (.keep .nil))) ler ?_
    refine dU 3 rfl rfl rfl (y_fa0 F50_7 rfl) (.skip (.keep (.keep .nil))) ler ?_
    refine dU 4 rfl rfl rfl (y_ld (Says.own (.tail .head)) Tryz.isAgg29 rfl (Nat.zero_add _).symm rfl) (.skip (.keep (.keep .nil))) ler ?_
    refine dU 5 rfl rfl rfl (y_mv rfl) (.skip (.keep (.keep .nil))) ler ?_
    refine dU 6 rfl rfl rfl (y_mv rfl) (.skip (.keep (.keep .nil))) ler ?_
    refine dU 7 rfl rfl rfl (y_mv rfl) (.skip (.keep (.keep .nil))) ler ?_
    refine dU 8 rfl rfl rfl (y_mv rfl) (.skip (.keep (.keep .nil))) ler ?_
    obtain ⟨b_17, o_18, e_19, g_20⟩ := ((hT.l.take most).mono le_14).at_ (ne_nil_of_lt hk)
    obtain ⟨c_21, q_22, q_23⟩ := g_20 k hk
    refine dU 9 rfl rfl rfl (y_ix2 Tryz.runUnderlying23 Tryz.sizeOf26 rfl e_19 rfl rfl hk) (.skip (.keep (.keep .nil))) ler ?_
    refine dU 10 rfl rfl rfl (y_la (Says.fz q_22) Tryz.isAgg26 Tryz.sizeOf26 rfl (Nat.add_zero _).symm rfl) (.skip (.keep (.keep .nil))) ler ?_
    refine dE 11 (by kernel_rfl) rfl ?_
    have hv : f.of = 10 → (partB f.sub v flex (t.l.take most)[k]).length ≤ B46 := fun e => by rw [← valueB_part e (partB f.sub v flex) false flex]; unfold B46; omega
    refine cl rfl rfl rfl (s_value hP (hF.sub.mono le_14) q_23 hv) rfl (fun v H1 L1 le_24 hR => ?_)
    obtain ⟨a45, c45, N45, rfl, rfl, h45⟩ := hR
    refine dN (.skip (.skip (.keep (.keep .nil)))) le_24 ?_
    refine dE 12 (by kernel_rfl) rfl ?_
    refine ap (news := bytesOf (((valueB f.of (partB f.sub v flex) false flex) (t.l.take most)[k]))) Tryz.underlying22 I5 rfl rfl pk0 (fun _ => (.tail .head)) (src_row Tryz.underlying22 h45.1 .head) (by omega) (by unfold maxLen; omega) rfl (fun a46 c46 N46 r46 z46 => ?_)
    rw [← bytesOf_append] at r46
    refine dN (.skip (.skip (.keep (.keep .nil)))) le_24 ?_
    refine dU 13 rfl rfl rfl (y_asg rfl) (.skip (.skip (.keep (.keep .nil)))) le_24 ?_
    refine dD (by kernel_rfl) ?_
    refine Nb ?_
    refine drN .head ?_
    refine fun a w hA hw => ⟨_, _, _, hA.sub ?_, (le_14.trans le_24), hw, _, rfl, N46, a46, _, c46, rfl, hF_16 _, (by rw [flatMap_take_succ _ hk, ← List.append_assoc]; exact r46), (by rw [flatMap_take_succ _ hk, List.length_append]; omega)⟩
    exact (.of ⟨rfl, rfl, rfl, rfl, rfl, rfl, rfl, rfl, trivial⟩)
   ·
    obtain ⟨N, a, m, cap, rfl, rfl, pk0, pk1⟩ := hI
    rw [hF_16]
    refine toWp ?_
    refine sr ?_
    refine mv rfl rfl ?_
    refine asg rfl rfl ?_
    refine nl ?_
    refine drW (.tail .head) ?_
    refine drW (.tail .head) ?_
    exact rT rfl rfl le_15 (fun _ _ h => h) (OutB.of pk0 (by rw [hB]; simp only [List.take_length]))
 ·
  refine skt ?_
  refine sq ?_
  refine sr ?_
  refine fa0 F50_0 rfl rfl ?_
  refine ld (Says.own (.tail .head)) Tryz.isAgg3 rfl (Nat.zero_add _).symm rfl rfl ?_
  refine eq' rfl rfl rfl ?_
  refine mv rfl rfl ?_
  refine spl (t := 52) rfl (fun h52 => ?_) (fun h52 => ?_)
  ·
   refine gr rfl rfl ?_
   refine fa0 F50_3 rfl rfl ?_
   refine gr rfl rfl ?_
   refine ld (Says.own (.tail .head)) Tryz.isAgg3 rfl (Nat.zero_add _).symm rfl rfl ?_
   refine gr rfl rfl ?_
   refine ge rfl rfl rfl ?_
   refine pk rfl rfl rfl rfl ?_
   refine nl ?_
   refine cdU rfl (fun h56 => ?_) (fun h56 => ?_)
   ·
    refine sq ?_
    refine sr ?_
    refine mv rfl rfl ?_
    refine nl ?_
    refine cbU rfl (fun h57 => ?_) (fun h57 => ?_)
    ·
     refine sr ?_
     refine cl rfl rfl rfl (s_fixed' (size := 1) (by omega)) rfl (fun v H1 L1 le_25 hR => ?_)
     obtain ⟨rfl, a58, c58, N58, rfl, rfl, h58⟩ := hR
     refine asg rfl rfl ?_
     refine nl ?_
     refine drW (.tail .head) ?_
     refine drW (.tail .head) ?_
     exact rT rfl rfl ler (fun _ _ h => h) (OutB.of h58.1 (by rw [fieldB_eq]; unfold fieldB'; rw [if_neg h19, if_pos ⟨h52, h56⟩, if_pos h57]))
    ·
     refine skt ?_
     refine sq ?_
     refine rgD 9 kp2 mixed ?_
     refine dU 1 rfl rfl rfl (y_fa0 F50_7 rfl) kp2 ler ?_
     refine dU 2 rfl rfl rfl (y_ld (Says.own (.tail .head)) Tryz.isAgg29 rfl (Nat.zero_add _).symm rfl) kp2 ler ?_
     refine dU 3 rfl rfl rfl (y_mv rfl) kp2 ler ?_
     refine dU 4 rfl rfl rfl (y_mv rfl) kp2 ler ?_
     refine dU 5 rfl rfl rfl (y_la (Says.own .head) Tryz.isAgg26 Tryz.sizeOf26 rfl (Nat.zero_add _).symm rfl) kp2 ler ?_
     refine dE 0 (by kernel_rfl) rfl ?_
     refine cl rfl rfl rfl (s_fixed' (size := 1) (by omega)) rfl (fun v H1 L1 le_26 hR => ?_)
     obtain ⟨rfl, a59, c59, N59, rfl, rfl, h59⟩ := hR
     refine dN (.skip (.keep (.keep .nil))) ler ?_
     refine dE 6 (by kernel_rfl) rfl ?_
     have hp : (partB f.sub v flex t).length ≤ B46 := by have h := hb; rw [fieldB_eq] at h; unfold fieldB' at h; rw [if_neg h19, if_pos ⟨h52, h56⟩, if_neg (by rw [h57]; simp), List.length_append, fixed_length] at h; omega
     have hp2 := hp; unfold B46 at hp2
     refine cl rfl rfl rfl (hP hF.sub hT hp) rfl (fun v H1 L1 le_27 hR => ?_)
     obtain ⟨a65, c65, N65, rfl, rfl, h65⟩ := hR
     refine dN (.skip (.skip (.keep (.keep .nil)))) le_27 ?_
     refine dE 7 (by kernel_rfl) rfl ?_
     have w59 := fixed_length 1 1
     refine ap (news := bytesOf ((partB f.sub v flex t))) Tryz.underlying22 I5 rfl rfl h59.1 (fun _ => (.tail .head)) (src_row Tryz.underlying22 h65.1 .head) (by omega) (by unfold maxLen; omega) rfl (fun a66 c66 N66 r66 z66 => ?_)
     rw [← bytesOf_append] at r66
     refine dN (.skip (.skip (.keep (.keep .nil)))) le_27 ?_
     refine dU 8 rfl rfl rfl (y_asg rfl) (.skip (.skip (.keep (.keep .nil)))) le_27 ?_
     refine dD (by kernel_rfl) ?_
     refine Nt ?_
     refine drW .head ?_
     refine drW (.tail .head) ?_
     refine drW (.tail .head) ?_
     exact rT rfl rfl le_27 (fun _ _ h => h) (OutB.of r66 (by rw [fieldB_eq]; unfold fieldB'; rw [if_neg h19, if_pos ⟨h52, h56⟩, if_neg (by rw [h57]; simp)]))
   ·
    refine skt ?_
    refine sr ?_
    refine fa0 F50_0 rfl rfl ?_
    refine ld (Says.own (.tail .head)) Tryz.isAgg3 rfl (Nat.zero_add _).symm rfl rfl ?_
    refine fa0 F50_7 rfl rfl ?_
    refine ld (Says.own (.tail .head)) Tryz.isAgg29 rfl (Nat.zero_add _).symm rfl rfl ?_
    refine mv rfl rfl ?_
    refine mv rfl rfl ?_
    refine mv rfl rfl ?_
    refine la (Says.own .head) Tryz.isAgg26 Tryz.sizeOf26 rfl (Nat.zero_add _).symm rfl rfl ?_
    have hv : f.kind = 10 → (partB f.sub v flex t).length ≤ B46 := fun e => by have h := hb; rw [fieldB_eq] at h; unfold fieldB' at h; rw [if_neg h19, if_neg (by omega), valueB_part e] at h; exact h
    refine cl rfl rfl rfl (s_value hP hF.sub hT hv) rfl (fun v H1 L1 le_28 hR => ?_)
    obtain ⟨a75, c75, N75, rfl, rfl, h75⟩ := hR
    refine asg rfl rfl ?_
    refine nl ?_
    refine drW (.tail .head) ?_
    refine drW (.tail .head) ?_
    exact rT rfl rfl le_28 (fun _ _ h => h) (OutB.of h75.1 (by rw [fieldB_eq]; unfold fieldB'; rw [if_neg h19, if_neg (by omega)]))
  ·
   refine gs rfl rfl rfl rfl ?_
   refine gs rfl rfl rfl rfl ?_
   refine gs rfl rfl rfl rfl ?_
   refine pk rfl rfl rfl rfl ?_
   refine nl ?_
   refine cF rfl ?_
   refine skt ?_
   refine sr ?_
   refine fa0 F50_0 rfl rfl ?_
   refine ld (Says.own (.tail .head)) Tryz.isAgg3 rfl (Nat.zero_add _).symm rfl rfl ?_
   refine fa0 F50_7 rfl rfl ?_
   refine ld (Says.own (.tail .head)) Tryz.isAgg29 rfl (Nat.zero_add _).symm rfl rfl ?_
   refine mv rfl rfl ?_
   refine mv rfl rfl ?_
   refine mv rfl rfl ?_
   refine la (Says.own .head) Tryz.isAgg26 Tryz.sizeOf26 rfl (Nat.zero_add _).symm rfl rfl ?_
   have hv : f.kind = 10 → (partB f.sub v flex t).length ≤ B46 := fun e => by have h := hb; rw [fieldB_eq] at h; unfold fieldB' at h; rw [if_neg h19, if_neg (by omega), valueB_part e] at h; exact h
   refine cl rfl rfl rfl (s_value hP hF.sub hT hv) rfl (fun v H1 L1 le_29 hR => ?_)
   obtain ⟨a75, c75, N75, rfl, rfl, h75⟩ := hR
   refine asg rfl rfl ?_
   refine nl ?_
   refine drW (.tail .head) ?_
   refine drW (.tail .head) ?_
   exact rT rfl rfl le_29 (fun _ _ h => h) (OutB.of h75.1 (by rw [fieldB_eq]; unfold fieldB'; rw [if_neg h19, if_neg (by omega)]))
theorem known_few {H : Fz} {a : Option Addr} {fs : List Fd} (hF : FdsAt H a fs) : known fs ≤ 1001 := by
 have : ∀ l : List Fd, (∀ g ∈ l, g.tag ≤ 1000) → known l ≤ 1001 := by
  intro l
  induction l with
  | nil => intro _; simp [known]
  | cons g r ih => intro h; have h1 := h g List.mem_cons_self; have h2 := ih (fun x hx => h x (List.mem_cons_of_mem _ hx)); simp only [known]; split <;> omega
 refine this fs fun g hg => ?_
 obtain ⟨i, hi, rfl⟩ := List.mem_iff_getElem.1 hg
 obtain ⟨b, o, _, h2⟩ := hF.at_ (ne_nil_of_lt hi)
 obtain ⟨e, _, h3⟩ := h2 i hi
 exact h3.tag.1
theorem s_part0 {fs : List Fd} {v : Int} {flex : Bool} (hP : ∀ f ∈ fs, PartC f.sub v flex) : PartC fs v flex := by
 intro H L a c0 c t hF hT hb
 refine Fn.mk Tryz.call25 Tryz.func25 rfl Tryz.ntmps25 rfl ?_
 refine sr ?_
 refine bx rfl rfl rfl (fun b_1 => ?_)
 refine asg rfl rfl ?_
 refine nl ?_
 refine sr ?_
 refine asg rfl rfl ?_
 refine asg rfl rfl ?_
 refine nl ?_
 refine sr ?_
 refine asg rfl rfl ?_
 refine nl ?_
 refine sq ?_
 refine sr ?_
 refine mv rfl rfl ?_
 refine ls Tryz.runUnderlying29 rfl rfl ?_
 refine mv rfl rfl ?_
 refine nl ?_
 refine nilC ?_
 refine capF (N := []) (fun _ => .head) (fun F_4 hF_4 => ?_)
 refine fr (fs.length) (fun k l' H' L' => ∃ N : Chunk, ∃ a1 m cap, [(0, .slice a fs.length c0), (1, .int .i64 v), (2, .bool flex), (7, .pointer (some ⟨b_1, 0, none⟩)), (9, .slice a1 m cap), (10, .slice none 0 0), (11, .int .i64 0), (21, .slice a fs.length c0), (22, .int .i64 (fs.length : Int))] = l' ∧ F_4 N = L' ∧ Row 5 1 a1 m cap (bytesOf (plainTo (zipped fs v flex t) v k)) N ∧ m = (plainTo (zipped fs v flex t) v k).length) [(0, .slice a fs.length c0), (1, .int .i64 v), (2, .bool flex), (7, .pointer (some ⟨b_1, 0, none⟩)), (9, .slice none 0 0), (10, .slice none 0 0), (11, .int .i64 0), (21, .slice a fs.length c0), (22, .int .i64 (fs.length : Int))] (fun k l' H' L' h => ?_) (by have := hF.few; omega) rfl (.of ⟨rfl, rfl, rfl, rfl, rfl, rfl, rfl, rfl, rfl, trivial⟩) ⟨[], none, 0, 0, rfl, rfl, (Row.nil _ _), rfl⟩ rfl rfl rfl rfl rfl (fun k l' H' L' hk le_2 hI => ?_) (fun l' H' L' le_3 hI => ?_)
 · obtain ⟨N, a1, m, cap, rfl, _⟩ := h; exact ⟨rfl, rfl, rfl, rfl⟩
 ·
  obtain ⟨N, a1, m, cap, rfl, rfl, pk0, pk1⟩ := hI
  rw [hF_4]
  refine sr ?_
  refine mv rfl rfl ?_
  obtain ⟨b_5, o_6, e_7, g_8⟩ := (hF.mono le_2).at_ (ne_nil_of_lt hk)
  obtain ⟨c_9, q_10, q_11⟩ := g_8 k hk
  refine ix2 Tryz.runUnderlying29 Tryz.sizeOf50 rfl e_7 rfl rfl hk rfl ?_
  refine la (Says.fz q_10) Tryz.isAgg50 Tryz.sizeOf50 rfl (Nat.add_zero _).symm rfl rfl ?_
  refine al Tryz.zeroValue50 rfl rfl (fun b_12 => ?_)
  refine asg rfl rfl ?_
  refine sa Tryz.sizeOf50 rfl rfl rfl rfl rfl .head ?_
  refine nl ?_
  refine sr ?_
  refine fa0 F50_4 rfl rfl ?_
  refine ld (Says.own .head) Tryz.isAgg3 rfl (Nat.zero_add _).symm rfl rfl ?_
  refine lt rfl rfl rfl ?_
  refine mv rfl rfl ?_
  refine spl (t := 31) rfl (fun h31 => ?_) (fun h31 => ?_)
  ·
   refine gr rfl rfl ?_
   refine la (Says.own .head) Tryz.isAgg50 Tryz.sizeOf50 rfl (Nat.zero_add _).symm rfl rfl ?_
   refine gr rfl rfl ?_
   refine mv rfl rfl ?_
   refine gr rfl rfl ?_
   refine cl rfl rfl rfl s_has rfl (fun v H1 L1 hle hR => ?_)
   obtain ⟨rfl, rfl, rfl⟩ := hR
   refine pk rfl rfl rfl rfl ?_
   refine nl ?_
   refine cbU rfl (fun h35 => ?_) (fun h35 => ?_)
   ·
    refine rgD 10 (.keep (.skip (.keep .nil))) mixed ?_
    refine dU 0 rfl rfl rfl (y_mv rfl) (.keep (.skip (.keep .nil))) ler ?_
    refine dU 1 rfl rfl rfl (y_la (Says.own .head) Tryz.isAgg50 Tryz.sizeOf50 rfl (Nat.zero_add _).symm rfl) (.keep (.skip (.keep .nil))) ler ?_
    refine dU 2 rfl rfl rfl (y_mv rfl) (.keep (.skip (.keep .nil))) ler ?_
    refine dU 3 rfl rfl rfl (y_mv rfl) (.keep (.skip (.keep .nil))) ler ?_
    refine dU 4 rfl rfl rfl (y_la (Says.own (.tail .head)) Tryz.isAgg26 Tryz.sizeOf26 rfl (Nat.zero_add _).symm rfl) (.keep (.skip (.keep .nil))) ler ?_
    refine dU 5 rfl rfl rfl (y_mv rfl) (.keep (.skip (.keep .nil))) ler ?_
    refine dE 6 (by kernel_rfl) rfl ?_
    refine cl rfl rfl rfl (s_at (i := k) (hT.mono le_2)) rfl (fun v H1 L1 hle hR => ?_)
    obtain ⟨rfl, rfl, c42, rfl, g42⟩ := hR
    refine dN (.keep (.skip (.keep .nil))) ler ?_
    refine dE 7 (by kernel_rfl) rfl ?_
    have hsz0 := piece_size (flex := flex) (t := t) hk h31 h35; have hsz : (fieldB fs[k] v flex (t.at k)).length ≤ B46 := by omega
    unfold B46 at hb
    refine cl rfl rfl rfl (s_field (hP _ (List.getElem_mem hk)) q_11 g42 hsz) rfl (fun v H1 L1 le_13 hR => ?_)
    obtain ⟨a43, c43, N43, rfl, rfl, h43⟩ := hR
    refine dN (.skip (.keep (.skip (.keep .nil)))) le_13 ?_
    refine dE 8 (by kernel_rfl) rfl ?_
    refine ap (news := bytesOf ((fieldB fs[k] v flex (t.at k)))) Tryz.underlying22 I5 rfl rfl pk0 (fun _ => (.tail (.tail .head))) (src_row Tryz.underlying22 h43.1 .head) (by omega) (by unfold maxLen; omega) rfl (fun a44 c44 N44 r44 z44 => ?_)
    rw [← bytesOf_append] at r44
    refine dN (.skip (.keep (.skip (.keep .nil)))) le_13 ?_
    refine dU 9 rfl rfl rfl (y_asg rfl) (.skip (.keep (.skip (.keep .nil)))) le_13 ?_
    refine dD (by kernel_rfl) ?_
    refine Nb ?_
    refine drN .head ?_
    refine drN .head ?_
    refine fun a w hA hw => ⟨_, _, _, hA.sub ?_, (le_2.trans le_13), hw, _, rfl, N44, a44, _, c44, rfl, hF_4 _, (by rw [piece_yes hk h31 h35]; exact r44), (by rw [piece_yes hk h31 h35, List.length_append]; omega)⟩
    exact (.of ⟨rfl, rfl, rfl, rfl, rfl, rfl, rfl, rfl, rfl, rfl, trivial⟩)
   ·
    refine skN ?_
    refine Nb ?_
    refine drN .head ?_
    refine fun a w hA hw => ⟨_, _, _, hA.sub ?_, le_2, hw, _, rfl, N, a1, _, cap, rfl, hF_4 _, (by rw [piece_no2 hk h35]; exact pk0), (by rw [piece_no2 hk h35]; exact pk1)⟩
    exact (.of ⟨rfl, rfl, rfl, rfl, rfl, rfl, rfl, rfl, rfl, rfl, trivial⟩)
  ·
   refine gs rfl rfl rfl rfl ?_
   refine gs rfl rfl rfl rfl ?_
   refine gs rfl rfl rfl rfl ?_
   refine pk rfl rfl rfl rfl ?_
   refine nl ?_
   refine cF rfl ?_
   refine skN ?_
   refine Nb ?_
   refine drN .head ?_
   refine fun a w hA hw => ⟨_, _, _, hA.sub ?_, le_2, hw, _, rfl, N, a1, _, cap, rfl, hF_4 _, (by rw [piece_no1 hk h31]; exact pk0), (by rw [piece_no1 hk h31]; exact pk1)⟩
   exact (.of ⟨rfl, rfl, rfl, rfl, rfl, rfl, rfl, rfl, rfl, rfl, trivial⟩)
 ·
  obtain ⟨N, a1, m, cap, rfl, rfl, pk0, pk1⟩ := hI
  rw [hF_4]
  refine toWp ?_
  refine sq ?_
  refine sr ?_
  refine mv rfl rfl ?_
  refine nt rfl rfl ?_
  refine nl ?_
  refine cbU rfl (fun h47 => ?_) (fun h47 => ?_)
  ·
   have hfx : flex = false := by simpa using h47
   subst hfx
   have hpl := pk0; have hplm := pk1
   refine sr ?_
   refine mv rfl rfl ?_
   refine asg rfl rfl ?_
   refine nl ?_
   refine drW (.tail .head) ?_
   exact rT rfl rfl le_3 (fun _ _ h => h) (OutB.of hpl partB_false)
  ·
   have hfx : flex = true := by simpa using h47
   subst hfx
   have hpl := pk0; have hplm := pk1
   have hkn := known_few hF
   refine skt ?_
   refine sq ?_
   refine sr ?_
   refine mv rfl rfl ?_
   refine cl rfl rfl rfl (s_known (hF.mono le_3)) rfl (fun v H1 L1 hle hR => ?_)
   obtain ⟨rfl, rfl, rfl⟩ := hR
   refine cv Tryz.runUnderlying62 Tryz.runUnderlying3 rfl (w64 (by omega) (by omega)) rfl ?_
   refine mv rfl rfl ?_
   refine nl ?_
   refine nilC ?_
   refine capF (N := []) (fun _ => .head) (fun F_16 hF_16 => ?_)
   refine fr (known fs) (fun k l' H' L' => ∃ M : Chunk, ∃ a2 m2 cap2 q, [(0, .slice a fs.length c0), (1, .int .i64 v), (2, .bool true), (7, .pointer (some ⟨b_1, 0, none⟩)), (9, .slice a1 m cap), (10, .slice a2 m2 cap2), (11, .int .i64 (q : Int)), (51, .int .i64 ((known fs : Nat) : Int))] = l' ∧ F_16 M = L' ∧ Row 5 1 a2 m2 cap2 (bytesOf (tagsTo (zipped fs v true t) k 0).flatten) M ∧ m2 = (tagsTo (zipped fs v true t) k 0).flatten.length ∧ q = (tagsTo (zipped fs v true t) k 0).length) [(0, .slice a fs.length c0), (1, .int .i64 v), (2, .bool true), (7, .pointer (some ⟨b_1, 0, none⟩)), (9, .slice a1 m cap), (10, .slice none 0 0), (11, .int .i64 (0 : Int)), (51, .int .i64 ((known fs : Nat) : Int))] (fun k l' H' L' h => ?_) (by omega) rfl (.of ⟨rfl, rfl, rfl, rfl, rfl, rfl, rfl, rfl, trivial⟩) ⟨[], none, 0, 0, 0, rfl, rfl, (Row.nil _ _), rfl, rfl⟩ rfl rfl rfl rfl rfl (fun k l' H' L' hk le_14 hI => ?_) (fun l' H' L' le_15 hI => ?_)
   · obtain ⟨M, a2, m2, cap2, q, rfl, _⟩ := h; exact ⟨rfl, rfl, rfl, rfl⟩
   ·
    obtain ⟨M, a2, m2, cap2, q, rfl, rfl, pk0, pk1, pk2⟩ := hI
    rw [hF_16]
    refine sr ?_
    refine mv rfl rfl ?_
    refine asg rfl rfl ?_
    refine nl ?_
    refine sr ?_
    refine mv rfl rfl ?_
    refine ls Tryz.runUnderlying29 rfl rfl ?_
    refine mv rfl rfl ?_
    refine nl ?_
    refine capF (N := M) (fun _ => .head) (fun F_19 hF_19 => ?_)
    refine fr (fs.length) (fun i l' H' L' => ∃ M3 : Chunk, ∃ a3 m3 cap3 q3, [(0, .slice a fs.length c0), (1, .int .i64 v), (2, .bool true), (7, .pointer (some ⟨b_1, 0, none⟩)), (9, .slice a1 m cap), (51, .int .i64 ((known fs : Nat) : Int)), (52, .int .i64 (k : Int)), (14, .int .i64 (k : Int)), (10, .slice a3 m3 cap3), (11, .int .i64 (q3 : Int)), (55, .slice a fs.length c0), (56, .int .i64 (fs.length : Int))] = l' ∧ F_19 M3 = L' ∧ Row 5 1 a3 m3 cap3 (bytesOf (tagsTo (zipped fs v true t) k i).flatten) M3 ∧ m3 = (tagsTo (zipped fs v true t) k i).flatten.length ∧ q3 = (tagsTo (zipped fs v true t) k i).length) [(0, .slice a fs.length c0), (1, .int .i64 v), (2, .bool true), (7, .pointer (some ⟨b_1, 0, none⟩)), (9, .slice a1 m cap), (51, .int .i64 ((known fs : Nat) : Int)), (52, .int .i64 (k : Int)), (14, .int .i64 (k : Int)), (10, .slice a2 m2 cap2), (11, .int .i64 (q : Int)), (55, .slice a fs.length c0), (56, .int .i64 (fs.length : Int))] (fun i l' H' L' h => ?_) (by have := hF.few; omega) rfl (.of ⟨rfl, rfl, rfl, rfl, rfl, rfl, rfl, rfl, rfl, rfl, rfl, rfl, trivial⟩) ⟨M, a2, m2, cap2, q, rfl, rfl, pk0, pk1, pk2⟩ rfl rfl rfl rfl rfl (fun i l' H' L' hi le_17 hI => ?_) (fun l' H' L' le_18 hI => ?_)
    · obtain ⟨M3, a3, m3, cap3, q3, rfl, _⟩ := h; exact ⟨rfl, rfl, rfl, rfl⟩
    ·
     obtain ⟨M3, a3, m3, cap3, q3, rfl, rfl, pi0, pi1, pi2⟩ := hI
     rw [hF_19]
     have hcnt := tags_count (v := v) (t := t) (i := i) hk
     refine sr ?_
     refine mv rfl rfl ?_
     obtain ⟨b_20, o_21, e_22, g_23⟩ := (hF.mono (le_3.trans (le_14.trans le_17))).at_ (ne_nil_of_lt hi)
     obtain ⟨c_24, q_25, q_26⟩ := g_23 i hi
     refine ix2 Tryz.runUnderlying29 Tryz.sizeOf50 rfl e_22 rfl rfl hi rfl ?_
     refine la (Says.fz q_25) Tryz.isAgg50 Tryz.sizeOf50 rfl (Nat.add_zero _).symm rfl rfl ?_
     refine al Tryz.zeroValue50 rfl rfl (fun b_27 => ?_)
     refine asg rfl rfl ?_
     refine sa Tryz.sizeOf50 rfl rfl rfl rfl rfl .head ?_
     refine nl ?_
     refine sq ?_
     refine rgD 12 (.keep (.skip (.skip (.keep .nil)))) mixed ?_
     refine dU 0 rfl rfl rfl (y_fa0 F50_4 rfl) (.keep (.skip (.skip (.keep .nil)))) ler ?_
     refine dU 1 rfl rfl rfl (y_ld (Says.own .head) Tryz.isAgg3 rfl (Nat.zero_add _).symm rfl) (.keep (.skip (.skip (.keep .nil)))) ler ?_
     refine dU 2 rfl rfl rfl (y_mv rfl) (.keep (.skip (.skip (.keep .nil)))) ler ?_
     refine dU 3 rfl rfl rfl (y_eq rfl rfl) (.keep (.skip (.skip (.keep .nil)))) ler ?_
     refine dU 4 rfl rfl rfl (y_mv rfl) (.keep (.skip (.skip (.keep .nil)))) ler ?_
     refine splH (t := 66) rfl (fun h66 => ?_) (fun h66 => ?_)
     ·
      refine dU 5 rfl rfl rfl (y_gr rfl rfl (y_la (Says.own .head) Tryz.isAgg50 Tryz.sizeOf50 rfl (Nat.zero_add _).symm rfl)) (.keep (.skip (.skip (.keep .nil)))) ler ?_
      refine dU 6 rfl rfl rfl (y_gr rfl rfl (y_la (Says.own (.tail .head)) Tryz.isAgg26 Tryz.sizeOf26 rfl (Nat.zero_add _).symm rfl)) (.keep (.skip (.skip (.keep .nil)))) ler ?_
      refine dU 7 rfl rfl rfl (y_gr rfl rfl (y_mv rfl)) (.keep (.skip (.skip (.keep .nil)))) ler ?_
      refine dE 8 (by kernel_rfl) rfl ?_
      refine gr rfl rfl ?_
      refine cl rfl rfl rfl (s_at (i := i) (hT.mono (le_3.trans (le_14.trans le_17)))) rfl (fun v H1 L1 hle hR => ?_)
      obtain ⟨rfl, rfl, c70, rfl, g70⟩ := hR
      refine dN (.keep (.skip (.skip (.keep .nil)))) ler ?_
      refine dE 9 (by kernel_rfl) rfl ?_
      refine gr rfl rfl ?_
      refine cl rfl rfl rfl (s_usual _ q_26 g70) rfl (fun v H1 L1 le71 hR => ?_)
      obtain ⟨rfl, rfl⟩ := hR
      refine dN (.keep (.skip (.skip (.keep .nil)))) le71 ?_
      refine dU 10 rfl rfl rfl (y_gr rfl rfl (y_nt rfl)) (.keep (.skip (.skip (.keep .nil)))) le71 ?_
      refine dU 11 rfl rfl rfl (y_pk rfl rfl rfl) (.keep (.skip (.skip (.keep .nil)))) le71 ?_
      refine dD (by kernel_rfl) ?_
      refine Nt ?_
      refine cbU rfl (fun h73 => ?_) (fun h73 => ?_)
      ·
       refine sq ?_
       refine rgD 8 (.keep (.skip (.skip (.keep .nil)))) mixed ?_
       refine dU 0 rfl rfl rfl (y_la (Says.own .head) Tryz.isAgg50 Tryz.sizeOf50 rfl (Nat.zero_add _).symm rfl) (.keep (.skip (.skip (.keep .nil)))) ler ?_
       refine dU 1 rfl rfl rfl (y_mv rfl) (.keep (.skip (.skip (.keep .nil)))) ler ?_
       refine dU 2 rfl rfl rfl (y_mv rfl) (.keep (.skip (.skip (.keep .nil)))) ler ?_
       refine dU 3 rfl rfl rfl (y_la (Says.own (.tail .head)) Tryz.isAgg26 Tryz.sizeOf26 rfl (Nat.zero_add _).symm rfl) (.keep (.skip (.skip (.keep .nil)))) ler ?_
       refine dU 4 rfl rfl rfl (y_mv rfl) (.keep (.skip (.skip (.keep .nil)))) ler ?_
       refine dE 5 (by kernel_rfl) rfl ?_
       refine cl rfl rfl rfl (s_at (i := i) (hT.mono (le_3.trans (le_14.trans (le_17.trans le71))))) rfl (fun v H1 L1 hle hR => ?_)
       obtain ⟨rfl, rfl, c79, rfl, g79⟩ := hR
       refine dN (.keep (.skip (.skip (.keep .nil)))) ler ?_
       refine dE 6 (by kernel_rfl) rfl ?_
       have hsz0 := tags_size (v := v) hk hi h66 h73; have hsz : (fieldB fs[i] v true (t.at i)).length ≤ B46 := by omega
       unfold B46 at hb
       refine cl rfl rfl rfl (s_field (hP _ (List.getElem_mem hi)) (q_26.mono le71) g79 hsz) rfl (fun v H1 L1 le_28 hR => ?_)
       obtain ⟨a80, c80, N80, rfl, rfl, h80⟩ := hR
       refine dN (.skip (.keep (.skip (.skip (.keep .nil))))) le_28 ?_
       refine dU 7 rfl rfl rfl (y_asg rfl) (.skip (.keep (.skip (.skip (.keep .nil))))) le_28 ?_
       refine dD (by kernel_rfl) ?_
       refine Nt ?_
       refine sr ?_
       refine mv rfl rfl ?_
       refine mv rfl rfl ?_
       refine cv Tryz.runUnderlying3 Tryz.runUnderlying121 rfl (wrap_u64 (by omega) (by omega)) rfl ?_
       refine cl rfl rfl rfl (s_uvar (n := k) (by omega)) rfl (fun v H1 L1 hle hR => ?_)
       obtain ⟨rfl, a84, c84, N84, rfl, rfl, h84⟩ := hR
       refine ap (news := bytesOf ((uvar k))) Tryz.underlying22 I5 rfl rfl pi0 (fun _ => (.tail (.tail (.tail .head)))) (src_row Tryz.underlying22 h84.1 .head) (by omega) (by unfold maxLen; omega) rfl (fun a85 c85 N85 r85 z85 => ?_)
       rw [← bytesOf_append] at r85
       refine mv rfl rfl ?_
       refine ls Tryz.runUnderlying22 rfl rfl ?_
       refine cv Tryz.runUnderlying3 Tryz.runUnderlying121 rfl (wrap_u64 (by omega) (by omega)) rfl ?_
       refine cl rfl rfl rfl (s_uvar (n := (fieldB fs[i] v true (t.at i)).length) (by omega)) rfl (fun v H1 L1 hle hR => ?_)
       obtain ⟨rfl, a89, c89, N89, rfl, rfl, h89⟩ := hR
       refine ap (news := bytesOf ((uvar (fieldB fs[i] v true (t.at i)).length))) Tryz.underlying22 I5 rfl rfl r85 (fun _ => (.tail (.tail (.tail (.tail .head))))) (src_row Tryz.underlying22 h89.1 .head) (by omega) (by unfold maxLen; omega) rfl (fun a90 c90 N90 r90 z90 => ?_)
       rw [← bytesOf_append] at r90
       refine mv rfl rfl ?_
       refine ap (news := bytesOf ((fieldB fs[i] v true (t.at i)))) Tryz.underlying22 I5 rfl rfl r90 (fun _ => (.tail (.tail (.tail (.tail .head))))) (src_row Tryz.underlying22 h80.1 (.tail (.tail .head))) (by omega) (by unfold maxLen; omega) rfl (fun a92 c92 N92 r92 z92 => ?_)
       rw [← bytesOf_append] at r92
       refine asg rfl rfl ?_
       refine nl ?_
       refine rg ?_
       refine mv rfl rfl ?_
       refine ad rfl rfl (w64 (by omega) (by omega)) rfl ?_
       refine asg rfl rfl ?_
       refine nN ?_
       refine Nb ?_
       refine drN .head ?_
       refine drN .head ?_
       refine drN .head ?_
       refine drN .head ?_
       refine fun a w hA hw => ⟨_, _, _, hA.sub ?_, (le_17.trans (le71.trans le_28)), hw, _, rfl, N92, a92, _, c92, (q3 + 1), rfl, hF_19 _, (by rw [tags_yes hi h66 h73, List.flatten_append]; simpa only [tagB, List.flatten_cons, List.flatten_nil, List.append_nil, List.append_assoc] using r92), (by rw [tags_yes hi h66 h73]; simp only [tagB, List.flatten_append, List.flatten_cons, List.flatten_nil, List.append_nil, List.length_append]; omega), (by rw [tags_yes hi h66 h73]; simp; omega)⟩
       exact (.of ⟨rfl, rfl, rfl, rfl, rfl, rfl, rfl, rfl, rfl, rfl, rfl, rfl, rfl, trivial⟩)
      ·
       refine skN ?_
       refine Nb ?_
       refine drN .head ?_
       refine fun a w hA hw => ⟨_, _, _, hA.sub ?_, (le_17.trans le71), hw, _, rfl, M3, a3, m3, cap3, q3, rfl, hF_19 _, (by rw [tags_no2 hi h73]; exact pi0), (by rw [tags_no2 hi h73]; exact pi1), (by rw [tags_no2 hi h73]; exact pi2)⟩
       exact (.of ⟨rfl, rfl, rfl, rfl, rfl, rfl, rfl, rfl, rfl, rfl, rfl, rfl, rfl, trivial⟩)
     ·
      refine dU 5 rfl rfl rfl (y_gs rfl rfl rfl) (.keep (.skip (.skip (.keep .nil)))) ler ?_
      refine dU 6 rfl rfl rfl (y_gs rfl rfl rfl) (.keep (.skip (.skip (.keep .nil)))) ler ?_
      refine dU 7 rfl rfl rfl (y_gs rfl rfl rfl) (.keep (.skip (.skip (.keep .nil)))) ler ?_
      refine dE 8 (by kernel_rfl) rfl ?_
      refine gs rfl rfl rfl rfl ?_
      refine dN (.keep (.skip (.skip (.keep .nil)))) ler ?_
      refine dE 9 (by kernel_rfl) rfl ?_
      refine gs rfl rfl rfl rfl ?_
      refine dN (.keep (.skip (.skip (.keep .nil)))) ler ?_
      refine dU 10 rfl rfl rfl (y_gs rfl rfl rfl) (.keep (.skip (.skip (.keep .nil)))) ler ?_
      refine dU 11 rfl rfl rfl (y_pk rfl rfl rfl) (.keep (.skip (.skip (.keep .nil)))) ler ?_
      refine dD (by kernel_rfl) ?_
      refine Nt ?_
      refine cF rfl ?_
      refine skN ?_
      refine Nb ?_
      refine drN .head ?_
      refine fun a w hA hw => ⟨_, _, _, hA.sub ?_, le_17, hw, _, rfl, M3, a3, m3, cap3, q3, rfl, hF_19 _, (by rw [tags_no1 hi h66]; exact pi0), (by rw [tags_no1 hi h66]; exact pi1), (by rw [tags_no1 hi h66]; exact pi2)⟩
      exact (.of ⟨rfl, rfl, rfl, rfl, rfl, rfl, rfl, rfl, rfl, rfl, rfl, rfl, rfl, trivial⟩)
    ·
     obtain ⟨M3, a3, m3, cap3, q3, rfl, rfl, pi0, pi1, pi2⟩ := hI
     rw [hF_19]
     refine toNn ?_
     refine Nb ?_
     refine fun a w hA hw => ⟨_, _, _, hA.sub ?_, (le_14.trans le_18), hw, _, rfl, M3, a3, m3, cap3, q3, rfl, hF_16 _, (by rw [← tags_end]; exact pi0), (by rw [← tags_end]; exact pi1), (by rw [← tags_end]; exact pi2)⟩
     exact (.of ⟨rfl, rfl, rfl, rfl, rfl, rfl, rfl, rfl, rfl, trivial⟩)
   ·
    obtain ⟨M, a2, m2, cap2, q, rfl, rfl, pk0, pk1, pk2⟩ := hI
    rw [hF_16]
    refine toWp ?_
    refine sq ?_
    refine sr ?_
    refine mv rfl rfl ?_
    refine fa0 F26_4 rfl rfl ?_
    refine ld (Says.own (.tail (.tail .head))) Tryz.isAgg24 rfl (Nat.zero_add _).symm rfl rfl ?_
    refine cl rfl rfl rfl (s_unknown (hF.mono (le_3.trans le_15)) (hT.u.mono (le_3.trans le_15))) rfl (fun v H1 L1 le100 hR => ?_)
    obtain ⟨rfl, a100, c100, rfl, g100⟩ := hR
    have hul := unknown_len fs t.u
    refine ls Tryz.runUnderlying24 rfl rfl ?_
    refine mv rfl rfl ?_
    refine nl ?_
    refine capF (N := M) (fun _ => .head) (fun F_31 hF_31 => ?_)
    refine fr ((unknown fs t.u).length) (fun j l' H' L' => ∃ M3 : Chunk, ∃ a3 m3 cap3 q3, [(1, .int .i64 v), (2, .bool true), (7, .pointer (some ⟨b_1, 0, none⟩)), (9, .slice a1 m cap), (10, .slice a3 m3 cap3), (11, .int .i64 (q3 : Int)), (100, .slice a100 (unknown fs t.u).length c100), (101, .int .i64 ((unknown fs t.u).length : Int))] = l' ∧ F_31 M3 = L' ∧ Row 5 1 a3 m3 cap3 (bytesOf (tagsTo (zipped fs v true t) (known fs) 0 ++ unkTo (unknown fs t.u) j).flatten) M3 ∧ m3 = (tagsTo (zipped fs v true t) (known fs) 0 ++ unkTo (unknown fs t.u) j).flatten.length ∧ q3 = (tagsTo (zipped fs v true t) (known fs) 0 ++ unkTo (unknown fs t.u) j).length) [(1, .int .i64 v), (2, .bool true), (7, .pointer (some ⟨b_1, 0, none⟩)), (9, .slice a1 m cap), (10, .slice a2 m2 cap2), (11, .int .i64 (q : Int)), (100, .slice a100 (unknown fs t.u).length c100), (101, .int .i64 ((unknown fs t.u).length : Int))] (fun j l' H' L' h => ?_) (by omega) rfl (.of ⟨rfl, rfl, rfl, rfl, rfl, rfl, rfl, rfl, trivial⟩) ⟨M, a2, m2, cap2, q, rfl, rfl, (by simpa [unkTo] using pk0), (by simpa [unkTo] using pk1), (by simpa [unkTo] using pk2)⟩ rfl rfl rfl rfl rfl (fun j l' H' L' hj le_29 hI => ?_) (fun l' H' L' le_30 hI => ?_)
    · obtain ⟨M3, a3, m3, cap3, q3, rfl, _⟩ := h; exact ⟨rfl, rfl, rfl, rfl⟩
    ·
     obtain ⟨M3, a3, m3, cap3, q3, rfl, rfl, pj0, pj1, pj2⟩ := hI
     rw [hF_31]
     have hsz0 := unk_size (fs := fs) (v := v) hj; have hcnt := length_le_flatten (tagsTo (zipped fs v true t) (known fs) 0 ++ unkTo (unknown fs t.u) j) (fun b hb => (List.mem_append.1 hb).elim (tagsTo_mem b) (unkTo_mem b))
     unfold B46 at hb
     refine sr ?_
     obtain ⟨b_32, o_33, e_34, g_35⟩ := (g100.mono le_29).at_ (ne_nil_of_lt hj)
     obtain ⟨c_36, q_37, q_38⟩ := g_35 j hj
     refine ix2 Tryz.runUnderlying24 Tryz.sizeOf64 rfl e_34 rfl rfl hj rfl ?_
     refine la (Says.fz q_37) Tryz.isAgg64 Tryz.sizeOf64 rfl (Nat.add_zero _).symm rfl rfl ?_
     have hlo := q_38.lo; have hhi := q_38.hi
     refine al Tryz.zeroValue64 rfl rfl (fun b_39 => ?_)
     refine sa Tryz.sizeOf64 rfl rfl rfl rfl rfl .head ?_
     refine nl ?_
     refine sr ?_
     refine fa0 F64_1 rfl rfl ?_
     refine ld (Says.own .head) Tryz.isAgg22 rfl (Nat.zero_add _).symm rfl rfl ?_
     refine cl rfl rfl rfl (s_whole q_38.val rfl) rfl (fun v H1 L1 hle hR => ?_)
     obtain ⟨rfl, rfl, rfl⟩ := hR
     have q108 := whole_len (((unknown fs t.u)[j]).2)
     refine asg rfl rfl ?_
     refine nl ?_
     refine sr ?_
     refine mv rfl rfl ?_
     refine fa0 F64_0 rfl rfl ?_
     refine ld (Says.own .head) Tryz.isAgg62 rfl (Nat.zero_add _).symm rfl rfl ?_
     refine cv Tryz.runUnderlying62 Tryz.runUnderlying121 rfl ((wrap_u64 (by omega) (by omega)).trans (by omega : _ = (((unknown fs t.u)[j].1.toNat : Nat) : Int))) rfl ?_
     refine cl rfl rfl rfl (s_uvar (n := (unknown fs t.u)[j].1.toNat) (by omega)) rfl (fun v H1 L1 hle hR => ?_)
     obtain ⟨rfl, a113, c113, N113, rfl, rfl, h113⟩ := hR
     refine ap (news := bytesOf ((uvar (unknown fs t.u)[j].1.toNat))) Tryz.underlying22 I5 rfl rfl pj0 (fun _ => (.tail (.tail .head))) (src_row Tryz.underlying22 h113.1 .head) (by omega) (by unfold maxLen; omega) rfl (fun a114 c114 N114 r114 z114 => ?_)
     rw [← bytesOf_append] at r114
     refine mv rfl rfl ?_
     refine ls Tryz.runUnderlying22 rfl rfl ?_
     refine cv Tryz.runUnderlying3 Tryz.runUnderlying121 rfl (wrap_u64 (by omega) (by omega)) rfl ?_
     refine cl rfl rfl rfl (s_uvar (n := (whole (unknown fs t.u)[j].2).length) (by omega)) rfl (fun v H1 L1 hle hR => ?_)
     obtain ⟨rfl, a118, c118, N118, rfl, rfl, h118⟩ := hR
     refine ap (news := bytesOf ((uvar (whole (unknown fs t.u)[j].2).length))) Tryz.underlying22 I5 rfl rfl r114 (fun _ => (.tail (.tail (.tail .head)))) (src_row Tryz.underlying22 h118.1 .head) (by omega) (by unfold maxLen; omega) rfl (fun a119 c119 N119 r119 z119 => ?_)
     rw [← bytesOf_append] at r119
     refine mv rfl rfl ?_
     refine ap (news := bytesOf ((whole ((unknown fs t.u)[j]).2))) Tryz.underlying22 I5 rfl rfl r119 (fun _ => (.tail (.tail (.tail .head)))) (src_bytes Tryz.underlying22 (q_38.val.take most) rfl) (by omega) (by unfold maxLen; omega) rfl (fun a121 c121 N121 r121 z121 => ?_)
     rw [← bytesOf_append] at r121
     refine asg rfl rfl ?_
     refine nl ?_
     refine rg ?_
     refine mv rfl rfl ?_
     refine ad rfl rfl (w64 (by omega) (by omega)) rfl ?_
     refine asg rfl rfl ?_
     refine nN ?_
     refine Nb ?_
     refine drN .head ?_
     refine drN .head ?_
     refine drN .head ?_
     refine fun a w hA hw => ⟨_, _, _, hA.sub ?_, le_29, hw, _, rfl, N121, a121, _, c121, (q3 + 1), rfl, hF_31 _, (by rw [unkTo_succ hj, ← List.append_assoc]; simpa only [List.flatten_append, tagB, List.flatten_cons, List.flatten_nil, List.append_nil, List.append_assoc] using r121), (by rw [unkTo_succ hj, ← List.append_assoc]; simp only [List.flatten_append, tagB, List.flatten_cons, List.flatten_nil, List.append_nil, List.length_append] at pj1 ⊢; omega), (by rw [unkTo_succ hj, ← List.append_assoc]; simp only [List.length_append, List.length_cons, List.length_nil] at pj2 ⊢; omega)⟩
     exact (.of ⟨rfl, rfl, rfl, rfl, rfl, rfl, rfl, rfl, rfl, trivial⟩)
    ·
     obtain ⟨M3, a3, m3, cap3, q3, rfl, rfl, pj0, pj1, pj2⟩ := hI
     rw [hF_31]
     have hps := part_size (fs := fs) (v := v) (t := t); have hcnt := length_le_flatten (tagsTo (zipped fs v true t) (known fs) 0 ++ unkTo (unknown fs t.u) (unknown fs t.u).length) (fun b hb => (List.mem_append.1 hb).elim (tagsTo_mem b) (unkTo_mem b))
     unfold B46 at hb
     refine toWp ?_
     refine sr ?_
     refine mv rfl rfl ?_
     refine mv rfl rfl ?_
     refine cv Tryz.runUnderlying3 Tryz.runUnderlying121 rfl ((wrap_u64 (by omega) (by omega)).trans (by omega : _ = (((tagsTo (zipped fs v true t) (known fs) 0 ++ unkTo (unknown fs t.u) (unknown fs t.u).length).length : Nat) : Int))) rfl ?_
     refine cl rfl rfl rfl (s_uvar (n := (tagsTo (zipped fs v true t) (known fs) 0 ++ unkTo (unknown fs t.u) (unknown fs t.u).length).length) (by omega)) rfl (fun v H1 L1 hle hR => ?_)
     obtain ⟨rfl, a128, c128, N128, rfl, rfl, h128⟩ := hR
     refine ap (news := bytesOf ((uvar (tagsTo (zipped fs v true t) (known fs) 0 ++ unkTo (unknown fs t.u) (unknown fs t.u).length).length))) Tryz.underlying22 I5 rfl rfl hpl (fun _ => (.tail (.tail .head))) (src_row Tryz.underlying22 h128.1 .head) (by omega) (by unfold maxLen; omega) rfl (fun a129 c129 N129 r129 z129 => ?_)
     rw [← bytesOf_append] at r129
     refine mv rfl rfl ?_
     refine ap (news := bytesOf (((tagsTo (zipped fs v true t) (known fs) 0 ++ unkTo (unknown fs t.u) ((unknown fs t.u).length)).flatten))) Tryz.underlying22 I5 rfl rfl r129 (fun _ => (.tail (.tail .head))) (src_row Tryz.underlying22 pj0 (.tail .head)) (by omega) (by unfold maxLen; omega) rfl (fun a131 c131 N131 r131 z131 => ?_)
     rw [← bytesOf_append] at r131
     refine asg rfl rfl ?_
     refine nl ?_
     refine drW .head ?_
     refine drW .head ?_
     refine drW (.tail .head) ?_
     exact rT rfl rfl (le_3.trans (le_15.trans (le100.trans le_30))) (fun _ _ h => h) (OutB.of r131 (by rw [partB_true]))
theorem s_part (fs : List Fd) (v : Int) (flex : Bool) : PartC fs v flex := by
 induction hsz : SizeOf.sizeOf fs using Nat.strongRecOn generalizing fs with
 | _ sz ih =>
  refine s_part0 fun f hf => ih _ ?_ f.sub rfl
  have h1 := List.sizeOf_lt_of_mem hf
  have h2 : SizeOf.sizeOf f.sub < SizeOf.sizeOf f := by cases f; simp [Fd.sub]; omega
  omega
end Go.Sx
