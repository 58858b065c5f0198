import Derived.Test.YtpcgaheplmiglaaGreatSxTab
import Derived.Test.YtpcgaheplmiglaaGreatLibC
import Derived.KernelRfl
set_option linter.unusedVariables false
set_option linter.unusedSimpArgs false
set_option maxRecDepth 100000
set_option maxHeartbeats 20000000
namespace Go.Sx
open Go.Proofs
theorem s_at {H : Fz} {L : Own} {c : TC} {t : Tr} {i : Nat} (hT : TreeAt H c t) :
  Fn Tryz.prog 22 [.agg (c.cells t).toArray, .int .i64 (i : Int)] H L (fun v H' L' => H = H' ∧ L = L' ∧ ∃ c', v = .agg (c'.cells (t.at i)).toArray ∧ TreeAt H c' (t.at i)) := by
 refine Fn.mk Tryz.call22 Tryz.func22 rfl Tryz.ntmps22 rfl ?_
 refine sr ?_
 refine bx rfl rfl rfl (fun b_1 => ?_)
 refine al Tryz.zeroValue26 rfl rfl (fun b_2 => ?_)
 refine nl ?_
 refine sq ?_
 refine sr ?_
 refine mv rfl rfl ?_
 refine fa0 F26_3 rfl rfl ?_
 refine ld (Says.own (.tail .head)) Tryz.isAgg23 rfl (Nat.zero_add _).symm rfl rfl ?_
 refine ls Tryz.runUnderlying23 rfl rfl ?_
 refine lt rfl rfl rfl ?_
 refine nl ?_
 refine cd rfl (fun h9 => ?_) (fun h9 => ?_)
 ·
  refine sr ?_
  refine fa0 F26_3 rfl rfl ?_
  refine ld (Says.own (.tail .head)) Tryz.isAgg23 rfl (Nat.zero_add _).symm rfl rfl ?_
  refine mv rfl rfl ?_
  have hi : i < t.l.length := by omega
  obtain ⟨b_3, o_4, e_5, g_6⟩ := hT.l.at_ (ne_nil_of_lt hi)
  obtain ⟨c_7, q_8, q_9⟩ := g_6 i hi
  refine ix2 Tryz.runUnderlying23 Tryz.sizeOf26 rfl e_5 rfl rfl hi rfl ?_
  refine la (Says.fz q_8) Tryz.isAgg26 Tryz.sizeOf26 rfl (Nat.add_zero _).symm rfl rfl ?_
  refine sa Tryz.sizeOf26 rfl rfl rfl rfl rfl .head ?_
  refine nl ?_
  refine drW (.tail .head) ?_
  exact rC rfl Tryz.isAgg26 Tryz.sizeOf26 rfl .head rfl ler (fun _ _ h => h) ⟨rfl, rfl, c_7, by rw [Tr.at_lt hi]; rfl, by rw [Tr.at_lt hi]; exact q_9⟩
 ·
  refine skt ?_
  refine sr ?_
  refine bd' S26 rfl rfl rfl ?_
  refine sa Tryz.sizeOf26 rfl rfl rfl rfl rfl .head ?_
  refine nl ?_
  refine drW (.tail .head) ?_
  exact rC rfl Tryz.isAgg26 Tryz.sizeOf26 rfl .head rfl ler (fun _ _ h => h) ⟨rfl, rfl, .none, by rw [Tr.at_ge (by omega)]; rfl, by rw [Tr.at_ge (by omega)]; exact .none H⟩
theorem s_has {H : Fz} {L : Own} {c : FC} {f : Fd} {ver : Int} :
  Fn Tryz.prog 62 [.agg (c.cells f).toArray, .int .i64 ver] H L (fun v H' L' => H = H' ∧ L = L' ∧ v = .bool (f.has ver)) := by
 refine Fn.mk Tryz.call62 Tryz.func62 rfl Tryz.ntmps62 rfl ?_
 refine sr ?_
 refine bx rfl rfl rfl (fun b_1 => ?_)
 refine asg rfl rfl ?_
 refine nl ?_
 refine sr ?_
 refine fa0 F50_1 rfl rfl ?_
 refine ld (Says.own .head) Tryz.isAgg3 rfl (Nat.zero_add _).symm rfl rfl ?_
 refine mv rfl rfl ?_
 refine le rfl rfl rfl ?_
 refine mv rfl rfl ?_
 refine spl (t := 9) rfl (fun h9 => ?_) (fun h9 => ?_)
 ·
  refine gr rfl rfl ?_
  refine fa0 F50_2 rfl rfl ?_
  refine gr rfl rfl ?_
  refine ld (Says.own .head) Tryz.isAgg3 rfl (Nat.zero_add _).symm rfl rfl ?_
  refine gr rfl rfl ?_
  refine lt rfl rfl rfl ?_
  refine gr rfl rfl ?_
  refine mv rfl rfl ?_
  refine spl (t := 13) rfl (fun h13 => ?_) (fun h13 => ?_)
  ·
   refine gs rfl rfl rfl rfl ?_
   refine gs rfl rfl rfl rfl ?_
   refine gs rfl rfl rfl rfl ?_
   refine gs rfl rfl rfl rfl ?_
   refine gr rfl rfl ?_
   refine pk rfl rfl rfl rfl ?_
   refine pk rfl rfl rfl rfl ?_
   refine asg rfl rfl ?_
   refine nl ?_
   refine drW .head ?_
   exact rT rfl rfl ler (fun _ _ h => h) ⟨rfl, rfl, by simp_all [Fd.has] <;> omega⟩
  ·
   refine gr rfl rfl ?_
   refine mv rfl rfl ?_
   refine gr rfl rfl ?_
   refine fa0 F50_2 rfl rfl ?_
   refine gr rfl rfl ?_
   refine ld (Says.own .head) Tryz.isAgg3 rfl (Nat.zero_add _).symm rfl rfl ?_
   refine gr rfl rfl ?_
   refine le rfl rfl rfl ?_
   refine gr rfl rfl ?_
   refine pk rfl rfl rfl rfl ?_
   refine pk rfl rfl rfl rfl ?_
   refine asg rfl rfl ?_
   refine nl ?_
   refine drW .head ?_
   exact rT rfl rfl ler (fun _ _ h => h) ⟨rfl, rfl, by simp_all [Fd.has] <;> omega⟩
 ·
  refine gs rfl rfl rfl rfl ?_
  refine gs rfl rfl rfl rfl ?_
  refine gs rfl rfl rfl rfl ?_
  refine gs rfl rfl rfl rfl ?_
  refine gu rfl rfl rfl ?_
  refine gu rfl rfl rfl ?_
  refine gu rfl rfl rfl ?_
  refine gu rfl rfl rfl ?_
  refine gs rfl rfl rfl rfl ?_
  refine pk rfl rfl rfl rfl ?_
  refine asg rfl rfl ?_
  refine nl ?_
  refine drW .head ?_
  exact rT rfl rfl ler (fun _ _ h => h) ⟨rfl, rfl, by simp_all [Fd.has] <;> omega⟩
theorem s_null {H : Fz} {L : Own} {c : FC} {f : Fd} {ver : Int} {e : TC} {t : Tr} :
  Fn Tryz.prog 59 [.agg (c.cells f).toArray, .int .i64 ver, .agg (e.cells t).toArray] H L (fun v H' L' => H = H' ∧ L = L' ∧ v = .bool (f.isNul ver t)) := by
 refine Fn.mk Tryz.call59 Tryz.func59 rfl Tryz.ntmps59 rfl ?_
 refine sr ?_
 refine bx rfl rfl rfl (fun b_1 => ?_)
 refine bx rfl rfl rfl (fun b_2 => ?_)
 refine asg rfl rfl ?_
 refine nl ?_
 refine sr ?_
 refine fa0 F26_2 rfl rfl ?_
 refine ld (Says.own .head) Tryz.isAgg4 rfl (Nat.zero_add _).symm rfl rfl ?_
 refine mv rfl rfl ?_
 refine splb (t := 9) rfl (fun h9 => ?_) (fun h9 => ?_)
 ·
  refine gr rfl rfl ?_
  refine fa0 F50_3 rfl rfl ?_
  refine gr rfl rfl ?_
  refine ld (Says.own (.tail .head)) Tryz.isAgg3 rfl (Nat.zero_add _).symm rfl rfl ?_
  refine gr rfl rfl ?_
  refine ge rfl rfl rfl ?_
  refine pk rfl rfl rfl rfl ?_
  refine mv rfl rfl ?_
  refine spl (t := 14) rfl (fun h14 => ?_) (fun h14 => ?_)
  ·
   refine gr rfl rfl ?_
   refine mv rfl rfl ?_
   refine gr rfl rfl ?_
   refine fa0 F50_3 rfl rfl ?_
   refine gr rfl rfl ?_
   refine ld (Says.own (.tail .head)) Tryz.isAgg3 rfl (Nat.zero_add _).symm rfl rfl ?_
   refine gr rfl rfl ?_
   refine ge rfl rfl rfl ?_
   refine pk rfl rfl rfl rfl ?_
   refine asg rfl rfl ?_
   refine nl ?_
   refine drW .head ?_
   refine drW .head ?_
   exact rT rfl rfl ler (fun _ _ h => h) ⟨rfl, rfl, by simp_all [Fd.isNul] <;> omega⟩
  ·
   refine gs rfl rfl rfl rfl ?_
   refine gs rfl rfl rfl rfl ?_
   refine gs rfl rfl rfl rfl ?_
   refine gs rfl rfl rfl rfl ?_
   refine pk rfl rfl rfl rfl ?_
   refine asg rfl rfl ?_
   refine nl ?_
   refine drW .head ?_
   refine drW .head ?_
   exact rT rfl rfl ler (fun _ _ h => h) ⟨rfl, rfl, by simp_all [Fd.isNul] <;> omega⟩
 ·
  refine gs rfl rfl rfl rfl ?_
  refine gs rfl rfl rfl rfl ?_
  refine gs rfl rfl rfl rfl ?_
  refine pk rfl rfl rfl rfl ?_
  refine mv rfl rfl ?_
  refine gs rfl rfl rfl rfl ?_
  refine gs rfl rfl rfl rfl ?_
  refine gs rfl rfl rfl rfl ?_
  refine gs rfl rfl rfl rfl ?_
  refine pk rfl rfl rfl rfl ?_
  refine asg rfl rfl ?_
  refine nl ?_
  refine drW .head ?_
  refine drW .head ?_
  exact rT rfl rfl ler (fun _ _ h => h) ⟨rfl, rfl, by simp_all [Fd.isNul] <;> omega⟩
theorem s_whole {H : Fz} {L : Own} {a : Option Addr} {c m : Nat} {b : List UInt8} (hB : BytesAt H a c b) (hm : m = b.length) :
  Fn Tryz.prog 24 [.slice a m c] H L (fun v H' L' => H = H' ∧ L = L' ∧ v = .slice a (whole b).length c) := by
 refine Fn.mk Tryz.call24 Tryz.func24 rfl Tryz.ntmps24 rfl ?_
 refine sr ?_
 refine asg rfl rfl ?_
 refine nl ?_
 refine sr ?_
 refine mv rfl rfl ?_
 refine mv rfl rfl ?_
 refine ls Tryz.runUnderlying22 rfl rfl ?_
 refine mn rfl rfl rfl ?_
 refine sh' Tryz.runUnderlying22 Tryz.sizeOf5 rfl rfl (min_int _) (by have := hB.cap; omega) rfl ?_
 refine asg rfl rfl ?_
 refine nl ?_
 exact rT rfl rfl ler (fun _ _ h => h) ⟨rfl, rfl, by rw [whole_len, hm]⟩
theorem s_things {H : Fz} {L : Own} {a : Option Addr} {c m : Nat} {b : List Tr} (hB : TreesAt H a c b) (hm : m = b.length) :
  Fn Tryz.prog 60 [.slice a m c] H L (fun v H' L' => H = H' ∧ L = L' ∧ v = .slice a (b.take most).length c) := by
 refine Fn.mk Tryz.call60 Tryz.func60 rfl Tryz.ntmps60 rfl ?_
 refine sr ?_
 refine asg rfl rfl ?_
 refine nl ?_
 refine sr ?_
 refine mv rfl rfl ?_
 refine mv rfl rfl ?_
 refine ls Tryz.runUnderlying23 rfl rfl ?_
 refine mn rfl rfl rfl ?_
 refine sh' Tryz.runUnderlying23 Tryz.sizeOf26 rfl rfl (min_int _) (by have := hB.cap; omega) rfl ?_
 refine asg rfl rfl ?_
 refine nl ?_
 exact rT rfl rfl ler (fun _ _ h => h) ⟨rfl, rfl, by rw [take_most_len, hm]⟩
theorem s_known {H : Fz} {L : Own} {a : Option Addr} {c : Nat} {fs : List Fd} (hF : FdsAt H a fs) :
  Fn Tryz.prog 61 [.slice a fs.length c] H L (fun v H' L' => H = H' ∧ L = L' ∧ v = .int .u32 ((known fs : Nat) : Int)) := by
 refine Fn.mk Tryz.call61 Tryz.func61 rfl Tryz.ntmps61 rfl ?_
 refine sr ?_
 refine asg rfl rfl ?_
 refine nl ?_
 refine sr ?_
 refine asg rfl rfl ?_
 refine nl ?_
 refine sq ?_
 refine sr ?_
 refine mv rfl rfl ?_
 refine ls Tryz.runUnderlying29 rfl rfl ?_
 refine mv rfl rfl ?_
 refine nl ?_
 refine capL (fun F_3 hF_3 => ?_)
 refine fr (fs.length) (fun k l' H' L' => ∃ x, [(3, .int .u32 x), (6, .slice a fs.length c), (7, .int .i64 (fs.length : Int))] = l' ∧ H = H' ∧ F_3 = L' ∧ x = ((known (fs.take k) : Nat) : Int) ∧ x ≤ 1001) [(3, .int .u32 0), (6, .slice a fs.length c), (7, .int .i64 (fs.length : Int))] (fun k l' H' L' h => ?_) (by have := hF.few; omega) rfl (.of ⟨rfl, rfl, rfl, trivial⟩) ⟨0, rfl, rfl, rfl, by simp [known], by omega⟩ rfl rfl rfl rfl rfl (fun k l' H' L' hk le_1 hI => ?_) (fun l' H' L' le_2 hI => ?_)
 · obtain ⟨x, rfl, _⟩ := h; exact ⟨rfl, rfl, rfl, rfl⟩
 ·
  obtain ⟨x, rfl, rfl, rfl, pk0, pk1⟩ := hI
  subst hF_3
  refine sr ?_
  obtain ⟨b_4, o_5, e_6, g_7⟩ := hF.at_ (ne_nil_of_lt hk)
  obtain ⟨c_8, q_9, q_10⟩ := g_7 k hk
  refine ix2 Tryz.runUnderlying29 Tryz.sizeOf50 rfl e_6 rfl rfl hk rfl ?_
  refine la (Says.fz q_9) Tryz.isAgg50 Tryz.sizeOf50 rfl (Nat.add_zero _).symm rfl rfl ?_
  refine al Tryz.zeroValue50 rfl rfl (fun b_11 => ?_)
  refine sa Tryz.sizeOf50 rfl rfl rfl rfl rfl .head ?_
  refine nl ?_
  refine sr ?_
  refine fa0 F50_4 rfl rfl ?_
  refine ld (Says.own .head) Tryz.isAgg3 rfl (Nat.zero_add _).symm rfl rfl ?_
  refine ge rfl rfl rfl ?_
  refine nl ?_
  refine cd rfl (fun h14 => ?_) (fun h14 => ?_)
  ·
   have ht := q_10.tag
   refine rg ?_
   refine mv rfl rfl ?_
   refine fa0 F50_4 rfl rfl ?_
   refine ld (Says.own .head) Tryz.isAgg3 rfl (Nat.zero_add _).symm rfl rfl ?_
   refine cv Tryz.runUnderlying3 Tryz.runUnderlying62 rfl (w32u (by omega) (by omega)) rfl ?_
   refine ad rfl rfl (w32u (by omega) (by omega)) rfl ?_
   refine mx rfl rfl rfl ?_
   refine asg rfl rfl ?_
   refine nN ?_
   refine Nb ?_
   refine drN .head ?_
   refine fun a w hA hw => ⟨_, _, _, hA.sub ?_, ler, hw, _, rfl, (if x < fs[k].tag + 1 then fs[k].tag + 1 else x), rfl, rfl, rfl, by rw [known_take fs k hk, if_pos h14]; split <;> omega, by split <;> omega⟩
   exact (.of ⟨rfl, rfl, rfl, rfl, trivial⟩)
  ·
   refine skN ?_
   refine Nb ?_
   refine drN .head ?_
   refine fun a w hA hw => ⟨_, _, _, hA.sub ?_, ler, hw, _, rfl, x, rfl, rfl, rfl, by rw [known_take fs k hk, if_neg h14]; omega, by omega⟩
   exact (.of ⟨rfl, rfl, rfl, rfl, trivial⟩)
 ·
  obtain ⟨x, rfl, rfl, rfl, pk0, pk1⟩ := hI
  subst hF_3
  refine toWp ?_
  refine sr ?_
  refine mv rfl rfl ?_
  refine asg rfl rfl ?_
  refine nl ?_
  exact rT rfl rfl ler (fun _ _ h => h) ⟨rfl, rfl, by rw [pk0, List.take_length]⟩
theorem s_width {H : Fz} {L : Own} {kind : Int} :
  Fn Tryz.prog 85 [.int .i64 kind] H L (fun v H' L' => H = H' ∧ L = L' ∧ v = .int .i64 ((width kind : Nat) : Int)) := by
 refine Fn.mk Tryz.call85 Tryz.func85 rfl Tryz.ntmps85 rfl ?_
 refine sr ?_
 refine asg rfl rfl ?_
 refine nl ?_
 refine sq ?_
 refine sr ?_
 refine mv rfl rfl ?_
 refine nl ?_
 refine bl ?_
 refine sr ?_
 refine eq' rfl rfl rfl ?_
 refine asg rfl rfl ?_
 refine nl ?_
 refine cd rfl (fun h4 => ?_) (fun h4 => ?_)
 ·
  refine sr ?_
  refine asg rfl rfl ?_
  refine nl ?_
  exact rT rfl rfl ler (fun _ _ h => h) ⟨rfl, rfl, by simp_all [width]⟩
 ·
  refine sq ?_
  refine sr ?_
  refine eq' rfl rfl rfl ?_
  refine asg rfl rfl ?_
  refine nl ?_
  refine cd rfl (fun h6 => ?_) (fun h6 => ?_)
  ·
   refine skt ?_
   refine cd rfl (fun h6b => ?_) (fun h6b => ?_)
   ·
    refine sr ?_
    refine asg rfl rfl ?_
    refine nl ?_
    exact rT rfl rfl ler (fun _ _ h => h) ⟨rfl, rfl, by simp_all [width]⟩
   ·
    refine sr ?_
    refine eq' rfl rfl rfl ?_
    refine asg rfl rfl ?_
    refine nl ?_
    refine cd rfl (fun h9 => ?_) (fun h9 => ?_)
    ·
     refine sr ?_
     refine asg rfl rfl ?_
     refine nl ?_
     exact rT rfl rfl ler (fun _ _ h => h) ⟨rfl, rfl, by simp_all [width]⟩
    ·
     refine skN ?_
     refine Nb ?_
     refine Nt ?_
     refine sr ?_
     refine asg rfl rfl ?_
     refine nl ?_
     exact rT rfl rfl ler (fun _ _ h => h) ⟨rfl, rfl, by simp_all [width]⟩
  ·
   refine rg ?_
   refine eq' rfl rfl rfl ?_
   refine asg rfl rfl ?_
   refine nl ?_
   refine cd rfl (fun h6b => ?_) (fun h6b => ?_)
   ·
    refine sr ?_
    refine asg rfl rfl ?_
    refine nl ?_
    exact rT rfl rfl ler (fun _ _ h => h) ⟨rfl, rfl, by simp_all [width]⟩
   ·
    refine sr ?_
    refine eq' rfl rfl rfl ?_
    refine asg rfl rfl ?_
    refine nl ?_
    refine cd rfl (fun h9 => ?_) (fun h9 => ?_)
    ·
     refine sr ?_
     refine asg rfl rfl ?_
     refine nl ?_
     exact rT rfl rfl ler (fun _ _ h => h) ⟨rfl, rfl, by simp_all [width]⟩
    ·
     refine skN ?_
     refine Nb ?_
     refine Nt ?_
     refine sr ?_
     refine asg rfl rfl ?_
     refine nl ?_
     exact rT rfl rfl ler (fun _ _ h => h) ⟨rfl, rfl, by simp_all [width]⟩
theorem s_fixed {H : Fz} {L : Own} {n : Int} {size : Nat} (hs : size ≤ 8) :
  Fn Tryz.prog 84 [.int .i64 n, .int .i64 (size : Int)] H L (fun v H' L' => H = H' ∧ ∃ a cap N', v = .slice a size cap ∧ L' = N' :: L ∧ Buf 5 a size cap (fixed n size) N') := by
 refine Fn.mk Tryz.call84 Tryz.func84 rfl Tryz.ntmps84 rfl ?_
 refine sr ?_
 refine asg rfl rfl ?_
 refine nl ?_
 refine sr ?_
 refine asg rfl rfl ?_
 refine nl ?_
 refine sq ?_
 refine sr ?_
 refine mv rfl rfl ?_
 refine sb rfl rfl (w64 (by omega) (by omega)) rfl ?_
 refine asg rfl rfl ?_
 refine nl ?_
 refine nilC ?_
 refine capF (N := []) (fun _ => .head) (fun F_2 hF_2 => ?_)
 refine bl (lp (size) (fun k l' H' L' => ∃ N : Chunk, ∃ a cap x, [(0, .int .i64 n), (5, .slice a k cap), (6, .int .i64 x)] = l' ∧ H = H' ∧ F_2 N = L' ∧ Row 5 1 a k cap (bytesOf ((fixed n size).take k)) N ∧ x = (size : Int) - 1 - (k : Int)) [(0, .int .i64 n), (5, .slice none 0 0), (6, .int .i64 ((size : Int) - 1))] (.of ⟨rfl, rfl, rfl, trivial⟩) ⟨[], none, 0, ((size : Int) - 1), rfl, rfl, rfl, Row.nil _ _, by omega⟩ (fun k l' H' L' hk le_1 hI => ?_))
 obtain ⟨N, a, cap, x, rfl, rfl, rfl, pk0, pk1⟩ := hI
 rw [hF_2]
 refine sq ?_
 refine sr ?_
 refine mv rfl rfl ?_
 refine ge rfl rfl rfl ?_
 refine nl ?_
 refine cd rfl (fun h10 => ?_) (fun h10 => ?_)
 ·
  refine skt ?_
  refine sq ?_
  refine bl ?_
  refine rg ?_
  refine mv rfl rfl ?_
  refine mv rfl rfl ?_
  refine mv rfl rfl ?_
  refine ml rfl rfl (w64 (by omega) (by omega)) rfl ?_
  refine sh rfl rfl (by omega) (shr_var (e := 8 * (size - 1 - k)) (by omega) (by show _ ≤ 64; omega)) rfl ?_
  refine cv Tryz.runUnderlying2 Tryz.runUnderlying5 rfl (wrap8 _) rfl ?_
  refine bs' L22 rfl rfl rfl rfl (fun b_3 => ?_)
  refine ap (news := bytesOf [byte (n / 2 ^ (8 * (size - 1 - k)))]) Tryz.underlying22 I5 rfl rfl pk0 (fun _ => (.tail .head)) (src_says Tryz.underlying22 rfl (fun _ => Says.own .head) (bytesOf_one [byte (n / 2 ^ (8 * (size - 1 - k)))])) (by omega) (by unfold maxLen; omega) rfl (fun a20 c20 N20 r20 z20 => ?_)
  refine asg rfl rfl ?_
  refine nN ?_
  refine Nb ?_
  refine Nt ?_
  refine rg ?_
  refine mv rfl rfl ?_
  refine sb rfl rfl (w64 (by omega) (by omega)) rfl ?_
  refine asg rfl rfl ?_
  refine nN ?_
  refine drN .head ?_
  refine fun a w hA hw => ⟨by omega, _, _, _, hA.sub ?_, ler, hw, N20, a20, c20, (x - 1), rfl, rfl, hF_2 _, by rw [fixed_take n size k (by omega), bytesOf_append]; exact r20, by omega⟩
  exact (.of ⟨rfl, rfl, rfl, trivial⟩)
 ·
  refine exX ?_
  refine XT ?_
  refine XT ?_
  refine Xb ?_
  refine Nt ?_
  refine sr ?_
  refine mv rfl rfl ?_
  refine asg rfl rfl ?_
  refine nl ?_
  obtain rfl : k = size := by omega
  have e : (fixed n k).take k = fixed n k := List.take_of_length_le (by rw [fixed_length]; omega)
  exact rT rfl rfl ler (fun _ _ h => h) ⟨rfl, _, _, _, rfl, rfl, by rw [e] at pk0; exact pk0, by rw [fixed_length]⟩
theorem s_uvar {H : Fz} {L : Own} {n : Nat} (hn : n ≤ 18446744073709551615) :
  Fn Tryz.prog 65 [.int .u64 (n : Int)] H L (fun v H' L' => H = H' ∧ ∃ a cap N', v = .slice a (uvar n).length cap ∧ L' = N' :: L ∧ Buf 5 a (uvar n).length cap (uvar n) N') := by
 refine Fn.mk Tryz.call65 Tryz.func65 rfl Tryz.ntmps65 rfl ?_
 refine sr ?_
 refine asg rfl rfl ?_
 refine nl ?_
 refine sr ?_
 refine asg rfl rfl ?_
 refine nl ?_
 refine sq ?_
 refine nilC ?_
 refine capF (N := []) (fun _ => .head) (fun F_2 hF_2 => ?_)
 refine bl (lp (10) (fun k l' H' L' => ∃ N : Chunk, ∃ m a q cap pre, [(0, .int .u64 ((m : Nat) : Int)), (3, .slice a q cap)] = l' ∧ H = H' ∧ F_2 N = L' ∧ Row 5 1 a q cap (bytesOf pre) N ∧ q = pre.length ∧ uvar n = pre ++ uvar m ∧ m ≤ 18446744073709551615 / 128 ^ k ∧ q = k) [(0, .int .u64 ((n : Nat) : Int)), (3, .slice none 0 0)] (.of ⟨rfl, rfl, trivial⟩) ⟨[], n, none, 0, 0, [], rfl, rfl, rfl, Row.nil _ _, rfl, rfl, by omega, rfl⟩ (fun k l' H' L' hk le_1 hI => ?_))
 obtain ⟨N, m, a, q, cap, pre, rfl, rfl, rfl, pk0, pk1, pk2, pk3, pk4⟩ := hI
 rw [hF_2]
 refine sq ?_
 refine sr ?_
 refine mv rfl rfl ?_
 refine gt rfl rfl rfl ?_
 refine nl ?_
 refine cd rfl (fun h5 => ?_) (fun h5 => ?_)
 ·
  have hm : 127 < m := by omega
  refine skt ?_
  refine bl ?_
  refine sr ?_
  refine mv rfl rfl ?_
  refine mv rfl rfl ?_
  refine an rfl rfl (and127_u64 m) rfl ?_
  refine cv Tryz.runUnderlying121 Tryz.runUnderlying5 rfl (wrap_u8 (by omega) (by omega)) rfl ?_
  refine or' rfl rfl (or128_u8 (Nat.mod_lt _ (by omega))) rfl ?_
  refine bs' L22 rfl rfl rfl rfl (fun b_3 => ?_)
  refine ap (news := bytesOf [UInt8.ofNat (m % 128 + 128)]) Tryz.underlying22 I5 rfl rfl pk0 (fun _ => (.tail .head)) (src_says Tryz.underlying22 rfl (fun _ => Says.own .head) (bytesOf_one [UInt8.ofNat (m % 128 + 128)])) (by omega) (by unfold maxLen; omega) rfl (fun a12 c12 N12 r12 z12 => ?_)
  refine asg rfl rfl ?_
  refine nl ?_
  refine rg ?_
  refine mv rfl rfl ?_
  refine sh rfl rfl (by decide) (shr_nat (e := 7) rfl) rfl ?_
  refine asg rfl rfl ?_
  refine nN ?_
  refine Nb ?_
  refine drN .head ?_
  refine fun a w hA hw => ⟨Nat.lt_of_le_of_ne hk (by rintro rfl; simp at pk3; omega), _, _, _, hA.sub ?_, ler, hw, N12, (m / 128), a12, (q + 1), c12, (pre ++ [UInt8.ofNat (m % 128 + 128)]), rfl, rfl, hF_2 _, by rw [bytesOf_append]; exact r12, by simp [pk1], by rw [pk2, uvar_step hm]; simp, by rw [Nat.pow_succ]; exact div_step pk3, by omega⟩
  exact (.of ⟨rfl, rfl, trivial⟩)
 ·
  refine exX ?_
  refine XT ?_
  refine XT ?_
  refine Xb ?_
  refine Nt ?_
  refine sr ?_
  refine mv rfl rfl ?_
  refine mv rfl rfl ?_
  refine cv Tryz.runUnderlying121 Tryz.runUnderlying5 rfl ((wrap_u8 (by omega) (by omega)).trans (by simp; omega : _ = ((UInt8.ofNat m).toNat : Int))) rfl ?_
  refine bs' L22 rfl rfl rfl rfl (fun b_4 => ?_)
  refine ap (news := bytesOf [UInt8.ofNat m]) Tryz.underlying22 I5 rfl rfl pk0 (fun _ => (.tail .head)) (src_says Tryz.underlying22 rfl (fun _ => Says.own .head) (bytesOf_one [UInt8.ofNat m])) (by omega) (by unfold maxLen; omega) rfl (fun a19 c19 N19 r19 z19 => ?_)
  refine asg rfl rfl ?_
  refine nl ?_
  have e : uvar n = pre ++ [UInt8.ofNat m] := by rw [pk2, uvar_end (by omega)]
  have e1 : (uvar n).length = q + 1 := by rw [e]; simp [pk1]
  refine drW .head ?_
  exact rT rfl rfl ler (fun _ _ h => h) ⟨rfl, a19, c19, N19, by rw [e1], rfl, by rw [e1, e, bytesOf_append]; exact r19, rfl⟩
theorem s_counted {H : Fz} {L : Own} {flex nul : Bool} {n size : Nat} (hn : n ≤ 32767) (hs : size ≤ 8) :
  Fn Tryz.prog 82 [.bool flex, .bool nul, .int .i64 (n : Int), .int .i64 (size : Int)] H L (fun v H' L' => H = H' ∧ ∃ a cap N', v = .slice a (counted flex nul n size).length cap ∧ L' = N' :: L ∧ Buf 5 a (counted flex nul n size).length cap (counted flex nul n size) N') := by
 refine Fn.mk Tryz.call82 Tryz.func82 rfl Tryz.ntmps82 rfl ?_
 refine sr ?_
 refine asg rfl rfl ?_
 refine nl ?_
 refine sq ?_
 refine bl ?_
 refine sr ?_
 refine mv rfl rfl ?_
 refine mv rfl rfl ?_
 refine splb (t := 11) rfl (fun h11 => ?_) (fun h11 => ?_)
 ·
  refine gr rfl rfl ?_
  refine mv rfl rfl ?_
  refine pk rfl rfl rfl rfl ?_
  refine asg rfl rfl ?_
  refine nl ?_
  refine cb rfl (fun h9 => ?_) (fun h9 => ?_)
  ·
   refine sr ?_
   refine bs' L22 rfl rfl rfl rfl (fun b_1 => ?_)
   refine asg rfl rfl ?_
   refine nl ?_
   exact rT rfl rfl ler (fun _ _ h => h) ⟨rfl, some ⟨b_1, 0, none⟩, 1, _, by simp_all [counted], rfl, by simp_all [counted]; exact ⟨Row.whole rfl (by decide), rfl⟩⟩
  ·
   refine sr ?_
   refine mv rfl rfl ?_
   refine asg rfl rfl ?_
   refine nl ?_
   refine cb rfl (fun h15 => ?_) (fun h15 => ?_)
   ·
    refine sr ?_
    refine mv rfl rfl ?_
    refine cv Tryz.runUnderlying3 Tryz.runUnderlying121 rfl (wrap_u64 (by omega) (by omega)) rfl ?_
    refine ad rfl rfl ((wrap_u64 (by omega) (by omega)).trans (by omega : _ = ((n + 1 : Nat) : Int))) rfl ?_
    refine cl rfl rfl rfl (s_uvar (by omega)) rfl (fun v H1 L1 hle hR => ?_)
    obtain ⟨rfl, a20, c20, N20, rfl, rfl, h20⟩ := hR
    refine asg rfl rfl ?_
    refine nl ?_
    exact rT rfl rfl ler (fun _ _ h => h) ⟨rfl, a20, c20, N20, by simp_all [counted, fixed_length], rfl, by simp_all [counted, fixed_length]⟩
   ·
    refine sr ?_
    refine mv rfl rfl ?_
    refine asg rfl rfl ?_
    refine nl ?_
    refine cb rfl (fun h21 => ?_) (fun h21 => ?_)
    ·
     refine sr ?_
     refine mv rfl rfl ?_
     refine cl rfl rfl rfl (s_fixed hs) rfl (fun v H1 L1 hle hR => ?_)
     obtain ⟨rfl, a24, c24, N24, rfl, rfl, h24⟩ := hR
     refine asg rfl rfl ?_
     refine nl ?_
     exact rT rfl rfl ler (fun _ _ h => h) ⟨rfl, a24, c24, N24, by simp_all [counted, fixed_length], rfl, by simp_all [counted, fixed_length]⟩
    ·
     refine skN ?_
     refine Nb ?_
     refine Nt ?_
     refine sr ?_
     refine mv rfl rfl ?_
     refine mv rfl rfl ?_
     refine cl rfl rfl rfl (s_fixed hs) rfl (fun v H1 L1 hle hR => ?_)
     obtain ⟨rfl, a27, c27, N27, rfl, rfl, h27⟩ := hR
     refine asg rfl rfl ?_
     refine nl ?_
     exact rT rfl rfl ler (fun _ _ h => h) ⟨rfl, a27, c27, N27, by simp_all [counted, fixed_length], rfl, by simp_all [counted, fixed_length]⟩
 ·
  refine gs rfl rfl rfl rfl ?_
  refine pk rfl rfl rfl rfl ?_
  refine asg rfl rfl ?_
  refine nl ?_
  refine cF rfl ?_
  refine sr ?_
  refine mv rfl rfl ?_
  refine asg rfl rfl ?_
  refine nl ?_
  refine cb rfl (fun h15 => ?_) (fun h15 => ?_)
  ·
   refine sr ?_
   refine mv rfl rfl ?_
   refine cv Tryz.runUnderlying3 Tryz.runUnderlying121 rfl (wrap_u64 (by omega) (by omega)) rfl ?_
   refine ad rfl rfl ((wrap_u64 (by omega) (by omega)).trans (by omega : _ = ((n + 1 : Nat) : Int))) rfl ?_
   refine cl rfl rfl rfl (s_uvar (by omega)) rfl (fun v H1 L1 hle hR => ?_)
   obtain ⟨rfl, a20, c20, N20, rfl, rfl, h20⟩ := hR
   refine asg rfl rfl ?_
   refine nl ?_
   exact rT rfl rfl ler (fun _ _ h => h) ⟨rfl, a20, c20, N20, by simp_all [counted, fixed_length], rfl, by simp_all [counted, fixed_length]⟩
  ·
   refine sr ?_
   refine mv rfl rfl ?_
   refine asg rfl rfl ?_
   refine nl ?_
   refine cb rfl (fun h21 => ?_) (fun h21 => ?_)
   ·
    refine sr ?_
    refine mv rfl rfl ?_
    refine cl rfl rfl rfl (s_fixed hs) rfl (fun v H1 L1 hle hR => ?_)
    obtain ⟨rfl, a24, c24, N24, rfl, rfl, h24⟩ := hR
    refine asg rfl rfl ?_
    refine nl ?_
    exact rT rfl rfl ler (fun _ _ h => h) ⟨rfl, a24, c24, N24, by simp_all [counted, fixed_length], rfl, by simp_all [counted, fixed_length]⟩
   ·
    refine skN ?_
    refine Nb ?_
    refine Nt ?_
    refine sr ?_
    refine mv rfl rfl ?_
    refine mv rfl rfl ?_
    refine cl rfl rfl rfl (s_fixed hs) rfl (fun v H1 L1 hle hR => ?_)
    obtain ⟨rfl, a27, c27, N27, rfl, rfl, h27⟩ := hR
    refine asg rfl rfl ?_
    refine nl ?_
    exact rT rfl rfl ler (fun _ _ h => h) ⟨rfl, a27, c27, N27, by simp_all [counted, fixed_length], rfl, by simp_all [counted, fixed_length]⟩
theorem s_version {H : Fz} {L : Own} {n most : Nat} (hn : n < 256) (hm : most ≤ 1000) :
  Fn Tryz.prog 7 [.int .u8 (n : Int), .int .i64 (most : Int)] H L (fun v H' L' => H = H' ∧ L = L' ∧ v = .int .i64 ((n % (most + 1) : Nat) : Int)) := by
 refine Fn.mk Tryz.call7 Tryz.func7 rfl Tryz.ntmps7 rfl ?_
 refine sr ?_
 refine asg rfl rfl ?_
 refine nl ?_
 refine sr ?_
 refine mv rfl rfl ?_
 refine cv Tryz.runUnderlying5 Tryz.runUnderlying3 rfl (w64 (by omega) (by omega)) rfl ?_
 refine mv rfl rfl ?_
 refine ad rfl rfl (w64 (by omega) (by omega)) rfl ?_
 refine rm (c := ((n % (most + 1) : Nat) : Int)) rfl rfl (by omega) (by rw [Int.tmod_eq_emod_of_nonneg (by omega)]; simp) rfl ?_
 refine asg rfl rfl ?_
 refine nl ?_
 exact rT rfl rfl ler (fun _ _ h => h) ⟨rfl, rfl, rfl⟩
theorem s_same {H : Fz} {L : Own} {a a' : Option Addr} {c c' : Nat} {s t : List UInt8} (h1 : BytesAt H a c s) (h2 : BytesAt H a' c' t) :
  Fn Tryz.prog 8 [.slice a s.length c, .slice a' t.length c'] H L (fun v H' L' => H = H' ∧ L = L' ∧ v = .bool (decide (s = t))) := by
 refine Fn.mk Tryz.call8 Tryz.func8 rfl Tryz.ntmps8 rfl ?_
 refine sr ?_
 refine asg rfl rfl ?_
 refine nl ?_
 refine sq ?_
 refine sr ?_
 refine mv rfl rfl ?_
 refine ls Tryz.runUnderlying22 rfl rfl ?_
 refine mv rfl rfl ?_
 refine ls Tryz.runUnderlying22 rfl rfl ?_
 refine ne' rfl rfl rfl ?_
 refine nl ?_
 refine cd rfl (fun h10 => ?_) (fun h10 => ?_)
 ·
  refine sr ?_
  refine asg rfl rfl ?_
  refine nl ?_
  exact rT rfl rfl ler (fun _ _ h => h) ⟨rfl, rfl, by rw [decide_eq_false]; intro e; subst e; omega⟩
 ·
  refine skt ?_
  refine sq ?_
  refine sr ?_
  refine mv rfl rfl ?_
  refine ls Tryz.runUnderlying22 rfl rfl ?_
  refine mv rfl rfl ?_
  refine nl ?_
  refine capL (fun F_3 hF_3 => ?_)
  refine fr (s.length) (fun k l' H' L' => [(0, .slice a s.length c), (1, .slice a' t.length c'), (12, .int .i64 (s.length : Int))] = l' ∧ H = H' ∧ F_3 = L' ∧ s.take k = t.take k) [(0, .slice a s.length c), (1, .slice a' t.length c'), (12, .int .i64 (s.length : Int))] (fun k l' H' L' h => ?_) (by have := h1.len; omega) rfl (.of ⟨rfl, rfl, rfl, trivial⟩) ⟨rfl, rfl, rfl, by simp⟩ rfl rfl rfl rfl rfl (fun k l' H' L' hk le_1 hI => ?_) (fun l' H' L' le_2 hI => ?_)
  · obtain ⟨rfl, _⟩ := h; exact ⟨rfl, rfl, rfl, rfl⟩
  ·
   obtain ⟨rfl, rfl, rfl, pk0⟩ := hI
   subst hF_3
   refine sr ?_
   refine mv rfl rfl ?_
   refine asg rfl rfl ?_
   refine nl ?_
   refine sq ?_
   refine rgD 9 .nil mixed ?_
   refine dU 0 rfl rfl rfl (y_mv rfl) .nil ler ?_
   refine dU 1 rfl rfl rfl (y_mv rfl) .nil ler ?_
   obtain ⟨b_4, o_5, e_6, q_7⟩ := h1.at_ (ne_nil_of_lt hk)
   refine dU 2 rfl rfl rfl (y_ix2 Tryz.runUnderlying22 Tryz.sizeOf5 rfl e_6 rfl rfl hk) .nil ler ?_
   refine dU 3 rfl rfl rfl (y_ld (Says.fz q_7) Tryz.isAgg5 rfl (by omega) (bytesOf_nth hk)) .nil ler ?_
   refine dU 4 rfl rfl rfl (y_mv rfl) .nil ler ?_
   refine dU 5 rfl rfl rfl (y_mv rfl) .nil ler ?_
   obtain ⟨b_8, o_9, e_10, q_11⟩ := h2.at_ (ne_nil_of_lt (show k < t.length by omega))
   refine dU 6 rfl rfl rfl (y_ix2 Tryz.runUnderlying22 Tryz.sizeOf5 rfl e_10 rfl rfl (show k < t.length by omega)) .nil ler ?_
   refine dU 7 rfl rfl rfl (y_ld (Says.fz q_11) Tryz.isAgg5 rfl (by omega) (bytesOf_nth (show k < t.length by omega))) .nil ler ?_
   refine dU 8 rfl rfl rfl (y_ne rfl rfl) .nil ler ?_
   refine dD (by kernel_rfl) ?_
   refine Nt ?_
   refine cd rfl (fun h24 => ?_) (fun h24 => ?_)
   ·
    refine sr ?_
    refine asg rfl rfl ?_
    refine nl ?_
    exact rT rfl rfl ler (fun _ _ h => h) ⟨rfl, rfl, by rw [decide_eq_false]; intro e; subst e; omega⟩
   ·
    refine skN ?_
    refine Nb ?_
    refine fun a w hA hw => ⟨_, _, _, hA.sub ?_, ler, hw, _, rfl, rfl, rfl, rfl, take_eq_step hk (by omega) pk0 (by apply UInt8.toNat_inj.1; omega)⟩
    exact (.of ⟨rfl, rfl, rfl, rfl, trivial⟩)
  ·
   obtain ⟨rfl, rfl, rfl, pk0⟩ := hI
   subst hF_3
   refine toWp ?_
   refine sr ?_
   refine asg rfl rfl ?_
   refine nl ?_
   exact rT rfl rfl ler (fun _ _ h => h) ⟨rfl, rfl, by rw [decide_eq_true]; rw [List.take_length] at pk0; rw [pk0]; exact List.take_of_length_le (by omega)⟩
theorem s_fits3 {H : Fz} {L : Own} {g : GC} {x : Int × List UInt8} :
  Fn Tryz.prog 26 [.agg (g.cells x).toArray] H L (fun v H' L' => H = H' ∧ L = L' ∧ ∃ b, v = .bool b) := by
 refine Fn.mk Tryz.call26 Tryz.func26 rfl Tryz.ntmps26 rfl ?_
 refine sr ?_
 refine bx rfl rfl rfl (fun b_1 => ?_)
 refine asg rfl rfl ?_
 refine nl ?_
 refine sq ?_
 refine sr ?_
 refine fa0 F64_1 rfl rfl ?_
 refine ld (Says.own .head) Tryz.isAgg22 rfl (Nat.zero_add _).symm rfl rfl ?_
 refine ls Tryz.runUnderlying22 rfl rfl ?_
 refine gt rfl rfl rfl ?_
 refine nl ?_
 refine cd rfl (fun h6 => ?_) (fun h6 => ?_)
 ·
  refine sr ?_
  refine asg rfl rfl ?_
  refine nl ?_
  refine drW .head ?_
  exact rT rfl rfl ler (fun _ _ h => h) ⟨rfl, rfl, _, rfl⟩
 ·
  refine skt ?_
  refine sr ?_
  refine asg rfl rfl ?_
  refine nl ?_
  refine drW .head ?_
  exact rT rfl rfl ler (fun _ _ h => h) ⟨rfl, rfl, _, rfl⟩
theorem s_fits2 {H : Fz} {L : Own} {a : Option Addr} {c : Nat} {u : List (Int × List UInt8)} (hU : TagsAt H a c u) :
  Fn Tryz.prog 13 [.slice a u.length c] H L (fun v H' L' => H = H' ∧ L = L' ∧ ∃ b, v = .bool b) := by
 refine Fn.mk Tryz.call13 Tryz.func13 rfl Tryz.ntmps13 rfl ?_
 refine sr ?_
 refine asg rfl rfl ?_
 refine nl ?_
 refine sq ?_
 refine sr ?_
 refine mv rfl rfl ?_
 refine ls Tryz.runUnderlying24 rfl rfl ?_
 refine gt rfl rfl rfl ?_
 refine nl ?_
 refine cd rfl (fun h7 => ?_) (fun h7 => ?_)
 ·
  refine sr ?_
  refine asg rfl rfl ?_
  refine nl ?_
  exact rT rfl rfl ler (fun _ _ h => h) ⟨rfl, rfl, _, rfl⟩
 ·
  refine skt ?_
  refine sq ?_
  refine sr ?_
  refine mv rfl rfl ?_
  refine ls Tryz.runUnderlying24 rfl rfl ?_
  refine mv rfl rfl ?_
  refine nl ?_
  refine capL (fun F_3 hF_3 => ?_)
  refine fr (u.length) (fun k l' H' L' => [(8, .slice a u.length c), (9, .int .i64 (u.length : Int))] = l' ∧ H = H' ∧ F_3 = L') [(8, .slice a u.length c), (9, .int .i64 (u.length : Int))] (fun k l' H' L' h => ?_) (by have := hU.len; omega) rfl (.of ⟨rfl, rfl, trivial⟩) ⟨rfl, rfl, rfl⟩ rfl rfl rfl rfl rfl (fun k l' H' L' hk le_1 hI => ?_) (fun l' H' L' le_2 hI => ?_)
  · obtain ⟨rfl, _⟩ := h; exact ⟨rfl, rfl, rfl, rfl⟩
  ·
   obtain ⟨rfl, rfl, rfl⟩ := hI
   subst hF_3
   refine sr ?_
   obtain ⟨b_4, o_5, e_6, g_7⟩ := hU.at_ (ne_nil_of_lt hk)
   obtain ⟨c_8, q_9, q_10⟩ := g_7 k hk
   refine ix2 Tryz.runUnderlying24 Tryz.sizeOf64 rfl e_6 rfl rfl hk rfl ?_
   refine la (Says.fz q_9) Tryz.isAgg64 Tryz.sizeOf64 rfl (Nat.add_zero _).symm rfl rfl ?_
   refine al Tryz.zeroValue64 rfl rfl (fun b_11 => ?_)
   refine sa Tryz.sizeOf64 rfl rfl rfl rfl rfl .head ?_
   refine nl ?_
   refine sr ?_
   refine la (Says.own .head) Tryz.isAgg64 Tryz.sizeOf64 rfl (Nat.zero_add _).symm rfl rfl ?_
   refine cl rfl rfl rfl s_fits3 rfl (fun v H1 L1 hle hR => ?_)
   obtain ⟨rfl, rfl, b15, rfl⟩ := hR
   refine nt rfl rfl ?_
   refine nl ?_
   refine cb rfl (fun h16 => ?_) (fun h16 => ?_)
   ·
    refine sr ?_
    refine asg rfl rfl ?_
    refine nl ?_
    refine drW .head ?_
    exact rT rfl rfl ler (fun _ _ h => h) ⟨rfl, rfl, _, rfl⟩
   ·
    refine skN ?_
    refine Nb ?_
    refine drN .head ?_
    refine fun a w hA hw => ⟨_, _, _, hA.sub ?_, ler, hw, _, rfl, rfl, rfl, rfl⟩
    exact (.of ⟨rfl, rfl, rfl, trivial⟩)
  ·
   obtain ⟨rfl, rfl, rfl⟩ := hI
   subst hF_3
   refine toWp ?_
   refine sr ?_
   refine asg rfl rfl ?_
   refine nl ?_
   exact rT rfl rfl ler (fun _ _ h => h) ⟨rfl, rfl, _, rfl⟩
theorem s_fits1 {H : Fz} {L : Own} {c : TC} {t : Tr} (hT : TreeAt H c t) :
  Fn Tryz.prog 4 [.agg (c.cells t).toArray] H L (fun v H' L' => H = H' ∧ L = L' ∧ ∃ b, v = .bool b) := by
 refine Fn.mk Tryz.call4 Tryz.func4 rfl Tryz.ntmps4 rfl ?_
 refine sr ?_
 refine bx rfl rfl rfl (fun b_1 => ?_)
 refine asg rfl rfl ?_
 refine nl ?_
 refine sq ?_
 refine sr ?_
 refine fa0 F26_1 rfl rfl ?_
 refine ld (Says.own .head) Tryz.isAgg22 rfl (Nat.zero_add _).symm rfl rfl ?_
 refine ls Tryz.runUnderlying22 rfl rfl ?_
 refine gt rfl rfl rfl ?_
 refine nl ?_
 refine cd rfl (fun h6 => ?_) (fun h6 => ?_)
 ·
  refine sr ?_
  refine asg rfl rfl ?_
  refine nl ?_
  refine drW .head ?_
  exact rT rfl rfl ler (fun _ _ h => h) ⟨rfl, rfl, _, rfl⟩
 ·
  refine skt ?_
  refine sq ?_
  refine sr ?_
  refine fa0 F26_3 rfl rfl ?_
  refine ld (Says.own .head) Tryz.isAgg23 rfl (Nat.zero_add _).symm rfl rfl ?_
  refine ls Tryz.runUnderlying23 rfl rfl ?_
  refine gt rfl rfl rfl ?_
  refine nl ?_
  refine cd rfl (fun h10 => ?_) (fun h10 => ?_)
  ·
   refine sr ?_
   refine asg rfl rfl ?_
   refine nl ?_
   refine drW .head ?_
   exact rT rfl rfl ler (fun _ _ h => h) ⟨rfl, rfl, _, rfl⟩
  ·
   refine skt ?_
   refine sq ?_
   refine sr ?_
   refine fa0 F26_4 rfl rfl ?_
   refine ld (Says.own .head) Tryz.isAgg24 rfl (Nat.zero_add _).symm rfl rfl ?_
   refine cl rfl rfl rfl (s_fits2 hT.u) rfl (fun v H1 L1 hle hR => ?_)
   obtain ⟨rfl, rfl, b13, rfl⟩ := hR
   refine nt rfl rfl ?_
   refine nl ?_
   refine cb rfl (fun h14 => ?_) (fun h14 => ?_)
   ·
    refine sr ?_
    refine asg rfl rfl ?_
    refine nl ?_
    refine drW .head ?_
    exact rT rfl rfl ler (fun _ _ h => h) ⟨rfl, rfl, _, rfl⟩
   ·
    refine skt ?_
    refine sr ?_
    refine asg rfl rfl ?_
    refine nl ?_
    refine drW .head ?_
    exact rT rfl rfl ler (fun _ _ h => h) ⟨rfl, rfl, _, rfl⟩
theorem s_unknown {H : Fz} {L : Own} {a a0 : Option Addr} {c c0 : Nat} {fs : List Fd} {u : List (Int × List UInt8)} (hF : FdsAt H a0 fs) (hU : TagsAt H a c u) :
  Fn Tryz.prog 23 [.slice a0 fs.length c0, .slice a u.length c] H L (fun v H' L' => L = L' ∧ ∃ a cap, v = .slice a (unknown fs u).length cap ∧ TagsAt H' a cap (unknown fs u)) := by
 refine Fn.mk Tryz.call23 Tryz.func23 rfl Tryz.ntmps23 rfl ?_
 refine sr ?_
 refine asg rfl rfl ?_
 refine nl ?_
 refine sr ?_
 refine mv rfl rfl ?_
 refine cl rfl rfl rfl (s_known hF) rfl (fun v H1 L1 hle hR => ?_)
 obtain ⟨rfl, rfl, rfl⟩ := hR
 refine asg rfl rfl ?_
 refine nl ?_
 refine sr ?_
 refine asg rfl rfl ?_
 refine nl ?_
 refine sq ?_
 refine sr ?_
 refine mv rfl rfl ?_
 refine mv rfl rfl ?_
 refine ls Tryz.runUnderlying24 rfl rfl ?_
 refine mn rfl rfl rfl ?_
 refine sh' (j := (u.take most).length) Tryz.runUnderlying24 Tryz.sizeOf64 rfl rfl ((min_int _).trans (by rw [take_most_len])) (by have := hU.cap; have := take_most_len u; omega) rfl ?_
 refine ls Tryz.runUnderlying24 rfl rfl ?_
 refine mv rfl rfl ?_
 refine nl ?_
 refine nilC ?_
 have hu2 : TagsAt H a c (u.take most) := hU.take most
 refine capF (N := []) (fun _ => .head) (fun F_3 hF_3 => ?_)
 refine fr ((u.take most).length) (fun k l' H' L' => ∃ N : Chunk, ∃ oa m oc es, [(5, .int .u32 ((known fs : Nat) : Int)), (6, .slice oa m oc), (17, .slice a (u.take most).length c), (18, .int .i64 ((u.take most).length : Int))] = l' ∧ H = H' ∧ F_3 N = L' ∧ Row 64 2 oa m oc (es.flatMap f2) N ∧ m = es.length ∧ (∀ p : TE, p ∈ (es : List TE) → TagAt H p.1 p.2) ∧ es.map (·.2) = unknownFrom (known fs) [] ((u.take most).take k)) [(5, .int .u32 ((known fs : Nat) : Int)), (6, .slice none 0 0), (17, .slice a (u.take most).length c), (18, .int .i64 ((u.take most).length : Int))] (fun k l' H' L' h => ?_) (by have := hu2.len; omega) rfl (.of ⟨rfl, rfl, rfl, rfl, trivial⟩) ⟨[], none, 0, 0, [], rfl, rfl, rfl, Row.nil _ _, rfl, (fun p hp => by cases hp), by simp [unknownFrom]⟩ rfl rfl rfl rfl rfl (fun k l' H' L' hk le_1 hI => ?_) (fun l' H' L' le_2 hI => ?_)
 · obtain ⟨N, oa, m, oc, es, rfl, _⟩ := h; exact ⟨rfl, rfl, rfl, rfl⟩
 ·
  obtain ⟨N, oa, m, oc, es, rfl, rfl, rfl, pk0, pk1, pk2, pk3⟩ := hI
  rw [hF_3]
  refine sr ?_
  obtain ⟨b_4, o_5, e_6, g_7⟩ := hu2.at_ (ne_nil_of_lt hk)
  obtain ⟨c_8, q_9, q_10⟩ := g_7 k hk
  refine ix2 Tryz.runUnderlying24 Tryz.sizeOf64 rfl e_6 rfl rfl hk rfl ?_
  refine la (Says.fz q_9) Tryz.isAgg64 Tryz.sizeOf64 rfl (Nat.add_zero _).symm rfl rfl ?_
  have hlo := q_10.lo
  have hhi := q_10.hi
  have hml : m ≤ 32767 := by have h1 := unknownFrom_len (known fs) ((u.take most).take k) []; rw [← pk3] at h1; have h2 := take_most_len u; simp only [List.length_map, List.length_take, List.length_nil] at h1; omega
  refine al Tryz.zeroValue64 rfl rfl (fun b_11 => ?_)
  refine sa Tryz.sizeOf64 rfl rfl rfl rfl rfl .head ?_
  refine nl ?_
  refine sr ?_
  refine asg rfl rfl ?_
  refine nl ?_
  refine sq ?_
  refine capL (fun F_13 hF_13 => ?_)
  refine bl (lp (m) (fun i l' H' L' => [(5, .int .u32 ((known fs : Nat) : Int)), (6, .slice oa m oc), (17, .slice a (u.take most).length c), (18, .int .i64 ((u.take most).length : Int)), (19, .int .i64 (k : Int)), (8, .pointer (some ⟨b_11, 0, none⟩)), (9, .int .i64 (i : Int))] = l' ∧ H = H' ∧ F_13 = L' ∧ (∀ j (hj : j < es.length), j < i → es[j].2.1 < (u.take most)[k].1)) [(5, .int .u32 ((known fs : Nat) : Int)), (6, .slice oa m oc), (17, .slice a (u.take most).length c), (18, .int .i64 ((u.take most).length : Int)), (19, .int .i64 (k : Int)), (8, .pointer (some ⟨b_11, 0, none⟩)), (9, .int .i64 (0 : Int))] (.of ⟨rfl, rfl, rfl, rfl, rfl, rfl, rfl, trivial⟩) ⟨rfl, rfl, rfl, fun j hj h => by omega⟩ (fun i l' H' L' him le_12 hI => ?_))
  obtain ⟨rfl, rfl, rfl, pi0⟩ := hI
  subst hF_13
  refine sq ?_
  refine sq ?_
  refine rgD 14 kp2 mixed ?_
  refine dU 0 rfl rfl rfl (y_mv rfl) kp2 ler ?_
  refine dU 1 rfl rfl rfl (y_mv rfl) kp2 ler ?_
  refine dU 2 rfl rfl rfl (y_ls Tryz.runUnderlying24 rfl) kp2 ler ?_
  refine dU 3 rfl rfl rfl (y_lt rfl rfl) kp2 ler ?_
  refine dU 4 rfl rfl rfl (y_mv rfl) kp2 ler ?_
  refine splH (t := 27) rfl (fun h27 => ?_) (fun h27 => ?_)
  ·
   refine dU 5 rfl rfl rfl (y_gr rfl rfl (y_mv rfl)) kp2 ler ?_
   refine dU 6 rfl rfl rfl (y_gr rfl rfl (y_mv rfl)) kp2 ler ?_
   obtain ⟨g_14, e_15⟩ := pk0.addr (by omega)
   have y_16 : ∀ L2 L3, Sel L2 N L3 → Says H L2 g_14 (0 + i * 2) (f2 (es[i]'((show i < es.length by omega)))) := fun _ _ hs => Says.elem f2 2 f2_len (pk0.says' e_15 hs) _
   refine dU 7 rfl rfl rfl (y_gr rfl rfl (y_ix2 (j := i) Tryz.runUnderlying24 Tryz.sizeOf64 rfl e_15 rfl (by omega) (by omega))) kp2 ler ?_
   refine dU 8 rfl rfl rfl (y_gr rfl rfl (y_fa F64_0 rfl)) kp2 ler ?_
   refine dU 9 rfl rfl rfl (y_gr rfl rfl (y_ld (j := 0) (y_16 _ _ (.tail .head)) Tryz.isAgg62 rfl rfl rfl)) kp2 ler ?_
   refine dU 10 rfl rfl rfl (y_gr rfl rfl (y_fa0 F64_0 rfl)) kp2 ler ?_
   refine dU 11 rfl rfl rfl (y_gr rfl rfl (y_ld (Says.own .head) Tryz.isAgg62 rfl (Nat.zero_add _).symm rfl)) kp2 ler ?_
   refine dU 12 rfl rfl rfl (y_gr rfl rfl (y_lt rfl rfl)) kp2 ler ?_
   refine dU 13 rfl rfl rfl (y_pk rfl rfl rfl) kp2 ler ?_
   refine dD (by kernel_rfl) ?_
   refine Nt ?_
   refine cd rfl (fun h36 => ?_) (fun h36 => ?_)
   ·
    refine skt ?_
    refine bl ?_
    refine rg ?_
    refine mv rfl rfl ?_
    refine ad rfl rfl ((w64 (by omega) (by omega)).trans (by omega : _ = ((i + 1 : Nat) : Int))) rfl ?_
    refine asg rfl rfl ?_
    refine nN ?_
    refine Nb ?_
    refine fun a w hA hw => ⟨(by omega), _, _, _, hA.sub ?_, ler, hw, rfl, rfl, rfl, fun j hj h => if e : j = i then (by subst e; exact h36) else pi0 j hj (by omega)⟩
    exact (.of ⟨rfl, rfl, rfl, rfl, rfl, rfl, rfl, trivial⟩)
   ·
    refine exX ?_
    refine XT ?_
    refine XT ?_
    refine Xb ?_
    refine Nt ?_
    refine sq ?_
    refine sq ?_
    have hi : i = ahead (u.take most)[k].1 es := ahead_eq (by omega) pi0 (fun h => by omega)
    refine rgD 20 kp2 mixed ?_
    refine dU 0 rfl rfl rfl (y_fa0 F64_0 rfl) kp2 ler ?_
    refine dU 1 rfl rfl rfl (y_ld (Says.own .head) Tryz.isAgg62 rfl (Nat.zero_add _).symm rfl) kp2 ler ?_
    refine dU 2 rfl rfl rfl (y_mv rfl) kp2 ler ?_
    refine dU 3 rfl rfl rfl (y_lt rfl rfl) kp2 ler ?_
    refine dU 4 rfl rfl rfl (y_mv rfl) kp2 ler ?_
    refine splH (t := 43) rfl (fun h43 => ?_) (fun h43 => ?_)
    ·
     refine dU 5 rfl rfl rfl (y_gs rfl rfl rfl) kp2 ler ?_
     refine dU 6 rfl rfl rfl (y_gs rfl rfl rfl) kp2 ler ?_
     refine dU 7 rfl rfl rfl (y_gs rfl rfl rfl) kp2 ler ?_
     refine dU 8 rfl rfl rfl (y_gs rfl rfl rfl) kp2 ler ?_
     refine dU 9 rfl rfl rfl (y_gs rfl rfl rfl) kp2 ler ?_
     refine dU 10 rfl rfl rfl (y_gu rfl rfl) kp2 ler ?_
     refine dU 11 rfl rfl rfl (y_gu rfl rfl) kp2 ler ?_
     refine dU 12 rfl rfl rfl (y_gu rfl rfl) kp2 ler ?_
     refine dU 13 rfl rfl rfl (y_gu rfl rfl) kp2 ler ?_
     refine dU 14 rfl rfl rfl (y_gu rfl rfl) kp2 ler ?_
     refine dU 15 rfl rfl rfl (y_gu rfl rfl) kp2 ler ?_
     refine dU 16 rfl rfl rfl (y_gu rfl rfl) kp2 ler ?_
     refine dU 17 rfl rfl rfl (y_gu rfl rfl) kp2 ler ?_
     refine dU 18 rfl rfl rfl (y_gs rfl rfl rfl) kp2 ler ?_
     refine dU 19 rfl rfl rfl (y_pk rfl rfl rfl) kp2 ler ?_
     refine dD (by kernel_rfl) ?_
     refine Nt ?_
     refine cT rfl ?_
     refine exX ?_
     refine XT ?_
     refine Xb ?_
     refine drN .head ?_
     refine fun a w hA hw => ⟨_, _, _, hA.sub ?_, ler, hw, _, rfl, N, oa, m, oc, es, rfl, rfl, hF_3 _, pk0, pk1, pk2, by rw [List.take_succ_eq_append_getElem hk, unknownFrom_snoc, if_pos (by omega)]; exact pk3⟩
     exact (.of ⟨rfl, rfl, rfl, rfl, rfl, trivial⟩)
    ·
     refine dU 5 rfl rfl rfl (y_gr rfl rfl (y_mv rfl)) kp2 ler ?_
     refine dU 6 rfl rfl rfl (y_gr rfl rfl (y_mv rfl)) kp2 ler ?_
     refine dU 7 rfl rfl rfl (y_gr rfl rfl (y_ls Tryz.runUnderlying24 rfl)) kp2 ler ?_
     refine dU 8 rfl rfl rfl (y_gr rfl rfl (y_lt rfl rfl)) kp2 ler ?_
     refine dU 9 rfl rfl rfl (y_gr rfl rfl (y_mv rfl)) kp2 ler ?_
     refine splH (t := 48) rfl (fun h48 => ?_) (fun h48 => ?_)
     ·
      refine dU 10 rfl rfl rfl (y_gr rfl rfl (y_mv rfl)) kp2 ler ?_
      refine dU 11 rfl rfl rfl (y_gr rfl rfl (y_mv rfl)) kp2 ler ?_
      obtain ⟨g_17, e_18⟩ := pk0.addr (by omega)
      have y_19 : ∀ L2 L3, Sel L2 N L3 → Says H L2 g_17 (0 + i * 2) (f2 (es[i]'((show i < es.length by omega)))) := fun _ _ hs => Says.elem f2 2 f2_len (pk0.says' e_18 hs) _
      refine dU 12 rfl rfl rfl (y_gr rfl rfl (y_ix2 (j := i) Tryz.runUnderlying24 Tryz.sizeOf64 rfl e_18 rfl (by omega) (by omega))) kp2 ler ?_
      refine dU 13 rfl rfl rfl (y_gr rfl rfl (y_fa F64_0 rfl)) kp2 ler ?_
      refine dU 14 rfl rfl rfl (y_gr rfl rfl (y_ld (j := 0) (y_19 _ _ (.tail .head)) Tryz.isAgg62 rfl rfl rfl)) kp2 ler ?_
      refine dU 15 rfl rfl rfl (y_gr rfl rfl (y_fa0 F64_0 rfl)) kp2 ler ?_
      refine dU 16 rfl rfl rfl (y_gr rfl rfl (y_ld (Says.own .head) Tryz.isAgg62 rfl (Nat.zero_add _).symm rfl)) kp2 ler ?_
      refine dU 17 rfl rfl rfl (y_gr rfl rfl (y_eq rfl rfl)) kp2 ler ?_
      refine dU 18 rfl rfl rfl (y_gr rfl rfl (y_pk rfl rfl rfl)) kp2 ler ?_
      refine dU 19 rfl rfl rfl (y_pk rfl rfl rfl) kp2 ler ?_
      refine dD (by kernel_rfl) ?_
      refine Nt ?_
      refine cd rfl (fun h58 => ?_) (fun h58 => ?_)
      ·
       have heq : ∃ h : ahead (u.take most)[k].1 es < es.length, es[ahead (u.take most)[k].1 es].2.1 = (u.take most)[k].1 := ⟨by omega, by simp only [← hi]; exact h58⟩
       refine exX ?_
       refine XT ?_
       refine Xb ?_
       refine drN .head ?_
       refine fun a w hA hw => ⟨_, _, _, hA.sub ?_, ler, hw, _, rfl, N, oa, m, oc, es, rfl, rfl, hF_3 _, pk0, pk1, pk2, by rw [List.take_succ_eq_append_getElem hk, unknownFrom_snoc, if_neg (by omega), ← pk3, insTag_same _ _ _ heq]⟩
       exact (.of ⟨rfl, rfl, rfl, rfl, rfl, trivial⟩)
      ·
       refine skt ?_
       refine sr ?_
       have hnew : ¬ ∃ h : ahead (u.take most)[k].1 es < es.length, es[ahead (u.take most)[k].1 es].2.1 = (u.take most)[k].1 := by rintro ⟨h, e⟩; simp only [← hi] at h e; omega
       have hil := ahead_le (u.take most)[k].1 es
       refine mv rfl rfl ?_
       refine bd' S64 rfl rfl rfl ?_
       refine bs' L24 rfl rfl rfl rfl (fun b_20 => ?_)
       refine ap (news := f2 ((⟨none, 0⟩, 0, []) : TE)) Tryz.underlying24 I64 rfl rfl pk0 (fun _ => (.tail (.tail .head))) (src_says Tryz.underlying24 rfl (fun _ => Says.own .head) (f2_one _)) (by omega) (by unfold maxLen; omega) rfl (fun a62 c62 N62 r62 z62 => ?_)
       have hr0 : Row 64 2 a62 (m + 1) c62 ((shE es m ((⟨none, 0⟩, 0, []) : TE)).flatMap f2) N62 := by rw [pk1, shE_zero, flatMap_snoc, ← pk1]; exact r62
       refine asg rfl rfl ?_
       refine nl ?_
       refine sq ?_
       refine sr ?_
       refine mv rfl rfl ?_
       refine ls Tryz.runUnderlying24 rfl rfl ?_
       refine sb rfl rfl ((w64 (by omega) (by omega)).trans (by omega : _ = ((m : Nat) : Int))) rfl ?_
       refine asg rfl rfl ?_
       refine nl ?_
       refine capF (N := N62) (fun _ => (.tail (.tail .head))) (fun F_22 hF_22 => ?_)
       refine bl (lp (m) (fun j l' H' L' => ∃ N4 : Chunk, ∃ q y, [(5, .int .u32 ((known fs : Nat) : Int)), (6, .slice a62 (m + 1) c62), (17, .slice a (u.take most).length c), (18, .int .i64 ((u.take most).length : Int)), (19, .int .i64 (k : Int)), (8, .pointer (some ⟨b_11, 0, none⟩)), (9, .int .i64 (i : Int)), (10, .int .i64 ((q : Nat) : Int))] = l' ∧ H = H' ∧ F_22 N4 = L' ∧ Row 64 2 a62 (m + 1) c62 ((shE es q y).flatMap f2) N4 ∧ q + j = m ∧ i ≤ q) [(5, .int .u32 ((known fs : Nat) : Int)), (6, .slice a62 (m + 1) c62), (17, .slice a (u.take most).length c), (18, .int .i64 ((u.take most).length : Int)), (19, .int .i64 (k : Int)), (8, .pointer (some ⟨b_11, 0, none⟩)), (9, .int .i64 (i : Int)), (10, .int .i64 ((m : Nat) : Int))] (.of ⟨rfl, rfl, rfl, rfl, rfl, rfl, rfl, rfl, trivial⟩) ⟨N62, m, ((⟨none, 0⟩, 0, []) : TE), rfl, rfl, rfl, hr0, by omega, by omega⟩ (fun j l' H' L' hjm le_21 hI => ?_))
       obtain ⟨N4, q, y, rfl, rfl, rfl, pj0, pj1, pj2⟩ := hI
       rw [hF_22]
       refine sq ?_
       refine sr ?_
       refine mv rfl rfl ?_
       refine mv rfl rfl ?_
       refine gt rfl rfl rfl ?_
       refine nl ?_
       refine cd rfl (fun h68 => ?_) (fun h68 => ?_)
       ·
        refine skt ?_
        refine sq ?_
        refine bl ?_
        refine rg ?_
        refine mv rfl rfl ?_
        refine mv rfl rfl ?_
        refine mv rfl rfl ?_
        refine mv rfl rfl ?_
        refine sb rfl rfl ((w64 (by omega) (by omega)).trans (by omega : _ = ((q - 1 : Nat) : Int))) rfl ?_
        obtain ⟨g_23, e_24⟩ := pj0.addr (by omega)
        have y_25 : ∀ L2 L3, Sel L2 N4 L3 → Says H L2 g_23 (0 + (q - 1) * 2) (f2 ((shE es q y)[(q - 1)]'((show q - 1 < (shE es q y).length by rw [shE_len es y (by omega)]; omega)))) := fun _ _ hs => Says.elem f2 2 f2_len (pj0.says' e_24 hs) _
        refine ix2 (j := (q - 1)) Tryz.runUnderlying24 Tryz.sizeOf64 rfl e_24 rfl (by omega) (by omega) rfl ?_
        refine la (j := 0) (y_25 _ _ (.tail (.tail .head))) Tryz.isAgg64 Tryz.sizeOf64 rfl rfl rfl rfl ?_
        obtain ⟨g_26, e_27⟩ := pj0.addr (by omega)
        have y_28 : ∀ L2 L3, Sel L2 N4 L3 → Says H L2 g_26 (0 + q * 2) (f2 ((shE es q y)[q]'((show q < (shE es q y).length by rw [shE_len es y (by omega)]; omega)))) := fun _ _ hs => Says.elem f2 2 f2_len (pj0.says' e_27 hs) _
        refine ix2 (j := q) Tryz.runUnderlying24 Tryz.sizeOf64 rfl e_27 rfl (by omega) (by omega) rfl ?_
        refine sR pj0 e_27 (fun _ => (.tail (.tail .head))) Tryz.sizeOf64 rfl rfl rfl rfl (by omega) (fun N5 hr5 => ?_)
        obtain ⟨hg1, hg2⟩ := shE_get es y (show q ≤ es.length by omega) (show q - 1 < q by omega)
        have hr1 : Row 64 2 a62 (m + 1) c62 ((shE es (q - 1) (es[q - 1]'(by omega))).flatMap f2) N5 := by
         have e1 := flatMap_set f2 2 f2_len (shE es q y) q (shE es q y)[q - 1]
         rw [shE_set es y _ (by omega), hg2] at e1
         have e2 := shE_down es (show q - 1 < es.length by omega)
         rw [show q - 1 + 1 = q by omega] at e2
         rw [← e2, ← e1, ← hg2]
         simp only [Nat.zero_add] at hr5; exact hr5
        refine nN ?_
        refine Nb ?_
        refine Nt ?_
        refine rg ?_
        refine mv rfl rfl ?_
        refine sb rfl rfl ((w64 (by omega) (by omega)).trans (by omega : _ = ((q - 1 : Nat) : Int))) rfl ?_
        refine asg rfl rfl ?_
        refine nN ?_
        refine fun a w hA hw => ⟨(by omega), _, _, _, hA.sub ?_, ler, hw, N5, (q - 1), (es[q - 1]'(by omega)), rfl, rfl, hF_22 _, hr1, by omega, by omega⟩
        exact (.of ⟨rfl, rfl, rfl, rfl, rfl, rfl, rfl, rfl, trivial⟩)
       ·
        refine exX ?_
        refine XT ?_
        refine XT ?_
        refine Xb ?_
        refine Nt ?_
        refine rg ?_
        refine mv rfl rfl ?_
        refine mv rfl rfl ?_
        refine la (Says.own (.tail .head)) Tryz.isAgg64 Tryz.sizeOf64 rfl (Nat.zero_add _).symm rfl rfl ?_
        obtain ⟨g_29, e_30⟩ := pj0.addr (by omega)
        have y_31 : ∀ L2 L3, Sel L2 N4 L3 → Says H L2 g_29 (0 + q * 2) (f2 ((shE es q y)[q]'((show q < (shE es q y).length by rw [shE_len es y (by omega)]; omega)))) := fun _ _ hs => Says.elem f2 2 f2_len (pj0.says' e_30 hs) _
        refine ix2 (j := q) Tryz.runUnderlying24 Tryz.sizeOf64 rfl e_30 rfl (by omega) (by omega) rfl ?_
        refine sR pj0 e_30 (fun _ => (.tail (.tail .head))) Tryz.sizeOf64 rfl rfl rfl rfl (by omega) (fun N5 hr5 => ?_)
        have hq : q = ahead (u.take most)[k].1 es := by omega
        have hrow : Row 64 2 a62 (m + 1) c62 ((insE (c_8, (u.take most)[k]) es).flatMap f2) N5 := by
         have e1 := flatMap_set f2 2 f2_len (shE es q y) q (c_8, (u.take most)[k])
         rw [shE_set es y _ (by omega)] at e1
         have e3 : shE es q (c_8, (u.take most)[k]) = insE (c_8, (u.take most)[k]) es := by rw [hq]; rfl
         rw [← e3, ← e1]
         simp only [Nat.zero_add] at hr5; exact hr5
        refine nN ?_
        refine Nb ?_
        refine drN .head ?_
        refine drN .head ?_
        refine fun a w hA hw => ⟨_, _, _, hA.sub ?_, ler, hw, _, rfl, N5, a62, (m + 1), c62, (insE (c_8, (u.take most)[k]) es), rfl, rfl, hF_3 _, hrow, by rw [insE_len]; omega, fun p hp => (mem_insE hp).elim (fun e => e ▸ q_10) (pk2 p), by rw [List.take_succ_eq_append_getElem hk, unknownFrom_snoc, if_neg (by omega), ← pk3, insTag_new c_8 _ _ _ hnew]⟩
        exact (.of ⟨rfl, rfl, rfl, rfl, rfl, trivial⟩)
     ·
      refine dU 10 rfl rfl rfl (y_gs rfl rfl rfl) kp2 ler ?_
      refine dU 11 rfl rfl rfl (y_gs rfl rfl rfl) kp2 ler ?_
      refine dU 12 rfl rfl rfl (y_gs rfl rfl rfl) kp2 ler ?_
      refine dU 13 rfl rfl rfl (y_gs rfl rfl rfl) kp2 ler ?_
      refine dU 14 rfl rfl rfl (y_gs rfl rfl rfl) kp2 ler ?_
      refine dU 15 rfl rfl rfl (y_gs rfl rfl rfl) kp2 ler ?_
      refine dU 16 rfl rfl rfl (y_gs rfl rfl rfl) kp2 ler ?_
      refine dU 17 rfl rfl rfl (y_gs rfl rfl rfl) kp2 ler ?_
      refine dU 18 rfl rfl rfl (y_gr rfl rfl (y_pk rfl rfl rfl)) kp2 ler ?_
      refine dU 19 rfl rfl rfl (y_pk rfl rfl rfl) kp2 ler ?_
      refine dD (by kernel_rfl) ?_
      refine Nt ?_
      refine cF rfl ?_
      refine skt ?_
      refine sr ?_
      have hnew : ¬ ∃ h : ahead (u.take most)[k].1 es < es.length, es[ahead (u.take most)[k].1 es].2.1 = (u.take most)[k].1 := by rintro ⟨h, e⟩; simp only [← hi] at h e; omega
      have hil := ahead_le (u.take most)[k].1 es
      refine mv rfl rfl ?_
      refine bd' S64 rfl rfl rfl ?_
      refine bs' L24 rfl rfl rfl rfl (fun b_32 => ?_)
      refine ap (news := f2 ((⟨none, 0⟩, 0, []) : TE)) Tryz.underlying24 I64 rfl rfl pk0 (fun _ => (.tail (.tail .head))) (src_says Tryz.underlying24 rfl (fun _ => Says.own .head) (f2_one _)) (by omega) (by unfold maxLen; omega) rfl (fun a62 c62 N62 r62 z62 => ?_)
      have hr0 : Row 64 2 a62 (m + 1) c62 ((shE es m ((⟨none, 0⟩, 0, []) : TE)).flatMap f2) N62 := by rw [pk1, shE_zero, flatMap_snoc, ← pk1]; exact r62
      refine asg rfl rfl ?_
      refine nl ?_
      refine sq ?_
      refine sr ?_
      refine mv rfl rfl ?_
      refine ls Tryz.runUnderlying24 rfl rfl ?_
      refine sb rfl rfl ((w64 (by omega) (by omega)).trans (by omega : _ = ((m : Nat) : Int))) rfl ?_
      refine asg rfl rfl ?_
      refine nl ?_
      refine capF (N := N62) (fun _ => (.tail (.tail .head))) (fun F_34 hF_34 => ?_)
      refine bl (lp (m) (fun j l' H' L' => ∃ N4 : Chunk, ∃ q y, [(5, .int .u32 ((known fs : Nat) : Int)), (6, .slice a62 (m + 1) c62), (17, .slice a (u.take most).length c), (18, .int .i64 ((u.take most).length : Int)), (19, .int .i64 (k : Int)), (8, .pointer (some ⟨b_11, 0, none⟩)), (9, .int .i64 (i : Int)), (10, .int .i64 ((q : Nat) : Int))] = l' ∧ H = H' ∧ F_34 N4 = L' ∧ Row 64 2 a62 (m + 1) c62 ((shE es q y).flatMap f2) N4 ∧ q + j = m ∧ i ≤ q) [(5, .int .u32 ((known fs : Nat) : Int)), (6, .slice a62 (m + 1) c62), (17, .slice a (u.take most).length c), (18, .int .i64 ((u.take most).length : Int)), (19, .int .i64 (k : Int)), (8, .pointer (some ⟨b_11, 0, none⟩)), (9, .int .i64 (i : Int)), (10, .int .i64 ((m : Nat) : Int))] (.of ⟨rfl, rfl, rfl, rfl, rfl, rfl, rfl, rfl, trivial⟩) ⟨N62, m, ((⟨none, 0⟩, 0, []) : TE), rfl, rfl, rfl, hr0, by omega, by omega⟩ (fun j l' H' L' hjm le_33 hI => ?_))
      obtain ⟨N4, q, y, rfl, rfl, rfl, pj0, pj1, pj2⟩ := hI
      rw [hF_34]
      refine sq ?_
      refine sr ?_
      refine mv rfl rfl ?_
      refine mv rfl rfl ?_
      refine gt rfl rfl rfl ?_
      refine nl ?_
      refine cd rfl (fun h68 => ?_) (fun h68 => ?_)
      ·
       refine skt ?_
       refine sq ?_
       refine bl ?_
       refine rg ?_
       refine mv rfl rfl ?_
       refine mv rfl rfl ?_
       refine mv rfl rfl ?_
       refine mv rfl rfl ?_
       refine sb rfl rfl ((w64 (by omega) (by omega)).trans (by omega : _ = ((q - 1 : Nat) : Int))) rfl ?_
       obtain ⟨g_35, e_36⟩ := pj0.addr (by omega)
       have y_37 : ∀ L2 L3, Sel L2 N4 L3 → Says H L2 g_35 (0 + (q - 1) * 2) (f2 ((shE es q y)[(q - 1)]'((show q - 1 < (shE es q y).length by rw [shE_len es y (by omega)]; omega)))) := fun _ _ hs => Says.elem f2 2 f2_len (pj0.says' e_36 hs) _
       refine ix2 (j := (q - 1)) Tryz.runUnderlying24 Tryz.sizeOf64 rfl e_36 rfl (by omega) (by omega) rfl ?_
       refine la (j := 0) (y_37 _ _ (.tail (.tail .head))) Tryz.isAgg64 Tryz.sizeOf64 rfl rfl rfl rfl ?_
       obtain ⟨g_38, e_39⟩ := pj0.addr (by omega)
       have y_40 : ∀ L2 L3, Sel L2 N4 L3 → Says H L2 g_38 (0 + q * 2) (f2 ((shE es q y)[q]'((show q < (shE es q y).length by rw [shE_len es y (by omega)]; omega)))) := fun _ _ hs => Says.elem f2 2 f2_len (pj0.says' e_39 hs) _
       refine ix2 (j := q) Tryz.runUnderlying24 Tryz.sizeOf64 rfl e_39 rfl (by omega) (by omega) rfl ?_
       refine sR pj0 e_39 (fun _ => (.tail (.tail .head))) Tryz.sizeOf64 rfl rfl rfl rfl (by omega) (fun N5 hr5 => ?_)
       obtain ⟨hg1, hg2⟩ := shE_get es y (show q ≤ es.length by omega) (show q - 1 < q by omega)
       have hr1 : Row 64 2 a62 (m + 1) c62 ((shE es (q - 1) (es[q - 1]'(by omega))).flatMap f2) N5 := by
        have e1 := flatMap_set f2 2 f2_len (shE es q y) q (shE es q y)[q - 1]
        rw [shE_set es y _ (by omega), hg2] at e1
        have e2 := shE_down es (show q - 1 < es.length by omega)
        rw [show q - 1 + 1 = q by omega] at e2
        rw [← e2, ← e1, ← hg2]
        simp only [Nat.zero_add] at hr5; exact hr5
       refine nN ?_
       refine Nb ?_
       refine Nt ?_
       refine rg ?_
       refine mv rfl rfl ?_
       refine sb rfl rfl ((w64 (by omega) (by omega)).trans (by omega : _ = ((q - 1 : Nat) : Int))) rfl ?_
       refine asg rfl rfl ?_
       refine nN ?_
       refine fun a w hA hw => ⟨(by omega), _, _, _, hA.sub ?_, ler, hw, N5, (q - 1), (es[q - 1]'(by omega)), rfl, rfl, hF_34 _, hr1, by omega, by omega⟩
       exact (.of ⟨rfl, rfl, rfl, rfl, rfl, rfl, rfl, rfl, trivial⟩)
      ·
       refine exX ?_
       refine XT ?_
       refine XT ?_
       refine Xb ?_
       refine Nt ?_
       refine rg ?_
       refine mv rfl rfl ?_
       refine mv rfl rfl ?_
       refine la (Says.own (.tail .head)) Tryz.isAgg64 Tryz.sizeOf64 rfl (Nat.zero_add _).symm rfl rfl ?_
       obtain ⟨g_41, e_42⟩ := pj0.addr (by omega)
       have y_43 : ∀ L2 L3, Sel L2 N4 L3 → Says H L2 g_41 (0 + q * 2) (f2 ((shE es q y)[q]'((show q < (shE es q y).length by rw [shE_len es y (by omega)]; omega)))) := fun _ _ hs => Says.elem f2 2 f2_len (pj0.says' e_42 hs) _
       refine ix2 (j := q) Tryz.runUnderlying24 Tryz.sizeOf64 rfl e_42 rfl (by omega) (by omega) rfl ?_
       refine sR pj0 e_42 (fun _ => (.tail (.tail .head))) Tryz.sizeOf64 rfl rfl rfl rfl (by omega) (fun N5 hr5 => ?_)
       have hq : q = ahead (u.take most)[k].1 es := by omega
       have hrow : Row 64 2 a62 (m + 1) c62 ((insE (c_8, (u.take most)[k]) es).flatMap f2) N5 := by
        have e1 := flatMap_set f2 2 f2_len (shE es q y) q (c_8, (u.take most)[k])
        rw [shE_set es y _ (by omega)] at e1
        have e3 : shE es q (c_8, (u.take most)[k]) = insE (c_8, (u.take most)[k]) es := by rw [hq]; rfl
        rw [← e3, ← e1]
        simp only [Nat.zero_add] at hr5; exact hr5
       refine nN ?_
       refine Nb ?_
       refine drN .head ?_
       refine drN .head ?_
       refine fun a w hA hw => ⟨_, _, _, hA.sub ?_, ler, hw, _, rfl, N5, a62, (m + 1), c62, (insE (c_8, (u.take most)[k]) es), rfl, rfl, hF_3 _, hrow, by rw [insE_len]; omega, fun p hp => (mem_insE hp).elim (fun e => e ▸ q_10) (pk2 p), by rw [List.take_succ_eq_append_getElem hk, unknownFrom_snoc, if_neg (by omega), ← pk3, insTag_new c_8 _ _ _ hnew]⟩
       exact (.of ⟨rfl, rfl, rfl, rfl, rfl, trivial⟩)
  ·
   refine dU 5 rfl rfl rfl (y_gs rfl rfl rfl) kp2 ler ?_
   refine dU 6 rfl rfl rfl (y_gs rfl rfl rfl) kp2 ler ?_
   refine dU 7 rfl rfl rfl (y_gs rfl rfl rfl) kp2 ler ?_
   refine dU 8 rfl rfl rfl (y_gs rfl rfl rfl) kp2 ler ?_
   refine dU 9 rfl rfl rfl (y_gs rfl rfl rfl) kp2 ler ?_
   refine dU 10 rfl rfl rfl (y_gs rfl rfl rfl) kp2 ler ?_
   refine dU 11 rfl rfl rfl (y_gs rfl rfl rfl) kp2 ler ?_
   refine dU 12 rfl rfl rfl (y_gs rfl rfl rfl) kp2 ler ?_
   refine dU 13 rfl rfl rfl (y_pk rfl rfl rfl) kp2 ler ?_
   refine dD (by kernel_rfl) ?_
   refine Nt ?_
   refine cF rfl ?_
   refine exX ?_
   refine XT ?_
   refine XT ?_
   refine Xb ?_
   refine Nt ?_
   refine sq ?_
   refine sq ?_
   have hi : i = ahead (u.take most)[k].1 es := ahead_eq (by omega) pi0 (fun h => by omega)
   refine rgD 20 kp2 mixed ?_
   refine dU 0 rfl rfl rfl (y_fa0 F64_0 rfl) kp2 ler ?_
   refine dU 1 rfl rfl rfl (y_ld (Says.own .head) Tryz.isAgg62 rfl (Nat.zero_add _).symm rfl) kp2 ler ?_
   refine dU 2 rfl rfl rfl (y_mv rfl) kp2 ler ?_
   refine dU 3 rfl rfl rfl (y_lt rfl rfl) kp2 ler ?_
   refine dU 4 rfl rfl rfl (y_mv rfl) kp2 ler ?_
   refine splH (t := 43) rfl (fun h43 => ?_) (fun h43 => ?_)
   ·
    refine dU 5 rfl rfl rfl (y_gs rfl rfl rfl) kp2 ler ?_
    refine dU 6 rfl rfl rfl (y_gs rfl rfl rfl) kp2 ler ?_
    refine dU 7 rfl rfl rfl (y_gs rfl rfl rfl) kp2 ler ?_
    refine dU 8 rfl rfl rfl (y_gs rfl rfl rfl) kp2 ler ?_
    refine dU 9 rfl rfl rfl (y_gs rfl rfl rfl) kp2 ler ?_
    refine dU 10 rfl rfl rfl (y_gu rfl rfl) kp2 ler ?_
    refine dU 11 rfl rfl rfl (y_gu rfl rfl) kp2 ler ?_
    refine dU 12 rfl rfl rfl (y_gu rfl rfl) kp2 ler ?_
    refine dU 13 rfl rfl rfl (y_gu rfl rfl) kp2 ler ?_
    refine dU 14 rfl rfl rfl (y_gu rfl rfl) kp2 ler ?_
    refine dU 15 rfl rfl rfl (y_gu rfl rfl) kp2 ler ?_
    refine dU 16 rfl rfl rfl (y_gu rfl rfl) kp2 ler ?_
    refine dU 17 rfl rfl rfl (y_gu rfl rfl) kp2 ler ?_
    refine dU 18 rfl rfl rfl (y_gs rfl rfl rfl) kp2 ler ?_
    refine dU 19 rfl rfl rfl (y_pk rfl rfl rfl) kp2 ler ?_
    refine dD (by kernel_rfl) ?_
    refine Nt ?_
    refine cT rfl ?_
    refine exX ?_
    refine XT ?_
    refine Xb ?_
    refine drN .head ?_
    refine fun a w hA hw => ⟨_, _, _, hA.sub ?_, ler, hw, _, rfl, N, oa, m, oc, es, rfl, rfl, hF_3 _, pk0, pk1, pk2, by rw [List.take_succ_eq_append_getElem hk, unknownFrom_snoc, if_pos (by omega)]; exact pk3⟩
    exact (.of ⟨rfl, rfl, rfl, rfl, rfl, trivial⟩)
   ·
    refine dU 5 rfl rfl rfl (y_gr rfl rfl (y_mv rfl)) kp2 ler ?_
    refine dU 6 rfl rfl rfl (y_gr rfl rfl (y_mv rfl)) kp2 ler ?_
    refine dU 7 rfl rfl rfl (y_gr rfl rfl (y_ls Tryz.runUnderlying24 rfl)) kp2 ler ?_
    refine dU 8 rfl rfl rfl (y_gr rfl rfl (y_lt rfl rfl)) kp2 ler ?_
    refine dU 9 rfl rfl rfl (y_gr rfl rfl (y_mv rfl)) kp2 ler ?_
    refine splH (t := 48) rfl (fun h48 => ?_) (fun h48 => ?_)
    ·
     refine dU 10 rfl rfl rfl (y_gr rfl rfl (y_mv rfl)) kp2 ler ?_
     refine dU 11 rfl rfl rfl (y_gr rfl rfl (y_mv rfl)) kp2 ler ?_
     obtain ⟨g_44, e_45⟩ := pk0.addr (by omega)
     have y_46 : ∀ L2 L3, Sel L2 N L3 → Says H L2 g_44 (0 + i * 2) (f2 (es[i]'((show i < es.length by omega)))) := fun _ _ hs => Says.elem f2 2 f2_len (pk0.says' e_45 hs) _
     refine dU 12 rfl rfl rfl (y_gr rfl rfl (y_ix2 (j := i) Tryz.runUnderlying24 Tryz.sizeOf64 rfl e_45 rfl (by omega) (by omega))) kp2 ler ?_
     refine dU 13 rfl rfl rfl (y_gr rfl rfl (y_fa F64_0 rfl)) kp2 ler ?_
     refine dU 14 rfl rfl rfl (y_gr rfl rfl (y_ld (j := 0) (y_46 _ _ (.tail .head)) Tryz.isAgg62 rfl rfl rfl)) kp2 ler ?_
     refine dU 15 rfl rfl rfl (y_gr rfl rfl (y_fa0 F64_0 rfl)) kp2 ler ?_
     refine dU 16 rfl rfl rfl (y_gr rfl rfl (y_ld (Says.own .head) Tryz.isAgg62 rfl (Nat.zero_add _).symm rfl)) kp2 ler ?_
     refine dU 17 rfl rfl rfl (y_gr rfl rfl (y_eq rfl rfl)) kp2 ler ?_
     refine dU 18 rfl rfl rfl (y_gr rfl rfl (y_pk rfl rfl rfl)) kp2 ler ?_
     refine dU 19 rfl rfl rfl (y_pk rfl rfl rfl) kp2 ler ?_
     refine dD (by kernel_rfl) ?_
     refine Nt ?_
     refine cd rfl (fun h58 => ?_) (fun h58 => ?_)
     ·
      have heq : ∃ h : ahead (u.take most)[k].1 es < es.length, es[ahead (u.take most)[k].1 es].2.1 = (u.take most)[k].1 := ⟨by omega, by simp only [← hi]; exact h58⟩
      refine exX ?_
      refine XT ?_
      refine Xb ?_
      refine drN .head ?_
      refine fun a w hA hw => ⟨_, _, _, hA.sub ?_, ler, hw, _, rfl, N, oa, m, oc, es, rfl, rfl, hF_3 _, pk0, pk1, pk2, by rw [List.take_succ_eq_append_getElem hk, unknownFrom_snoc, if_neg (by omega), ← pk3, insTag_same _ _ _ heq]⟩
      exact (.of ⟨rfl, rfl, rfl, rfl, rfl, trivial⟩)
     ·
      refine skt ?_
      refine sr ?_
      have hnew : ¬ ∃ h : ahead (u.take most)[k].1 es < es.length, es[ahead (u.take most)[k].1 es].2.1 = (u.take most)[k].1 := by rintro ⟨h, e⟩; simp only [← hi] at h e; omega
      have hil := ahead_le (u.take most)[k].1 es
      refine mv rfl rfl ?_
      refine bd' S64 rfl rfl rfl ?_
      refine bs' L24 rfl rfl rfl rfl (fun b_47 => ?_)
      refine ap (news := f2 ((⟨none, 0⟩, 0, []) : TE)) Tryz.underlying24 I64 rfl rfl pk0 (fun _ => (.tail (.tail .head))) (src_says Tryz.underlying24 rfl (fun _ => Says.own .head) (f2_one _)) (by omega) (by unfold maxLen; omega) rfl (fun a62 c62 N62 r62 z62 => ?_)
      have hr0 : Row 64 2 a62 (m + 1) c62 ((shE es m ((⟨none, 0⟩, 0, []) : TE)).flatMap f2) N62 := by rw [pk1, shE_zero, flatMap_snoc, ← pk1]; exact r62
      refine asg rfl rfl ?_
      refine nl ?_
      refine sq ?_
      refine sr ?_
      refine mv rfl rfl ?_
      refine ls Tryz.runUnderlying24 rfl rfl ?_
      refine sb rfl rfl ((w64 (by omega) (by omega)).trans (by omega : _ = ((m : Nat) : Int))) rfl ?_
      refine asg rfl rfl ?_
      refine nl ?_
      refine capF (N := N62) (fun _ => (.tail (.tail .head))) (fun F_49 hF_49 => ?_)
      refine bl (lp (m) (fun j l' H' L' => ∃ N4 : Chunk, ∃ q y, [(5, .int .u32 ((known fs : Nat) : Int)), (6, .slice a62 (m + 1) c62), (17, .slice a (u.take most).length c), (18, .int .i64 ((u.take most).length : Int)), (19, .int .i64 (k : Int)), (8, .pointer (some ⟨b_11, 0, none⟩)), (9, .int .i64 (i : Int)), (10, .int .i64 ((q : Nat) : Int))] = l' ∧ H = H' ∧ F_49 N4 = L' ∧ Row 64 2 a62 (m + 1) c62 ((shE es q y).flatMap f2) N4 ∧ q + j = m ∧ i ≤ q) [(5, .int .u32 ((known fs : Nat) : Int)), (6, .slice a62 (m + 1) c62), (17, .slice a (u.take most).length c), (18, .int .i64 ((u.take most).length : Int)), (19, .int .i64 (k : Int)), (8, .pointer (some ⟨b_11, 0, none⟩)), (9, .int .i64 (i : Int)), (10, .int .i64 ((m : Nat) : Int))] (.of ⟨rfl, rfl, rfl, rfl, rfl, rfl, rfl, rfl, trivial⟩) ⟨N62, m, ((⟨none, 0⟩, 0, []) : TE), rfl, rfl, rfl, hr0, by omega, by omega⟩ (fun j l' H' L' hjm le_48 hI => ?_))
      obtain ⟨N4, q, y, rfl, rfl, rfl, pj0, pj1, pj2⟩ := hI
      rw [hF_49]
      refine sq ?_
      refine sr ?_
      refine mv rfl rfl ?_
      refine mv rfl rfl ?_
      refine gt rfl rfl rfl ?_
      refine nl ?_
      refine cd rfl (fun h68 => ?_) (fun h68 => ?_)
      ·
       refine skt ?_
       refine sq ?_
       refine bl ?_
       refine rg ?_
       refine mv rfl rfl ?_
       refine mv rfl rfl ?_
       refine mv rfl rfl ?_
       refine mv rfl rfl ?_
       refine sb rfl rfl ((w64 (by omega) (by omega)).trans (by omega : _ = ((q - 1 : Nat) : Int))) rfl ?_
       obtain ⟨g_50, e_51⟩ := pj0.addr (by omega)
       have y_52 : ∀ L2 L3, Sel L2 N4 L3 → Says H L2 g_50 (0 + (q - 1) * 2) (f2 ((shE es q y)[(q - 1)]'((show q - 1 < (shE es q y).length by rw [shE_len es y (by omega)]; omega)))) := fun _ _ hs => Says.elem f2 2 f2_len (pj0.says' e_51 hs) _
       refine ix2 (j := (q - 1)) Tryz.runUnderlying24 Tryz.sizeOf64 rfl e_51 rfl (by omega) (by omega) rfl ?_
       refine la (j := 0) (y_52 _ _ (.tail (.tail .head))) Tryz.isAgg64 Tryz.sizeOf64 rfl rfl rfl rfl ?_
       obtain ⟨g_53, e_54⟩ := pj0.addr (by omega)
       have y_55 : ∀ L2 L3, Sel L2 N4 L3 → Says H L2 g_53 (0 + q * 2) (f2 ((shE es q y)[q]'((show q < (shE es q y).length by rw [shE_len es y (by omega)]; omega)))) := fun _ _ hs => Says.elem f2 2 f2_len (pj0.says' e_54 hs) _
       refine ix2 (j := q) Tryz.runUnderlying24 Tryz.sizeOf64 rfl e_54 rfl (by omega) (by omega) rfl ?_
       refine sR pj0 e_54 (fun _ => (.tail (.tail .head))) Tryz.sizeOf64 rfl rfl rfl rfl (by omega) (fun N5 hr5 => ?_)
       obtain ⟨hg1, hg2⟩ := shE_get es y (show q ≤ es.length by omega) (show q - 1 < q by omega)
       have hr1 : Row 64 2 a62 (m + 1) c62 ((shE es (q - 1) (es[q - 1]'(by omega))).flatMap f2) N5 := by
        have e1 := flatMap_set f2 2 f2_len (shE es q y) q (shE es q y)[q - 1]
        rw [shE_set es y _ (by omega), hg2] at e1
        have e2 := shE_down es (show q - 1 < es.length by omega)
        rw [show q - 1 + 1 = q by omega] at e2
        rw [← e2, ← e1, ← hg2]
        simp only [Nat.zero_add] at hr5; exact hr5
       refine nN ?_
       refine Nb ?_
       refine Nt ?_
       refine rg ?_
       refine mv rfl rfl ?_
       refine sb rfl rfl ((w64 (by omega) (by omega)).trans (by omega : _ = ((q - 1 : Nat) : Int))) rfl ?_
       refine asg rfl rfl ?_
       refine nN ?_
       refine fun a w hA hw => ⟨(by omega), _, _, _, hA.sub ?_, ler, hw, N5, (q - 1), (es[q - 1]'(by omega)), rfl, rfl, hF_49 _, hr1, by omega, by omega⟩
       exact (.of ⟨rfl, rfl, rfl, rfl, rfl, rfl, rfl, rfl, trivial⟩)
      ·
       refine exX ?_
       refine XT ?_
       refine XT ?_
       refine Xb ?_
       refine Nt ?_
       refine rg ?_
       refine mv rfl rfl ?_
       refine mv rfl rfl ?_
       refine la (Says.own (.tail .head)) Tryz.isAgg64 Tryz.sizeOf64 rfl (Nat.zero_add _).symm rfl rfl ?_
       obtain ⟨g_56, e_57⟩ := pj0.addr (by omega)
       have y_58 : ∀ L2 L3, Sel L2 N4 L3 → Says H L2 g_56 (0 + q * 2) (f2 ((shE es q y)[q]'((show q < (shE es q y).length by rw [shE_len es y (by omega)]; omega)))) := fun _ _ hs => Says.elem f2 2 f2_len (pj0.says' e_57 hs) _
       refine ix2 (j := q) Tryz.runUnderlying24 Tryz.sizeOf64 rfl e_57 rfl (by omega) (by omega) rfl ?_
       refine sR pj0 e_57 (fun _ => (.tail (.tail .head))) Tryz.sizeOf64 rfl rfl rfl rfl (by omega) (fun N5 hr5 => ?_)
       have hq : q = ahead (u.take most)[k].1 es := by omega
       have hrow : Row 64 2 a62 (m + 1) c62 ((insE (c_8, (u.take most)[k]) es).flatMap f2) N5 := by
        have e1 := flatMap_set f2 2 f2_len (shE es q y) q (c_8, (u.take most)[k])
        rw [shE_set es y _ (by omega)] at e1
        have e3 : shE es q (c_8, (u.take most)[k]) = insE (c_8, (u.take most)[k]) es := by rw [hq]; rfl
        rw [← e3, ← e1]
        simp only [Nat.zero_add] at hr5; exact hr5
       refine nN ?_
       refine Nb ?_
       refine drN .head ?_
       refine drN .head ?_
       refine fun a w hA hw => ⟨_, _, _, hA.sub ?_, ler, hw, _, rfl, N5, a62, (m + 1), c62, (insE (c_8, (u.take most)[k]) es), rfl, rfl, hF_3 _, hrow, by rw [insE_len]; omega, fun p hp => (mem_insE hp).elim (fun e => e ▸ q_10) (pk2 p), by rw [List.take_succ_eq_append_getElem hk, unknownFrom_snoc, if_neg (by omega), ← pk3, insTag_new c_8 _ _ _ hnew]⟩
       exact (.of ⟨rfl, rfl, rfl, rfl, rfl, trivial⟩)
    ·
     refine dU 10 rfl rfl rfl (y_gs rfl rfl rfl) kp2 ler ?_
     refine dU 11 rfl rfl rfl (y_gs rfl rfl rfl) kp2 ler ?_
     refine dU 12 rfl rfl rfl (y_gs rfl rfl rfl) kp2 ler ?_
     refine dU 13 rfl rfl rfl (y_gs rfl rfl rfl) kp2 ler ?_
     refine dU 14 rfl rfl rfl (y_gs rfl rfl rfl) kp2 ler ?_
     refine dU 15 rfl rfl rfl (y_gs rfl rfl rfl) kp2 ler ?_
     refine dU 16 rfl rfl rfl (y_gs rfl rfl rfl) kp2 ler ?_
     refine dU 17 rfl rfl rfl (y_gs rfl rfl rfl) kp2 ler ?_
     refine dU 18 rfl rfl rfl (y_gr rfl rfl (y_pk rfl rfl rfl)) kp2 ler ?_
     refine dU 19 rfl rfl rfl (y_pk rfl rfl rfl) kp2 ler ?_
     refine dD (by kernel_rfl) ?_
     refine Nt ?_
     refine cF rfl ?_
     refine skt ?_
     refine sr ?_
     have hnew : ¬ ∃ h : ahead (u.take most)[k].1 es < es.length, es[ahead (u.take most)[k].1 es].2.1 = (u.take most)[k].1 := by rintro ⟨h, e⟩; simp only [← hi] at h e; omega
     have hil := ahead_le (u.take most)[k].1 es
     refine mv rfl rfl ?_
     refine bd' S64 rfl rfl rfl ?_
     refine bs' L24 rfl rfl rfl rfl (fun b_59 => ?_)
     refine ap (news := f2 ((⟨none, 0⟩, 0, []) : TE)) Tryz.underlying24 I64 rfl rfl pk0 (fun _ => (.tail (.tail .head))) (src_says Tryz.underlying24 rfl (fun _ => Says.own .head) (f2_one _)) (by omega) (by unfold maxLen; omega) rfl (fun a62 c62 N62 r62 z62 => ?_)
     have hr0 : Row 64 2 a62 (m + 1) c62 ((shE es m ((⟨none, 0⟩, 0, []) : TE)).flatMap f2) N62 := by rw [pk1, shE_zero, flatMap_snoc, ← pk1]; exact r62
     refine asg rfl rfl ?_
     refine nl ?_
     refine sq ?_
     refine sr ?_
     refine mv rfl rfl ?_
     refine ls Tryz.runUnderlying24 rfl rfl ?_
     refine sb rfl rfl ((w64 (by omega) (by omega)).trans (by omega : _ = ((m : Nat) : Int))) rfl ?_
     refine asg rfl rfl ?_
     refine nl ?_
     refine capF (N := N62) (fun _ => (.tail (.tail .head))) (fun F_61 hF_61 => ?_)
     refine bl (lp (m) (fun j l' H' L' => ∃ N4 : Chunk, ∃ q y, [(5, .int .u32 ((known fs : Nat) : Int)), (6, .slice a62 (m + 1) c62), (17, .slice a (u.take most).length c), (18, .int .i64 ((u.take most).length : Int)), (19, .int .i64 (k : Int)), (8, .pointer (some ⟨b_11, 0, none⟩)), (9, .int .i64 (i : Int)), (10, .int .i64 ((q : Nat) : Int))] = l' ∧ H = H' ∧ F_61 N4 = L' ∧ Row 64 2 a62 (m + 1) c62 ((shE es q y).flatMap f2) N4 ∧ q + j = m ∧ i ≤ q) [(5, .int .u32 ((known fs : Nat) : Int)), (6, .slice a62 (m + 1) c62), (17, .slice a (u.take most).length c), (18, .int .i64 ((u.take most).length : Int)), (19, .int .i64 (k : Int)), (8, .pointer (some ⟨b_11, 0, none⟩)), (9, .int .i64 (i : Int)), (10, .int .i64 ((m : Nat) : Int))] (.of ⟨rfl, rfl, rfl, rfl, rfl, rfl, rfl, rfl, trivial⟩) ⟨N62, m, ((⟨none, 0⟩, 0, []) : TE), rfl, rfl, rfl, hr0, by omega, by omega⟩ (fun j l' H' L' hjm le_60 hI => ?_))
     obtain ⟨N4, q, y, rfl, rfl, rfl, pj0, pj1, pj2⟩ := hI
     rw [hF_61]
     refine sq ?_
     refine sr ?_
     refine mv rfl rfl ?_
     refine mv rfl rfl ?_
     refine gt rfl rfl rfl ?_
     refine nl ?_
     refine cd rfl (fun h68 => ?_) (fun h68 => ?_)
     ·
      refine skt ?_
      refine sq ?_
      refine bl ?_
      refine rg ?_
      refine mv rfl rfl ?_
      refine mv rfl rfl ?_
      refine mv rfl rfl ?_
      refine mv rfl rfl ?_
      refine sb rfl rfl ((w64 (by omega) (by omega)).trans (by omega : _ = ((q - 1 : Nat) : Int))) rfl ?_
      obtain ⟨g_62, e_63⟩ := pj0.addr (by omega)
      have y_64 : ∀ L2 L3, Sel L2 N4 L3 → Says H L2 g_62 (0 + (q - 1) * 2) (f2 ((shE es q y)[(q - 1)]'((show q - 1 < (shE es q y).length by rw [shE_len es y (by omega)]; omega)))) := fun _ _ hs => Says.elem f2 2 f2_len (pj0.says' e_63 hs) _
      refine ix2 (j := (q - 1)) Tryz.runUnderlying24 Tryz.sizeOf64 rfl e_63 rfl (by omega) (by omega) rfl ?_
      refine la (j := 0) (y_64 _ _ (.tail (.tail .head))) Tryz.isAgg64 Tryz.sizeOf64 rfl rfl rfl rfl ?_
      obtain ⟨g_65, e_66⟩ := pj0.addr (by omega)
      have y_67 : ∀ L2 L3, Sel L2 N4 L3 → Says H L2 g_65 (0 + q * 2) (f2 ((shE es q y)[q]'((show q < (shE es q y).length by rw [shE_len es y (by omega)]; omega)))) := fun _ _ hs => Says.elem f2 2 f2_len (pj0.says' e_66 hs) _
      refine ix2 (j := q) Tryz.runUnderlying24 Tryz.sizeOf64 rfl e_66 rfl (by omega) (by omega) rfl ?_
      refine sR pj0 e_66 (fun _ => (.tail (.tail .head))) Tryz.sizeOf64 rfl rfl rfl rfl (by omega) (fun N5 hr5 => ?_)
      obtain ⟨hg1, hg2⟩ := shE_get es y (show q ≤ es.length by omega) (show q - 1 < q by omega)
      have hr1 : Row 64 2 a62 (m + 1) c62 ((shE es (q - 1) (es[q - 1]'(by omega))).flatMap f2) N5 := by
       have e1 := flatMap_set f2 2 f2_len (shE es q y) q (shE es q y)[q - 1]
       rw [shE_set es y _ (by omega), hg2] at e1
       have e2 := shE_down es (show q - 1 < es.length by omega)
       rw [show q - 1 + 1 = q by omega] at e2
       rw [← e2, ← e1, ← hg2]
       simp only [Nat.zero_add] at hr5; exact hr5
      refine nN ?_
      refine Nb ?_
      refine Nt ?_
      refine rg ?_
      refine mv rfl rfl ?_
      refine sb rfl rfl ((w64 (by omega) (by omega)).trans (by omega : _ = ((q - 1 : Nat) : Int))) rfl ?_
      refine asg rfl rfl ?_
      refine nN ?_
      refine fun a w hA hw => ⟨(by omega), _, _, _, hA.sub ?_, ler, hw, N5, (q - 1), (es[q - 1]'(by omega)), rfl, rfl, hF_61 _, hr1, by omega, by omega⟩
      exact (.of ⟨rfl, rfl, rfl, rfl, rfl, rfl, rfl, rfl, trivial⟩)
     ·
      refine exX ?_
      refine XT ?_
      refine XT ?_
      refine Xb ?_
      refine Nt ?_
      refine rg ?_
      refine mv rfl rfl ?_
      refine mv rfl rfl ?_
      refine la (Says.own (.tail .head)) Tryz.isAgg64 Tryz.sizeOf64 rfl (Nat.zero_add _).symm rfl rfl ?_
      obtain ⟨g_68, e_69⟩ := pj0.addr (by omega)
      have y_70 : ∀ L2 L3, Sel L2 N4 L3 → Says H L2 g_68 (0 + q * 2) (f2 ((shE es q y)[q]'((show q < (shE es q y).length by rw [shE_len es y (by omega)]; omega)))) := fun _ _ hs => Says.elem f2 2 f2_len (pj0.says' e_69 hs) _
      refine ix2 (j := q) Tryz.runUnderlying24 Tryz.sizeOf64 rfl e_69 rfl (by omega) (by omega) rfl ?_
      refine sR pj0 e_69 (fun _ => (.tail (.tail .head))) Tryz.sizeOf64 rfl rfl rfl rfl (by omega) (fun N5 hr5 => ?_)
      have hq : q = ahead (u.take most)[k].1 es := by omega
      have hrow : Row 64 2 a62 (m + 1) c62 ((insE (c_8, (u.take most)[k]) es).flatMap f2) N5 := by
       have e1 := flatMap_set f2 2 f2_len (shE es q y) q (c_8, (u.take most)[k])
       rw [shE_set es y _ (by omega)] at e1
       have e3 : shE es q (c_8, (u.take most)[k]) = insE (c_8, (u.take most)[k]) es := by rw [hq]; rfl
       rw [← e3, ← e1]
       simp only [Nat.zero_add] at hr5; exact hr5
      refine nN ?_
      refine Nb ?_
      refine drN .head ?_
      refine drN .head ?_
      refine fun a w hA hw => ⟨_, _, _, hA.sub ?_, ler, hw, _, rfl, N5, a62, (m + 1), c62, (insE (c_8, (u.take most)[k]) es), rfl, rfl, hF_3 _, hrow, by rw [insE_len]; omega, fun p hp => (mem_insE hp).elim (fun e => e ▸ q_10) (pk2 p), by rw [List.take_succ_eq_append_getElem hk, unknownFrom_snoc, if_neg (by omega), ← pk3, insTag_new c_8 _ _ _ hnew]⟩
      exact (.of ⟨rfl, rfl, rfl, rfl, rfl, trivial⟩)
 ·
  obtain ⟨N, oa, m, oc, es, rfl, rfl, rfl, pk0, pk1, pk2, pk3⟩ := hI
  rw [hF_3]
  refine toWp ?_
  refine sr ?_
  refine mv rfl rfl ?_
  refine asg rfl rfl ?_
  refine nl ?_
  refine frW pk0 .head (fun H2 hle2 hfz => ?_)
  have he : es.map (·.2) = unknown fs u := by rw [pk3, List.take_length]; rfl
  have hlen : (unknown fs u).length = m := by rw [← he]; simp [pk1]
  have hk2 := unknown_len fs u
  exact rT rfl rfl hle2 (fun _ _ h => h) ⟨rfl, oa, oc, by rw [hlen], by rw [← he]; exact TagsAt.row hfz pk1 pk0.le.1 (by unfold B47; omega) (fun p hp => (pk2 p hp).mono hle2)⟩
end Go.Sx
