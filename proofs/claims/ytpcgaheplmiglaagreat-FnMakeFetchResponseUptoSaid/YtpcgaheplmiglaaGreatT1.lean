import Derived.Test.YtpcgaheplmiglaaGreatSxTab
import Derived.Test.YtpcgaheplmiglaaGreatSA
import Derived.Test.YtpcgaheplmiglaaGreatLibF
import Derived.Test.YtpcgaheplmiglaaGreatKB
import Derived.KernelRfl
set_option linter.unusedVariables false
set_option linter.unusedSimpArgs false
set_option maxRecDepth 100000
set_option maxHeartbeats 20000000
namespace Go.Sx
open Go.Proofs
theorem t_set {H : Fz} {L : Own} {b T off : Nat} {cs : List Value} {m : Option Nat} {kvs : List KV} {N : Chunk} {k : Int} {v : Value} (hm : MapC m kvs N) (hc : nth cs off = some (.map m)) :
  Fn Tryz.prog 32 [.pointer (some ⟨b, off, none⟩), .int .u32 k, v] H (N :: [(b, .cells cs.toArray T (0, 0))] :: L)
   (fun _ H' L' => H = H' ∧ ∃ g cs', setAt cs off (.map (some g)) = some cs' ∧ L' = [(g, mapObj (putKv kvs k v))] :: [(b, .cells cs'.toArray T (0, 0))] :: L) := by
 refine Fn.mk Tryz.call32 Tryz.func32 rfl Tryz.ntmps32 rfl ?_
 refine sq ?_
 refine sr ?_
 refine mv rfl rfl ?_
 refine nc rfl rfl ?_
 refine fa F56_0 rfl rfl ?_
 refine ld (Says.own (.tail .head)) Tryz.isAgg54 rfl (Nat.zero_add _).symm hc rfl ?_
 refine emn Tryz.underlying54 rfl rfl ?_
 refine nl ?_
 refine cb rfl (fun h10 => ?_) (fun h10 => ?_)
 ·
  obtain rfl : m = none := by simpa using h10
  obtain ⟨_, rfl, rfl⟩ | ⟨g, h0, _⟩ := hm
  ·
   refine rg ?_
   refine mv rfl rfl ?_
   refine mkm rfl (fun g => ?_)
   refine nc rfl rfl ?_
   refine fa F56_0 rfl rfl ?_
   obtain ⟨cs', hs⟩ := setAt_some (.map (some g)) hc
   refine st Tryz.sizeOf54 rfl rfl rfl hs (.tail (.tail .head)) ?_
   refine nN ?_
   refine Nt ?_
   refine rg ?_
   refine mv rfl rfl ?_
   refine nc rfl rfl ?_
   refine fa F56_0 rfl rfl ?_
   refine ld (Says.own (.tail (.tail .head))) Tryz.isAgg54 rfl (Nat.zero_add _).symm (nth_setAt hs) rfl ?_
   refine mv rfl rfl ?_
   refine mv rfl rfl ?_
   refine mup Tryz.underlying54 Tryz.underlying62 rfl rfl rfl .head ?_
   refine nN ?_
   refine drN (.tail .head) ?_
   exact fun _ _ hA hw => rn rfl (Fz.le.refl _) ⟨rfl, g, cs', hs, rfl⟩ hA hw
  · cases h0
 ·
  obtain ⟨rfl, _⟩ | ⟨g, rfl, rfl⟩ := hm
  · simp at h10
  ·
   refine skN ?_
   refine Nt ?_
   refine rg ?_
   refine mv rfl rfl ?_
   refine nc rfl rfl ?_
   refine fa F56_0 rfl rfl ?_
   refine ld (Says.own (.tail .head)) Tryz.isAgg54 rfl (Nat.zero_add _).symm hc rfl ?_
   refine mv rfl rfl ?_
   refine mv rfl rfl ?_
   refine mup Tryz.underlying54 Tryz.underlying62 rfl rfl rfl .head ?_
   refine nN ?_
   exact fun _ _ hA hw => rn rfl (Fz.le.refl _) ⟨rfl, g, cs, setAt_same hc, rfl⟩ hA hw
theorem t_len {H : Fz} {L : Own} {b o j : Nat} {cs : List Value} {m : Option Nat} {kvs : List KV} (hb : H.at b o cs) (hj : nth cs j = some (.map m)) (hm : MapF H m kvs) :
  Fn Tryz.prog 44 [.pointer (some ⟨b, o + j, none⟩)] H L (fun v H' L' => H = H' ∧ L = L' ∧ v = .int .i64 (kvs.length : Int)) := by
 refine Fn.mk Tryz.call44 Tryz.func44 rfl Tryz.ntmps44 rfl ?_
 refine sr ?_
 refine asg rfl rfl ?_
 refine nl ?_
 refine sr ?_
 refine mv rfl rfl ?_
 refine nc rfl rfl ?_
 refine fa F56_0 rfl rfl ?_
 refine ld (Says.fz hb) Tryz.isAgg54 rfl rfl hj rfl ?_
 refine lmn Tryz.underlying54 rfl hm rfl ?_
 refine asg rfl rfl ?_
 refine nl ?_
 exact rT rfl rfl (Fz.le.refl _) (fun _ _ h => h) ⟨rfl, rfl, rfl⟩
theorem t_lenU {H : Fz} {L : Own} {b o j : Nat} {cs : List Value} {m : Option Nat} {us : List (Int × List UInt8)} (hb : H.at b o cs) (hj : nth cs j = some (.map m)) (hm : KvAt H m us) :
  Fn Tryz.prog 44 [.pointer (some ⟨b, o + j, none⟩)] H L (fun v H' L' => H = H' ∧ L = L' ∧ v = .int .i64 (us.length : Int)) := by
 obtain ⟨kvs, h1, h2, _⟩ := hm
 rw [← h2]; exact t_len hb hj h1
theorem k_Len32 {H : Fz} {L : Own} {n : Nat} (hn : n < 4294967296) : Fn Tryz.prog 91 [.int .u32 (n : Int)] H L (fun v H' L' => H = H' ∧ L = L' ∧ v = .int .i64 (Lib.bitLen n : Int)) :=
 ⟨Tryz.call91, fun w hw => (Any.bits_Len32 (P := Tryz.prog) (ρ := sRen.viaGgs) { LaysGg.n13.bits (P := Tryz.prog) (ρ := sRen) { sLays with } with } (n : Int) w (by omega) (by omega)).mono (by
  rintro e w' ⟨rfl, rfl⟩
  exact ⟨_, H, L, rfl, Fz.le.refl _, hw, rfl, rfl, by rw [Int.toNat_natCast]⟩)⟩
theorem k_UvarintLen {H : Fz} {L : Own} {n : Nat} (hn : n < 4294967296) : Fn Tryz.prog 76 [.int .u32 (n : Int)] H L (fun v H' L' => H = H' ∧ L = L' ∧ v = .int .i64 (uvl n : Int)) := by
 refine Fn.mk Tryz.call76 Tryz.func76 rfl Tryz.ntmps76 rfl ?_
 refine sr ?_
 refine asg rfl rfl ?_
 refine nl ?_
 refine sr ?_
 refine mv rfl rfl ?_
 refine cl rfl rfl rfl (k_Len32 hn) rfl (fun v H1 L1 hle hR => ?_)
 obtain ⟨rfl, rfl, rfl⟩ := hR
 obtain ⟨hb1, hb2⟩ := uvT_bitLen hn
 refine cv Tryz.runUnderlying3 Tryz.runUnderlying5 rfl ((wrap8 _).trans (byte_small (show Lib.bitLen n < 256 by omega))) rfl ?_
 refine ixs (j := Lib.bitLen n) (b := UInt8.ofNat (uvT (Lib.bitLen n))) Tryz.underlying9 rfl rfl rfl ?_ rfl ?_
 · revert hb1; generalize Lib.bitLen n = b; revert b; decide +kernel
 rw [hb2]
 refine cv Tryz.runUnderlying5 Tryz.runUnderlying3 rfl (w64 (by omega) (by have := UInt8.toNat_lt (UInt8.ofNat (uvl n)); omega)) rfl ?_
 refine asg rfl rfl ?_
 refine nl ?_
 exact rT rfl rfl ler (fun _ _ h => h) ⟨rfl, rfl, by have := uvl_le n; simp; omega⟩
theorem k_AppendUvarint {H : Fz} {L : Own} {a : Option Addr} {cap : Nat} {X : List UInt8} {N : Chunk} {n : Nat} (hn : n < 4294967296) (hr : Row 5 1 a X.length cap (bytesOf X) N) (hb : X.length + (uvar n).length ≤ 4294967295) :
  Fn Tryz.prog 43 [.slice a X.length cap, .int .u32 (n : Int)] H (N :: L) (OutK L (X ++ uvar n) H) := by
 have hl := uvar_length hn
 refine Fn.mk Tryz.call43 Tryz.func43 rfl Tryz.ntmps43 rfl ?_
 refine sr ?_
 refine asg rfl rfl ?_
 refine nl ?_
 refine sq ?_
 refine sr ?_
 refine mv rfl rfl ?_
 refine cl rfl rfl rfl (k_UvarintLen hn) rfl (fun v H1 L1 hle hR => ?_)
 obtain ⟨rfl, rfl, rfl⟩ := hR
 refine nl ?_
 refine bl ?_
 refine sr ?_
 refine eq' rfl rfl rfl ?_
 refine asg rfl rfl ?_
 refine nl ?_
 refine cdU rfl (fun h7 => ?_) (fun h7 => ?_)
 ·
  have e := uvar5 (uvl_5 h7) hn
  refine sr ?_
  refine mv rfl rfl ?_
  refine mv rfl rfl ?_
  refine an rfl rfl (and127_u32 _) rfl ?_
  refine or' rfl rfl (or128_u32 (Nat.mod_lt _ (by omega))) rfl ?_
  refine cv Tryz.runUnderlying62 Tryz.runUnderlying5 rfl (wrap8 _) rfl ?_
  refine mv rfl rfl ?_
  refine sh rfl rfl (by decide) (shrN (q := 128) rfl) rfl ?_
  refine an rfl rfl (and127_u32 _) rfl ?_
  refine or' rfl rfl (or128_u32 (Nat.mod_lt _ (by omega))) rfl ?_
  refine cv Tryz.runUnderlying62 Tryz.runUnderlying5 rfl (wrap8 _) rfl ?_
  refine mv rfl rfl ?_
  refine sh rfl rfl (by decide) (shrN (q := 16384) rfl) rfl ?_
  refine an rfl rfl (and127_u32 _) rfl ?_
  refine or' rfl rfl (or128_u32 (Nat.mod_lt _ (by omega))) rfl ?_
  refine cv Tryz.runUnderlying62 Tryz.runUnderlying5 rfl (wrap8 _) rfl ?_
  refine mv rfl rfl ?_
  refine sh rfl rfl (by decide) (shrN (q := 2097152) rfl) rfl ?_
  refine an rfl rfl (and127_u32 _) rfl ?_
  refine or' rfl rfl (or128_u32 (Nat.mod_lt _ (by omega))) rfl ?_
  refine cv Tryz.runUnderlying62 Tryz.runUnderlying5 rfl (wrap8 _) rfl ?_
  refine mv rfl rfl ?_
  refine sh rfl rfl (by decide) (shrN (q := 268435456) rfl) rfl ?_
  refine cv Tryz.runUnderlying62 Tryz.runUnderlying5 rfl (wrap8 _) rfl ?_
  refine bs' L22 rfl rfl rfl rfl (fun b_1 => ?_)
  refine ap (news := bytesOf ([byte ((n % 128 + 128 : Nat) : Int), byte ((n / 128 % 128 + 128 : Nat) : Int), byte ((n / 16384 % 128 + 128 : Nat) : Int), byte ((n / 2097152 % 128 + 128 : Nat) : Int), byte ((n / 268435456 : Nat) : Int)])) Tryz.underlying22 I5 rfl rfl hr (fun _ => (.tail .head)) (src_says Tryz.underlying22 rfl (fun _ => Says.own .head) (bytesOf_one _)) (by rw [e] at hb; simp only [List.length_cons, List.length_nil] at hb; omega) (by rw [e] at hb; simp only [List.length_cons, List.length_nil] at hb; unfold maxLen; omega) rfl (fun a33 c33 N33 r33 z33 => ?_)
  rw [← bytesOf_append, ← e] at r33
  refine asg rfl rfl ?_
  refine nl ?_
  refine drW .head ?_
  exact rT rfl rfl ler (fun _ _ h => h) ⟨rfl, OutB.of r33 rfl⟩
 ·
  refine sr ?_
  refine eq' rfl rfl rfl ?_
  refine asg rfl rfl ?_
  refine nl ?_
  refine cdU rfl (fun h34 => ?_) (fun h34 => ?_)
  ·
   have e := uvar4 (uvl_4 h34).1 (uvl_4 h34).2
   refine sr ?_
   refine mv rfl rfl ?_
   refine mv rfl rfl ?_
   refine an rfl rfl (and127_u32 _) rfl ?_
   refine or' rfl rfl (or128_u32 (Nat.mod_lt _ (by omega))) rfl ?_
   refine cv Tryz.runUnderlying62 Tryz.runUnderlying5 rfl (wrap8 _) rfl ?_
   refine mv rfl rfl ?_
   refine sh rfl rfl (by decide) (shrN (q := 128) rfl) rfl ?_
   refine an rfl rfl (and127_u32 _) rfl ?_
   refine or' rfl rfl (or128_u32 (Nat.mod_lt _ (by omega))) rfl ?_
   refine cv Tryz.runUnderlying62 Tryz.runUnderlying5 rfl (wrap8 _) rfl ?_
   refine mv rfl rfl ?_
   refine sh rfl rfl (by decide) (shrN (q := 16384) rfl) rfl ?_
   refine an rfl rfl (and127_u32 _) rfl ?_
   refine or' rfl rfl (or128_u32 (Nat.mod_lt _ (by omega))) rfl ?_
   refine cv Tryz.runUnderlying62 Tryz.runUnderlying5 rfl (wrap8 _) rfl ?_
   refine mv rfl rfl ?_
   refine sh rfl rfl (by decide) (shrN (q := 2097152) rfl) rfl ?_
   refine cv Tryz.runUnderlying62 Tryz.runUnderlying5 rfl (wrap8 _) rfl ?_
   refine bs' L22 rfl rfl rfl rfl (fun b_2 => ?_)
   refine ap (news := bytesOf ([byte ((n % 128 + 128 : Nat) : Int), byte ((n / 128 % 128 + 128 : Nat) : Int), byte ((n / 16384 % 128 + 128 : Nat) : Int), byte ((n / 2097152 : Nat) : Int)])) Tryz.underlying22 I5 rfl rfl hr (fun _ => (.tail .head)) (src_says Tryz.underlying22 rfl (fun _ => Says.own .head) (bytesOf_one _)) (by rw [e] at hb; simp only [List.length_cons, List.length_nil] at hb; omega) (by rw [e] at hb; simp only [List.length_cons, List.length_nil] at hb; unfold maxLen; omega) rfl (fun a55 c55 N55 r55 z55 => ?_)
   rw [← bytesOf_append, ← e] at r55
   refine asg rfl rfl ?_
   refine nl ?_
   refine drW .head ?_
   exact rT rfl rfl ler (fun _ _ h => h) ⟨rfl, OutB.of r55 rfl⟩
  ·
   refine sr ?_
   refine eq' rfl rfl rfl ?_
   refine asg rfl rfl ?_
   refine nl ?_
   refine cdU rfl (fun h56 => ?_) (fun h56 => ?_)
   ·
    have e := uvar3 (uvl_3 h56).1 (uvl_3 h56).2
    refine sr ?_
    refine mv rfl rfl ?_
    refine mv rfl rfl ?_
    refine an rfl rfl (and127_u32 _) rfl ?_
    refine or' rfl rfl (or128_u32 (Nat.mod_lt _ (by omega))) rfl ?_
    refine cv Tryz.runUnderlying62 Tryz.runUnderlying5 rfl (wrap8 _) rfl ?_
    refine mv rfl rfl ?_
    refine sh rfl rfl (by decide) (shrN (q := 128) rfl) rfl ?_
    refine an rfl rfl (and127_u32 _) rfl ?_
    refine or' rfl rfl (or128_u32 (Nat.mod_lt _ (by omega))) rfl ?_
    refine cv Tryz.runUnderlying62 Tryz.runUnderlying5 rfl (wrap8 _) rfl ?_
    refine mv rfl rfl ?_
    refine sh rfl rfl (by decide) (shrN (q := 16384) rfl) rfl ?_
    refine cv Tryz.runUnderlying62 Tryz.runUnderlying5 rfl (wrap8 _) rfl ?_
    refine bs' L22 rfl rfl rfl rfl (fun b_3 => ?_)
    refine ap (news := bytesOf ([byte ((n % 128 + 128 : Nat) : Int), byte ((n / 128 % 128 + 128 : Nat) : Int), byte ((n / 16384 : Nat) : Int)])) Tryz.underlying22 I5 rfl rfl hr (fun _ => (.tail .head)) (src_says Tryz.underlying22 rfl (fun _ => Says.own .head) (bytesOf_one _)) (by rw [e] at hb; simp only [List.length_cons, List.length_nil] at hb; omega) (by rw [e] at hb; simp only [List.length_cons, List.length_nil] at hb; unfold maxLen; omega) rfl (fun a72 c72 N72 r72 z72 => ?_)
    rw [← bytesOf_append, ← e] at r72
    refine asg rfl rfl ?_
    refine nl ?_
    refine drW .head ?_
    exact rT rfl rfl ler (fun _ _ h => h) ⟨rfl, OutB.of r72 rfl⟩
   ·
    refine sr ?_
    refine eq' rfl rfl rfl ?_
    refine asg rfl rfl ?_
    refine nl ?_
    refine cdU rfl (fun h73 => ?_) (fun h73 => ?_)
    ·
     have e := uvar2 (uvl_2 h73).1 (uvl_2 h73).2
     refine sr ?_
     refine mv rfl rfl ?_
     refine mv rfl rfl ?_
     refine an rfl rfl (and127_u32 _) rfl ?_
     refine or' rfl rfl (or128_u32 (Nat.mod_lt _ (by omega))) rfl ?_
     refine cv Tryz.runUnderlying62 Tryz.runUnderlying5 rfl (wrap8 _) rfl ?_
     refine mv rfl rfl ?_
     refine sh rfl rfl (by decide) (shrN (q := 128) rfl) rfl ?_
     refine cv Tryz.runUnderlying62 Tryz.runUnderlying5 rfl (wrap8 _) rfl ?_
     refine bs' L22 rfl rfl rfl rfl (fun b_4 => ?_)
     refine ap (news := bytesOf ([byte ((n % 128 + 128 : Nat) : Int), byte ((n / 128 : Nat) : Int)])) Tryz.underlying22 I5 rfl rfl hr (fun _ => (.tail .head)) (src_says Tryz.underlying22 rfl (fun _ => Says.own .head) (bytesOf_one _)) (by rw [e] at hb; simp only [List.length_cons, List.length_nil] at hb; omega) (by rw [e] at hb; simp only [List.length_cons, List.length_nil] at hb; unfold maxLen; omega) rfl (fun a84 c84 N84 r84 z84 => ?_)
     rw [← bytesOf_append, ← e] at r84
     refine asg rfl rfl ?_
     refine nl ?_
     refine drW .head ?_
     exact rT rfl rfl ler (fun _ _ h => h) ⟨rfl, OutB.of r84 rfl⟩
    ·
     refine sr ?_
     refine eq' rfl rfl rfl ?_
     refine asg rfl rfl ?_
     refine nl ?_
     refine cdU rfl (fun h85 => ?_) (fun h85 => ?_)
     ·
      have e := uvar1 (uvl_1 h85)
      refine sr ?_
      refine mv rfl rfl ?_
      refine mv rfl rfl ?_
      refine cv Tryz.runUnderlying62 Tryz.runUnderlying5 rfl (wrap8 _) rfl ?_
      refine bs' L22 rfl rfl rfl rfl (fun b_5 => ?_)
      refine ap (news := bytesOf ([byte ((n : Nat) : Int)])) Tryz.underlying22 I5 rfl rfl hr (fun _ => (.tail .head)) (src_says Tryz.underlying22 rfl (fun _ => Says.own .head) (bytesOf_one _)) (by rw [e] at hb; simp only [List.length_cons, List.length_nil] at hb; omega) (by rw [e] at hb; simp only [List.length_cons, List.length_nil] at hb; unfold maxLen; omega) rfl (fun a91 c91 N91 r91 z91 => ?_)
      rw [← bytesOf_append, ← e] at r91
      refine asg rfl rfl ?_
      refine nl ?_
      refine drW .head ?_
      exact rT rfl rfl ler (fun _ _ h => h) ⟨rfl, OutB.of r91 rfl⟩
     ·
      exfalso; have := uvl_le n; have := uvl_pos n; omega
theorem t_each {H : Fz} {L : Own} {b o j : Nat} {cs : List Value} {m : Option Nat} {kvs : List KV} {lf : Nat} {fi cp : Array Value} {I : Nat → Fz → Chunk → Prop} {X0 : Chunk}
  (hb : H.at b o cs) (hj : nth cs j = some (.map m)) (hm : MapF H m kvs) (hl : kvs.length ≤ 1000000000000) (hIm : ∀ i H1 H2 X, H1.le H2 → I i H1 X → I i H2 X) (hI0 : I 0 H X0)
  (hstep : ∀ i k v (H1 : Fz) (X : Chunk) (L1 : Own), (sortKv kvs)[i]? = some (k, v) → H.le H1 → I i H1 X → Fn Tryz.prog lf (fi.toList ++ [.int .u32 k, v] ++ cp.toList) H1 (X :: L1) (fun _ H' L' => ∃ X', L' = X' :: L1 ∧ I (i + 1) H' X')) :
  Fn Tryz.prog 77 [.pointer (some ⟨b, o + j, none⟩), .func (.func lf) fi cp] H (X0 :: L) (fun _ H' L' => ∃ X', L' = X' :: L ∧ I kvs.length H' X') := by
 refine Fn.mk Tryz.call77 Tryz.func77 rfl Tryz.ntmps77 rfl ?_
 refine sq ?_
 refine sr ?_
 refine mv rfl rfl ?_
 refine nc rfl rfl ?_
 refine fa F56_0 rfl rfl ?_
 refine ld (Says.fz hb) Tryz.isAgg54 rfl rfl hj rfl ?_
 refine lmn Tryz.underlying54 rfl hm rfl ?_
 refine eq' rfl rfl rfl ?_
 refine nl ?_
 refine cd rfl (fun h13 => ?_) (fun h13 => ?_)
 ·
  have e0 : kvs.length = 0 := by omega
  exact r0 rfl ler (fun _ _ h => h) ⟨X0, rfl, by rw [e0]; exact hI0⟩
 ·
  obtain ⟨rfl, rfl⟩ | ⟨g, rfl, hg⟩ := hm
  · exact absurd rfl h13
  have hm : MapF H (some g) kvs := .inr ⟨g, rfl, hg⟩
  refine skt ?_
  refine sr ?_
  refine mv rfl rfl ?_
  refine nc rfl rfl ?_
  refine fa F56_0 rfl rfl ?_
  refine ld (Says.fz hb) Tryz.isAgg54 rfl rfl hj rfl ?_
  refine lmn Tryz.underlying54 rfl hm rfl ?_
  refine mks (m := 0) (c := kvs.length) (zs := [.int .u32 0]) Tryz.underlying105 I62 rfl rfl rfl rfl rfl (by omega) (by omega) (by unfold maxLen; omega) rfl (fun b19 N19 r19 => ?_)
  refine al Tryz.zeroValue105 rfl rfl (fun b_1 => ?_)
  refine st Tryz.sizeOf105 rfl rfl rfl rfl .head ?_
  refine nl ?_
  refine sq ?_
  refine sr ?_
  refine mv rfl rfl ?_
  refine nc rfl rfl ?_
  refine fa F56_0 rfl rfl ?_
  refine ld (Says.fz hb) Tryz.isAgg54 rfl rfl hj rfl ?_
  refine rgm Tryz.underlying54 rfl hg rfl (fun it => ?_)
  refine nl ?_
  refine bl (lp kvs.length (fun k l' H' L' => ∃ (seen : Array Nat) (a : Option Addr) (c : Nat) (N : Chunk), [(0, .pointer (some ⟨b, o + j, none⟩)), (1, .func (.func lf) fi cp), (4, .pointer (some ⟨b_1, 0, none⟩)), (24, .pointer (some ⟨it, 0, none⟩))] = l' ∧ H = H' ∧ [(it, .mapIter (some g) kvs.length seen kvs.length)] :: [(b_1, .cells [.slice a k c].toArray 105 (0, 0))] :: N :: X0 :: L = L' ∧ Row 62 1 a k c (u32s (seen.toList.map fun i => ((keysOf kvs)[i]?).getD 0)) N ∧ seen.toList.Nodup ∧ (∀ x ∈ seen.toList, x < kvs.length) ∧ seen.size = k) [(0, .pointer (some ⟨b, o + j, none⟩)), (1, .func (.func lf) fi cp), (4, .pointer (some ⟨b_1, 0, none⟩)), (24, .pointer (some ⟨it, 0, none⟩))] (.of ⟨rfl, rfl, rfl, rfl, trivial⟩) ⟨#[], _, _, _, rfl, rfl, rfl, r19, List.nodup_nil, (fun x hx => by simp at hx), rfl⟩ (fun k l' H' L' hk le0 hI => ?_))
  obtain ⟨seen, a, c, N, rfl, rfl, rfl, hr, hnd, hlt, hsz⟩ := hI
  refine sr ?_
  refine nxt rfl hg (fun i => .head) rfl (fun hall => ?_) (fun i key v hi hns => ?_)
  ·
   have hp : seen.toList.Perm (List.range kvs.length) := perm_range hnd hlt (fun i hi => by simpa using hall i hi)
   obtain rfl : k = kvs.length := by have := hp.length_eq; simp at this; omega
   refine extr rfl rfl rfl ?_
   refine nl ?_
   refine sq ?_
   refine cF rfl ?_
   refine exX ?_
   refine XT ?_
   refine XT ?_
   refine Xb ?_
   refine Nt ?_
   refine sr ?_
   refine ld (Says.own (.tail .head)) Tryz.isAgg105 rfl (Nat.zero_add _).symm rfl rfl ?_
   refine mki Tryz.underlying105 rfl rfl ?_
   refine mkf rfl rfl ?_
   refine drL .head ?_
   refine tf (.tail .head) ?_
   refine cl rfl rfl rfl (k_sort hr (by omega)) rfl (fun v H1 L1 hle1 hR => ?_)
   obtain ⟨rfl, N2, rfl, hr2⟩ := hR
   rw [srt_of_seen hp] at hr2
   refine frL hr2 .head (fun H2 hle2 hz => ?_)
   obtain ⟨_, hz0, _⟩ | ⟨g2, rfl, hz⟩ := hz
   · exact absurd (by omega) h13
   refine nl ?_
   refine sr ?_
   refine ld (Says.own .head) Tryz.isAgg105 rfl (Nat.zero_add _).symm rfl rfl ?_
   refine ls Tryz.runUnderlying105 rfl rfl ?_
   refine mv rfl rfl ?_
   refine nl ?_
   refine fr kvs.length (fun k l' H' L' => ∃ X : Chunk, [(0, .pointer (some ⟨b, o + j, none⟩)), (1, .func (.func lf) fi cp), (37, .slice (some ⟨g2, 0, none⟩) kvs.length c), (38, .int .i64 (kvs.length : Int))] = l' ∧ [(b_1, .cells [.slice (some ⟨g2, 0, none⟩) kvs.length c].toArray 105 (0, 0))] :: X :: L = L' ∧ H2.le H' ∧ I k H' X) [(0, .pointer (some ⟨b, o + j, none⟩)), (1, .func (.func lf) fi cp), (37, .slice (some ⟨g2, 0, none⟩) kvs.length c), (38, .int .i64 (kvs.length : Int))] (fun k l' H' L' h => ?_) (by omega) rfl (.of ⟨rfl, rfl, rfl, rfl, trivial⟩) ⟨_, rfl, rfl, Fz.le.refl _, hIm _ _ _ _ hle2 hI0⟩ rfl rfl rfl rfl rfl (fun k l' H' L' hk le1 hI => ?_) (fun l' H' L' le2 hI => ?_)
   · obtain ⟨X, rfl, _⟩ := h; exact ⟨rfl, rfl, rfl, rfl⟩
   ·
    obtain ⟨X, rfl, rfl, le3, hI⟩ := hI
    obtain ⟨key, v, hS, hlk, hnt⟩ := sortKv_get hk
    refine sr ?_
    refine ix Tryz.runUnderlying105 Tryz.sizeOf62 rfl rfl rfl hk rfl ?_
    refine ld (Says.fz (hz.mono le3)) Tryz.isAgg62 rfl (by omega) hnt rfl ?_
    refine asg rfl rfl ?_
    refine nl ?_
    refine rg ?_
    refine mv rfl rfl ?_
    refine mv rfl rfl ?_
    refine mv rfl rfl ?_
    refine nc rfl rfl ?_
    refine fa F56_0 rfl rfl ?_
    refine ld (Says.fz (hb.mono (hle2.trans le3))) Tryz.isAgg54 rfl rfl hj rfl ?_
    refine mv rfl rfl ?_
    refine lkp Tryz.underlying54 Tryz.underlying62 rfl rfl ((hle2.trans le3).blk _ _ hg) hlk rfl ?_
    refine tf (.tail .head) ?_
    refine cl rfl rfl rfl (hstep k key v _ X _ hS (hle2.trans le3) hI) rfl (fun v_ H3 L3 hle3 hR => ?_)
    obtain ⟨X', rfl, hI'⟩ := hR
    refine nN ?_
    refine Nb ?_
    refine tfN (.tail .head) ?_
    refine fun a w hA hw => ⟨_, _, _, hA.sub ?_, le3.trans hle3, hw, _, rfl, X', rfl, rfl, le3.trans hle3, hI'⟩
    exact (.of ⟨rfl, rfl, rfl, rfl, rfl, trivial⟩)
   ·
    obtain ⟨X, rfl, rfl, le3, hI⟩ := hI
    refine toNn ?_
    refine drN .head ?_
    exact fun _ _ hA hw => rn rfl (hle2.trans le3) ⟨X, rfl, hI⟩ hA hw
  ·
   have hks2 : (seen.push i).toList.map (fun i => ((keysOf kvs)[i]?).getD 0) = (seen.toList.map fun i => ((keysOf kvs)[i]?).getD 0) ++ [key] := by simp [keysOf_get hi]
   have hnd2 : (seen.push i).toList.Nodup := by rw [Array.toList_push, List.nodup_append]; exact ⟨hnd, by simp, fun x hx y hy => by simp at hy; subst hy; rintro rfl; exact hns (by simpa using hx)⟩
   have hlt2 : ∀ x ∈ (seen.push i).toList, x < kvs.length := by intro x hx; rw [Array.toList_push, List.mem_append] at hx; rcases hx with hx | hx; exact hlt x hx; simp at hx; subst hx; exact lt_of_get hi
   refine extr rfl rfl rfl ?_
   refine nl ?_
   refine sq ?_
   refine cT rfl ?_
   refine skt ?_
   refine bl ?_
   refine sr ?_
   refine ent rfl hg .head hi rfl ?_
   refine extr rfl rfl rfl ?_
   refine asg rfl rfl ?_
   refine nl ?_
   refine rg ?_
   refine ld (Says.own (.tail .head)) Tryz.isAgg105 rfl (Nat.zero_add _).symm rfl rfl ?_
   refine mv rfl rfl ?_
   refine bs' L105 rfl rfl rfl rfl (fun b_2 => ?_)
   have hkl : k < kvs.length := by have := nodup_bound kvs.length (seen.push i).toList hnd2 hlt2; simp at this; omega
   refine ap (news := [.int .u32 key]) Tryz.underlying105 I62 rfl rfl hr (fun _ => (.tail (.tail (.tail .head)))) (src_says Tryz.underlying105 rfl (fun _ => Says.own .head) (by intro u hu; simp at hu; subst hu; rfl)) (by omega) (by unfold maxLen; omega) rfl (fun a32 c32 N32 r32 z32 => ?_)
   rw [u32s_snoc] at r32
   refine st Tryz.sizeOf105 rfl rfl rfl rfl (.tail (.tail .head)) ?_
   refine nN ?_
   refine Nb ?_
   refine drN .head ?_
   refine fun a w hA hw => ⟨by have := nodup_bound kvs.length (seen.push i).toList hnd2 hlt2; simp at this; omega, _, _, _, hA.sub ?_, Fz.le.refl _, hw, seen.push i, _, _, _, rfl, rfl, rfl, by rw [hks2]; exact r32, hnd2, hlt2, by simp [hsz]⟩
   exact (.of ⟨rfl, rfl, rfl, rfl, trivial⟩)
theorem t_ae1 {H : Fz} {L : Own} {bx : Nat} {a va : Option Addr} {cap vc : Nat} {X s : List UInt8} {N : Chunk} {k : Nat} (hk : k < 4294967296) (hx : BytesAt H va vc s) (hr : Row 5 1 a X.length cap (bytesOf X) N) (hs : s.length < 4294967296) (hb : X.length + (tagU ((k : Int), s)).length ≤ 4294967295) :
  Fn Tryz.prog 78 [.int .u32 (k : Int), .slice va s.length vc, .pointer (some ⟨bx, 0, none⟩)] H ([(bx, .cells [.slice a X.length cap].toArray 22 (0, 0))] :: N :: L)
   (fun _ H' L' => H = H' ∧ ∃ a' cap' N', L' = [(bx, .cells [.slice a' (X ++ tagU ((k : Int), s)).length cap'].toArray 22 (0, 0))] :: N' :: L ∧ Row 5 1 a' (X ++ tagU ((k : Int), s)).length cap' (bytesOf (X ++ tagU ((k : Int), s))) N') := by
 have e0 : X ++ tagU ((k : Int), s) = X ++ uvar k ++ uvar s.length ++ s := by simp [tagU]
 rw [e0]
 simp only [tagU, List.length_append, Int.toNat_natCast] at hb
 refine Fn.mk Tryz.call78 Tryz.func78 rfl Tryz.ntmps78 rfl ?_
 refine sr ?_
 refine ld (Says.own .head) Tryz.isAgg22 rfl (Nat.zero_add _).symm rfl rfl ?_
 refine mv rfl rfl ?_
 refine tf (.tail .head) ?_
 refine cl rfl rfl rfl (k_AppendUvarint (n := k) hk hr (by first | omega | (simp only [List.length_append]; omega))) rfl (fun v H1 L1 hle hR => ?_)
 obtain ⟨rfl, a7, c7, N7, rfl, rfl, h7⟩ := hR
 refine st Tryz.sizeOf22 rfl rfl rfl rfl (.tail .head) ?_
 refine nl ?_
 refine sr ?_
 refine ld (Says.own (.tail .head)) Tryz.isAgg22 rfl (Nat.zero_add _).symm rfl rfl ?_
 refine mv rfl rfl ?_
 refine ls Tryz.runUnderlying22 rfl rfl ?_
 refine cv Tryz.runUnderlying3 Tryz.runUnderlying62 rfl (w32u (by omega) (by omega)) rfl ?_
 refine cl rfl rfl rfl (k_AppendUvarint (n := s.length) hs h7.1 (by first | omega | (simp only [List.length_append]; omega))) rfl (fun v H1 L1 hle hR => ?_)
 obtain ⟨rfl, a12, c12, N12, rfl, rfl, h12⟩ := hR
 refine st Tryz.sizeOf22 rfl rfl rfl rfl (.tail .head) ?_
 refine nl ?_
 refine rg ?_
 refine ld (Says.own (.tail .head)) Tryz.isAgg22 rfl (Nat.zero_add _).symm rfl rfl ?_
 refine mv rfl rfl ?_
 refine ap (news := bytesOf s) Tryz.underlying22 I5 rfl rfl h12.1 (fun _ => .head) (src_bytes Tryz.underlying22 hx rfl) (by simp only [List.length_append]; omega) (by simp only [List.length_append]; unfold maxLen; omega) rfl (fun a15 c15 N15 r15 z15 => ?_)
 rw [← bytesOf_append, ← List.length_append] at r15
 refine st Tryz.sizeOf22 rfl rfl rfl rfl (.tail .head) ?_
 refine nN ?_
 refine tfN (.tail .head) ?_
 exact fun _ _ hA hw => rn rfl ler ⟨rfl, a15, c15, N15, by rw [List.length_append (bs := s)], by rw [List.length_append (bs := s)]; rw [List.length_append (bs := s)] at r15; exact r15⟩ hA hw
theorem t_append_each {H : Fz} {L : Own} {b o j : Nat} {cs : List Value} {m : Option Nat} {us : List (Int × List UInt8)} {a : Option Addr} {cap : Nat} {X : List UInt8} {N : Chunk} (hb : H.at b o cs) (hj : nth cs j = some (.map m)) (hm : KvAt H m us) (hl : us.length ≤ 1000000) (hr : Row 5 1 a X.length cap (bytesOf X) N)
  (hs : ∀ p ∈ us, p.2.length < 4294967296) (hX : X.length + (us.flatMap tagU).length ≤ 4294967295) :
  Fn Tryz.prog 45 [.pointer (some ⟨b, o + j, none⟩), .slice a X.length cap] H (N :: L) (fun v H' L' => OutB 5 L (X ++ us.flatMap tagU) v L') := by
 obtain ⟨kvs, hM, hlen, hel⟩ := hm
 refine Fn.mk Tryz.call45 Tryz.func45 rfl Tryz.ntmps45 rfl ?_
 refine sr ?_
 refine bx rfl rfl rfl (fun b1 => ?_)
 refine asg rfl rfl ?_
 refine nl ?_
 refine sr ?_
 refine mv rfl rfl ?_
 refine mkf rfl rfl ?_
 refine mrgL ?_
 refine cl rfl rfl rfl (t_each (I := fun i H1 Y => ∃ a cap N, Y = [(b1, .cells [.slice a (X ++ (us.take i).flatMap tagU).length cap].toArray 22 (0, 0))] ++ N ∧ Row 5 1 a (X ++ (us.take i).flatMap tagU).length cap (bytesOf (X ++ (us.take i).flatMap tagU)) N) hb hj hM (by omega) (fun i H1 H2 Y _ h => h) ⟨a, cap, N, by simp, by simpa using hr⟩ ?_) rfl (fun v H1 L1 hle hR => ?_)
 ·
  intro i k v H1 Y L1 hi hle ⟨a, cap, N, hY, hr⟩
  subst hY
  obtain ⟨s, h1, ⟨va, vc, rfl, hx⟩, h2, h3⟩ := hel i k v hi
  obtain ⟨n, rfl⟩ : ∃ n : Nat, k = n := ⟨k.toNat, by omega⟩
  have hm1 := List.mem_of_getElem? h1
  have hsz := flatU_le h1
  refine Fn.flat (t_ae1 (L := L1) (bx := b1) (k := n) (by omega) (hx.mono hle) hr (hs _ hm1) (by rw [List.length_append]; omega)) (by simp) ?_
  rintro v H' L' ⟨rfl, a', cap', N', rfl, hr'⟩
  refine ⟨([(b1, .cells [.slice a' (X ++ (us.take i).flatMap tagU ++ tagU ((n : Int), s)).length cap'].toArray 22 (0, 0))] ++ N') :: L1, by simp, _, rfl, a', cap', N', ?_, ?_⟩
  · rw [flatU_take h1, List.append_assoc]
  · rw [flatU_take h1, ← List.append_assoc]; exact hr'
 ·
  obtain ⟨_, rfl, a1, c1, N1, rfl, hr1⟩ := hR
  rw [hlen, List.take_length] at hr1 ⊢
  refine splL ?_
  refine nl ?_
  refine sr ?_
  refine ld (Says.own .head) Tryz.isAgg22 rfl (Nat.zero_add _).symm rfl rfl ?_
  refine asg rfl rfl ?_
  refine nl ?_
  refine drW .head ?_
  exact rT rfl rfl hle (fun _ _ h => h) (OutB.of hr1 rfl)
end Go.Sx
