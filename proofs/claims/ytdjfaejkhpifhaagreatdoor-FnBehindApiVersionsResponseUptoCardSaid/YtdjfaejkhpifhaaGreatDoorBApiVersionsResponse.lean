import Derived.Test.YtdjfaejkhpifhaaGreatDoorSxTab
import Derived.Test.YtdjfaejkhpifhaaGreatDoorAApiVersionsResponse
import Derived.KernelRfl
set_option linter.unusedVariables false
set_option linter.unusedSimpArgs false
set_option maxRecDepth 100000
set_option maxHeartbeats 20000000
namespace Go.Sx
open Go.Proofs
def At_ApiVersionsResponseApiKey (H : Fz) (T : Tr) (cs : List Value) : Prop := ∃ (mt : Option Nat), cs = [.int .i16 (IntKind.i16.wrap (T.at 0).n), .int .i16 (IntKind.i16.wrap (T.at 1).n), .int .i16 (IntKind.i16.wrap (T.at 2).n), .map mt] ∧ KvAt H mt T.u
theorem At_ApiVersionsResponseApiKey.ok {H : Fz} {T : Tr} {cs : List Value} (h : At_ApiVersionsResponseApiKey H T cs) : cs.length = 4 ∧ ∀ u ∈ cs, u.oneCell' = true := by
 obtain ⟨mt, rfl, h1⟩ := h
 refine ⟨rfl, ?_⟩
 intro u hu
 simp only [List.mem_cons, List.not_mem_nil, or_false] at hu
 rcases hu with rfl | rfl | rfl | rfl <;> rfl
theorem At_ApiVersionsResponseApiKey.mono : RMono (At_ApiVersionsResponseApiKey) := by
 intro H H' T cs hle h
 obtain ⟨mt, rfl, h1⟩ := h
 exact ⟨mt, rfl, h1.mono hle⟩
def At_ApiVersionsResponseSupportedFeature (H : Fz) (T : Tr) (cs : List Value) : Prop := ∃ (mt : Option Nat), cs = [.string ⟨(T.at 0).s.toArray⟩, .int .i16 (IntKind.i16.wrap (T.at 1).n), .int .i16 (IntKind.i16.wrap (T.at 2).n), .map mt] ∧ KvAt H mt T.u
theorem At_ApiVersionsResponseSupportedFeature.ok {H : Fz} {T : Tr} {cs : List Value} (h : At_ApiVersionsResponseSupportedFeature H T cs) : cs.length = 4 ∧ ∀ u ∈ cs, u.oneCell' = true := by
 obtain ⟨mt, rfl, h1⟩ := h
 refine ⟨rfl, ?_⟩
 intro u hu
 simp only [List.mem_cons, List.not_mem_nil, or_false] at hu
 rcases hu with rfl | rfl | rfl | rfl <;> rfl
theorem At_ApiVersionsResponseSupportedFeature.mono : RMono (At_ApiVersionsResponseSupportedFeature) := by
 intro H H' T cs hle h
 obtain ⟨mt, rfl, h1⟩ := h
 exact ⟨mt, rfl, h1.mono hle⟩
def At_ApiVersionsResponseFinalizedFeature (H : Fz) (T : Tr) (cs : List Value) : Prop := ∃ (mt : Option Nat), cs = [.string ⟨(T.at 0).s.toArray⟩, .int .i16 (IntKind.i16.wrap (T.at 1).n), .int .i16 (IntKind.i16.wrap (T.at 2).n), .map mt] ∧ KvAt H mt T.u
theorem At_ApiVersionsResponseFinalizedFeature.ok {H : Fz} {T : Tr} {cs : List Value} (h : At_ApiVersionsResponseFinalizedFeature H T cs) : cs.length = 4 ∧ ∀ u ∈ cs, u.oneCell' = true := by
 obtain ⟨mt, rfl, h1⟩ := h
 refine ⟨rfl, ?_⟩
 intro u hu
 simp only [List.mem_cons, List.not_mem_nil, or_false] at hu
 rcases hu with rfl | rfl | rfl | rfl <;> rfl
theorem At_ApiVersionsResponseFinalizedFeature.mono : RMono (At_ApiVersionsResponseFinalizedFeature) := by
 intro H H' T cs hle h
 obtain ⟨mt, rfl, h1⟩ := h
 exact ⟨mt, rfl, h1.mono hle⟩
def At_ApiVersionsResponse (ver : Int) (H : Fz) (T : Tr) (cs : List Value) : Prop := ∃ (a1 : Option Addr) (c1 : Nat) (a3 : Option Addr) (c3 : Nat) (a5 : Option Addr) (c5 : Nat) (mt : Option Nat), cs = [.int .i16 ver, .int .i16 (IntKind.i16.wrap (T.at 0).n), .slice a1 (lT (T.at 1)).length c1, .int .i32 (IntKind.i32.wrap (T.at 2).n), .slice a3 (lT (T.at 3)).length c3, .int .i64 (T.at 4).n, .slice a5 (lT (T.at 5)).length c5, .bool (decide ((T.at 6).n % 2 = 1)), .map mt] ∧ ListAt H (T.at 1) 4 At_ApiVersionsResponseApiKey a1 c1 ∧ ListAt H (T.at 3) 4 At_ApiVersionsResponseSupportedFeature a3 c3 ∧ ListAt H (T.at 5) 4 At_ApiVersionsResponseFinalizedFeature a5 c5 ∧ KvAt H mt T.u
theorem At_ApiVersionsResponse.ok {ver : Int} {H : Fz} {T : Tr} {cs : List Value} (h : At_ApiVersionsResponse ver H T cs) : cs.length = 9 ∧ ∀ u ∈ cs, u.oneCell' = true := by
 obtain ⟨a1, c1, a3, c3, a5, c5, mt, rfl, h1, h2, h3, h4⟩ := h
 refine ⟨rfl, ?_⟩
 intro u hu
 simp only [List.mem_cons, List.not_mem_nil, or_false] at hu
 rcases hu with rfl | rfl | rfl | rfl | rfl | rfl | rfl | rfl | rfl <;> rfl
theorem At_ApiVersionsResponse.mono (ver : Int) : RMono (At_ApiVersionsResponse ver) := by
 intro H H' T cs hle h
 obtain ⟨a1, c1, a3, c3, a5, c5, mt, rfl, h1, h2, h3, h4⟩ := h
 exact ⟨a1, c1, a3, c3, a5, c5, mt, rfl, h1.mono At_ApiVersionsResponseApiKey.mono hle, h2.mono At_ApiVersionsResponseSupportedFeature.mono hle, h3.mono At_ApiVersionsResponseFinalizedFeature.mono hle, h4.mono hle⟩
end Go.Sx
