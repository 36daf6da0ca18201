import Derived.Test.Qxb6000847aMl1
import Derived.Test.Qxb6000847aMl2
import Derived.Test.Qxb6000847aMl3
import Derived.Test.Qxb6000847aMl4
import Derived.Test.Qxb6000847aMl5
import Derived.Test.Qxb6000847aZwalk
namespace Go.Proofs.Qxb6000847a
open Go.RowKit
set_option linter.unusedSimpArgs false
set_option linter.unusedVariables false

set_option maxHeartbeats 8000000 in
set_option maxRecDepth 1000000 in
theorem masks_calls : SaidMasks := by
  intro bs n K C w hS hn hK hK0
  have hmk := run_make_k (P := Try.prog) 47 55 _ _ 10 80 Try.underlying47 info55 rfl .i64 .i64 ((n + 63) / 64) ((n + 63) / 64) (Nat.le_refl _) (by omega) (by omega)
  have e0 : (((n + 63) / 64 : Nat) : Int) = ((n : Int) + 63) / 64 := by omega
  rw [e0] at hmk
  have hbs := hS.lt
  go_enter Try.func19, Try.ntmps19
  go_wp2
  clear hmk
  refine mloop1 _ _ _ _ _ _ _ _ _ _ _ _ _ _ _ _ _ _ _ _ _ _ _ _ _ _ _ _ _ _ _ _ _ _ _ _ _ _ _ _ _ _ _ _ _ _ _ _ _ _ _ _ _ _ _ _ _ _ _ _ _ _ _ _ _ _ _ _ _ _ _ _ _ _ _ _ _ _ _ _ _ _ _ _ _ _ _ _ _ _ _ _ _ _ _ _ _ _ _ _ _ _ _ _ _ _ _ _ _ _ _ _ _ _ _ _ _ _ _ _ _ _ _ _ _ _ _ _ _ _ _ _ _ _ _ _ _ _ _ _ _ _ _ _ _ _ _ _ _ _ _ _ _ _ _ _ _ _ _ _ _ _ _ _ _ _ _ _ _ _ _ _ _ _ _ _ _ _ _ _ _ _ _ _ _ _ _ _ _ _ _ _ _ _ _ _ _ _ _ _ _ _ _ _ _ _ _ _ _ _ _ _ _ _ _ _ _ _ _ _ _ _ _ _ _ _ _ _ _ _ _ _ _ _ _ _ _ _ _ _ _ _ _ _ _ _ _ _ _ _ _ _ _ _ _ _ _ _ _ _ _ _ _ _ _ _ _ _ _ _ _ _ _ _ _ _ _ _ _ _ _ _ _ _ _ _ _ _ _ _ _ _ _ _ _ _ _ _ _ _ _ _ _ _ _ _ _ _ _ _ _ _ bs n K C w _ hS hn hbs (st_start w _) ?_
  intro u6 u32 u33 u34 u35 u36 u37 u38 u39 u40 u41 u42 u43 u44 u45 u46 wr hO
  have hcc := chList_le K C n
  have hsz := hO.size
  have hmk := run_make_k (P := Try.prog) 36 31 (.int .u64 0) _ 1 8 Try.underlying36 info31 rfl .i64 .i64 0 (chList K C n).length (Nat.zero_le _) (by omega) (by omega)
  simp only [Int.natCast_zero] at hmk
  go_wp2
  clear hmk
  refine mloop2 _ _ _ _ _ _ _ _ _ _ _ _ _ _ _ _ _ _ _ _ _ _ _ _ _ _ _ _ _ _ _ _ _ _ _ _ _ _ _ _ _ _ _ _ _ _ _ _ _ _ _ _ _ _ _ _ _ _ _ _ _ _ _ _ _ _ _ _ _ _ _ _ _ _ _ _ _ _ _ _ _ _ _ _ _ _ _ _ _ _ _ _ _ _ _ _ _ _ _ _ _ _ _ _ _ _ _ _ _ _ _ _ _ _ _ _ _ _ _ _ _ _ _ _ _ _ _ _ _ _ _ _ _ _ _ _ _ _ _ _ _ _ _ _ _ _ _ _ _ _ _ _ _ _ _ _ _ _ _ _ _ _ _ _ _ _ _ _ _ _ _ _ _ _ _ _ _ _ _ _ _ _ _ _ _ _ _ _ _ _ _ _ _ _ _ _ _ _ _ _ _ _ _ _ _ _ _ _ _ _ _ _ _ _ _ _ _ _ _ _ _ _ _ _ _ _ _ _ _ _ _ _ _ _ _ _ _ _ _ _ _ _ _ _ _ _ _ _ _ _ _ _ _ _ _ _ _ _ _ _ _ _ _ _ _ _ _ _ _ _ _ _ _ _ _ _ _ _ _ _ _ _ _ _ _ _ _ _ _ _ _ _ _ _ _ _ _ _ _ _ _ _ _ _ _ _ _ _ _ _ _ bs n K C w _ hS hn hbs wr.heap.size hK hK0 (st2_start hO) ?_
  intro u8 u9 u10 u11 u51 u52 u53 u54 u55 u56 u57 u58 u59 u60 u61 u62 u63 u64 u65 u66 u67 u68 u69 u70 u71 u72 u73 u74 u75 u76 u77 u78 u79 u80 u81 u82 u83 u84 u85 u86 u87 u88 u89 u90 u91 u92 u93 u94 u95 u96 u97 u98 u99 u100 u101 u102 u103 u104 u105 u106 u107 u108 u109 u110 u111 u112 u113 u114 u115 u116 u117 u118 u119 u120 u121 u122 u123 u124 u125 u126 u127 u128 u129 u130 u131 u132 u133 u134 u135 u136 u137 u138 u139 u140 u141 u142 u143 u144 u145 u146 u147 u148 u149 u150 u151 u152 u153 u154 u155 u156 u157 u158 u159 u160 u161 u162 u163 u164 u165 u166 u167 u168 u169 wr2 hO2
  generalize wr.heap.size = CB at hO2 ⊢
  clear hO hsz
  have d0 : wr2.cell? ⟨w.heap.size + 1 + 1, 0, none⟩ = some (.slice (some ⟨w.heap.size + 1, 0, none⟩) ((n + 63) / 64) ((n + 63) / 64)) := hO2.st.m.cell' 0 0 rfl (by omega) (by omega)
  go_wp2
  clear d0
  refine mloop3 _ _ _ _ _ _ _ _ _ _ _ _ _ _ _ _ _ _ _ _ _ _ _ _ _ _ _ _ _ _ _ _ _ _ _ _ _ _ _ _ _ _ _ _ _ _ _ _ _ _ _ _ _ _ _ _ _ _ _ _ _ _ _ _ _ _ _ _ _ _ _ _ _ _ _ _ _ _ _ _ _ _ _ _ _ _ _ _ _ _ _ _ _ _ _ _ _ _ _ _ _ _ _ _ _ _ _ _ _ _ _ _ _ _ _ _ _ _ _ _ _ _ _ _ _ _ _ _ _ _ _ _ _ _ _ _ _ _ _ _ _ _ _ _ _ _ _ _ _ _ _ _ _ _ _ _ _ _ _ _ _ _ _ _ _ _ _ _ _ _ _ _ _ _ _ _ _ _ _ _ _ _ _ _ _ _ _ _ _ _ _ _ _ _ _ _ _ _ _ _ _ _ _ _ _ _ _ _ _ _ _ _ _ _ _ _ _ _ _ _ _ _ _ _ _ _ _ _ _ _ _ _ _ _ _ _ _ _ _ _ _ _ _ _ _ _ _ _ _ _ _ _ _ _ _ _ _ _ _ _ _ _ _ _ _ _ _ _ _ _ _ _ _ _ _ _ _ _ _ _ _ _ _ _ _ _ _ _ _ _ _ _ _ _ _ _ _ _ _ _ _ _ _ _ _ _ _ _ _ _ _ _ n K C w _ hn CB (st3_start hO2) ?_
  intro u12 u13 u14 u15 u173 u174 u175 u176 u177 u178 u179 u180 u181 u182 u183 u184 u185 u186 u187 u188 u189 u190 u191 u192 u193 u194 u195 u196 u197 u198 u199 u200 u201 u202 u203 u204 u205 u206 u207 u208 u209 u210 wr3 hO3
  clear hO2
  have hH : Sort.Holds (Value.int .u64) wr3 CB 0 (chList K C n).toArray := holds_of hO3.ch
  have hcb := hO3.ch.lt
  have hll : (chList K C n).length < 4611686018427387904 := by omega
  have hcall := so_Sort CB 0 (chList K C n).length (chList K C n) wr3 hH hcb hll
  clear hH
  go_wp2_with fail
  refine hcall.mono ?_
  rintro e w5 ⟨rfl, q, os, hw5⟩
  have hO4 := st4_of hO3 hw5
  have hL : (chList K C n).length = ((chList K C n).mergeSort fun x y => decide (x ≤ y)).length := (List.length_mergeSort _).symm
  clear hw5 hcall hO3 os q hcb hll
  have hmem : Hid (∀ x, x ∈ ((chList K C n).mergeSort fun x y => decide (x ≤ y)) → x ∈ chList K C n) := fun x hx => (List.mergeSort_perm _ _).mem_iff.1 hx
  rw [hL]
  rw [hL] at hcc
  clear hL
  generalize hl : ((chList K C n).mergeSort fun x y => decide (x ≤ y)) = l at hO4 hmem hcc ⊢
  have HL : Hid (((chList K C n).mergeSort fun x y => decide (x ≤ y)) = l) := hl
  clear hl
  go_wp2
  refine mloop4 _ _ _ _ _ _ _ _ _ _ _ _ _ _ _ _ _ _ _ _ _ _ _ _ _ _ _ _ _ _ _ _ _ _ _ _ _ _ _ _ _ _ _ _ _ _ _ _ _ _ _ _ _ _ _ _ _ _ _ _ _ _ _ _ _ _ _ _ _ _ _ _ _ _ _ _ _ _ _ _ _ _ _ _ _ _ _ _ _ _ _ _ _ _ _ _ _ _ _ _ _ _ _ _ _ _ _ _ _ _ _ _ _ _ _ _ _ _ _ _ _ _ _ _ _ _ _ _ _ _ _ _ _ _ _ _ _ _ _ _ _ _ _ _ _ _ _ _ _ _ _ _ _ _ _ _ _ _ _ _ _ _ _ _ _ _ _ _ _ _ _ _ _ _ _ _ _ _ _ _ _ _ _ _ _ _ _ _ _ _ _ _ _ _ _ _ _ _ _ _ _ _ _ _ _ _ _ _ _ _ _ _ _ _ _ _ _ _ _ _ _ _ _ _ _ _ _ _ _ _ _ _ _ _ _ _ _ _ _ _ _ _ _ _ _ _ _ _ _ _ _ _ _ _ _ _ _ _ _ _ _ _ _ _ _ _ _ _ _ _ _ _ _ _ _ _ _ _ _ _ _ _ _ _ _ _ _ _ _ _ _ _ _ _ _ _ _ _ _ _ _ _ _ _ _ _ _ _ _ _ _ _ n K C w _ hn CB l hmem hcc hO4 ?_
  intro u17 u18 u215 u216 u217 u218 u219 u220 u221 u222 u223 u224 u225 u226 u227 u228 u229 u230 u231 u232 u233 u234 u235 u236 u237 u238 u239 u240 u241 u242 u243 u244 u245 u246 u247 u248 wx hwx
  subst hwx
  have hsl := szOf_le l l.length
  have hmk := run_make_k (P := Try.prog) 57 61 _ _ 2 16 Try.underlying57 info61 rfl .i64 .i64 0 (szOf l l.length) (Nat.zero_le _) (by omega) (by omega)
  simp only [Int.natCast_zero] at hmk
  go_wp2
  clear hmk
  refine mloop5 _ _ _ _ _ _ _ _ _ _ _ _ _ _ _ _ _ _ _ _ _ _ _ _ _ _ _ _ _ _ _ _ _ _ _ _ _ _ _ _ _ _ _ _ _ _ _ _ _ _ _ _ _ _ _ _ _ _ _ _ _ _ _ _ _ _ _ _ _ _ _ _ _ _ _ _ _ _ _ _ _ _ _ _ _ _ _ _ _ _ _ _ _ _ _ _ _ _ _ _ _ _ _ _ _ _ _ _ _ _ _ _ _ _ _ _ _ _ _ _ _ _ _ _ _ _ _ _ _ _ _ _ _ _ _ _ _ _ _ _ _ _ _ _ _ _ _ _ _ _ _ _ _ _ _ _ _ _ _ _ _ _ _ _ _ _ _ _ _ _ _ _ _ _ _ _ _ _ _ _ _ _ _ _ _ _ _ _ _ _ _ _ _ _ _ _ _ _ _ _ _ _ _ _ _ _ _ _ _ _ _ _ _ _ _ _ _ _ _ _ _ _ _ _ _ _ _ _ _ _ _ _ _ _ _ _ _ _ _ _ _ _ _ _ _ _ _ _ _ _ _ _ _ _ _ _ _ _ _ _ _ _ _ _ _ _ _ _ _ _ _ _ _ _ _ _ _ _ _ _ _ _ _ _ _ _ _ _ _ _ _ _ _ _ _ _ _ _ _ _ _ _ _ _ _ _ _ _ _ _ _ _ _ n K C w _ hn CB w5.heap.size l hmem hcc (st5_start hO4) ?_
  intro u19 u20 u21 u22 u23 u251 u252 u253 u254 u255 u256 u257 u258 u259 u260 u261 u262 u263 u264 u265 u266 u267 u268 u269 u270 u271 u272 u273 u274 u275 u276 u277 u278 u279 u280 u281 u282 u283 u284 u285 u286 u287 u288 u289 u290 u291 u292 u293 u294 u295 u296 u297 u298 u299 u300 u301 u302 u303 u304 u305 u306 u307 u308 u309 u310 u311 u312 u313 wr hO
  obtain ⟨mc, hO⟩ := hO
  clear hO4
  generalize w5.heap.size = SB at hO ⊢
  have e0 : wr.cell? ⟨w.heap.size + 1 + 1, 0, none⟩ = some (.slice (some ⟨w.heap.size + 1, 0, none⟩) ((n + 63) / 64) ((n + 63) / 64)) := hO.st.m.cell' 0 0 rfl (by omega) (by omega)
  have e1 : wr.cell? ⟨w.heap.size + 1 + 1, 1, none⟩ = some mc := hO.st.m.cell' 0 1 rfl (by omega) (by omega)
  have x0 := hO.st.res.cell' 0 0 (o := 0) rfl (by omega) (by omega)
  have x1 := hO.st.res.cell' 0 1 (o := 1) rfl (by omega) (by omega)
  have g0 := hO.st.res.frozen 0
  have g1 := hO.st.res.frozen 1
  obtain ⟨ao, cap, hmc, hblk⟩ := own_form hO.own
  subst hmc
  go_wp2
  refine bodyPost_ret (v := .agg #[.slice (some ⟨w.heap.size + 1, 0, none⟩) ((n + 63) / 64) ((n + 63) / 64), .slice ao (gl l l.length).length cap]) ?_ rfl ?_
  · obtain ⟨r0, r1⟩ := res_cells hO.st (.slice (some ⟨w.heap.size + 1, 0, none⟩) ((n + 63) / 64) ((n + 63) / 64)) (.slice ao (gl l l.length).length cap)
    simp [results, Try.results19, go_sem, r0, r1]
  · refine ⟨SB, _, rfl, ?_⟩
    rw [HL.out]
    exact masks_end hO _ _

end Go.Proofs.Qxb6000847a
