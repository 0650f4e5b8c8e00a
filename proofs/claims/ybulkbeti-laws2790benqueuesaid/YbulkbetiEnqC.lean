/- The walk of LawS2790BEnqueue from behind the send to its end. -/
import Derived.Test.YbulkbetiEnqB
import Derived.Test.YbulkbetiEnqTail
namespace Go.Proofs.Ybulkbeti.Enq
open Go.ChangeShapes Go.WideShapes Go.ChangeAt Go.RowKit
set_option linter.unusedVariables false

set_option maxRecDepth 100000 in
set_option maxHeartbeats 3200000 in
theorem part2 (w wc : World) (ib b tb size : Nat) (inf sub bu wt sg n hd : Int) (cl : Bool) (pc : Nat → Value) (v0 : Value) (u21 u22 u23 u24 u25 u26 u27 u28 u29 u30 u31 u32 u33 u34 u35 u36 u37 u38 u39 u40 u41 u42 u43 u44 u45 u46 u47 u48 u49 u50 u51 u52 u53 u54 u55 u56 u57 u58 u59 u60 u61 u62 u63 u64 u65 u66 u67 u68 u69 u70 u71 u72 u73 u74 u75 u76 u77 u78 u79 u80 u81 u82 u83 u84 u85 u86 u87 u88 u89 u90 u91 u92 u93 u94 u95 u96 u97 u98 u99 u100 u101 u102 u103 u104 u105 u106 u107 u108 u109 u110 u111 u112 u113 u114 u115 u116 u117 u118 u119 u120 u121 u122 u123 u124 u125 u126 u127 u128 u129 u130 u131 u132 u133 u134 u135 u136 u137 u138 u139 u140 u141 u142 u143 u144 u145 u146 u147 u148 u149 u150 u151 u152 u153 u154 u155 u156 u157 u158 u159 u160 u161 u162 u163 u164 u165 u166 u167 u168 u169 u170 u171 u172 u173 u174 u175 u176 u177 u178 u179 u180 u181 u182 u183 u184 u185 u186 u187 u188 u189 u190 u191 u192 u193 u194 u195 u196 u197 u198 u199 u200 u201 u202 u203 u204 u205 u206 u207 u208 u209 u210 u211 u212 u213 u214 u215 u216 u217 u218 u219 u220 u221 u222 u223 u224 u225 u226 u227 u228 u229 u230 u231 u232 u233 u234 u235 u236 u237 u238 u239 u240 u241 u242 u243 u244 u245 u246 u247 u248 u249 u250 u251 u252 u253 u254 u255 u256 u257 u258 u259 u260 u261 u262 u263 u264 u265 u266 u267 u268 u269 u270 u271 u272 u273 : Value)
    (h6a : 0 ≤ inf) (h6b : inf ≤ 255) (b0 : 0 ≤ bu) (b1 : bu ≤ 15) (t0 : 0 ≤ wt) (t1 : wt ≤ 7) (g0 : 0 ≤ sg) (g1 : sg ≤ wt) (n0 : 0 ≤ n) (n1 : n ≤ bu + wt) (d0 : 0 ≤ hd) (D1 : Hid (hd < bu + wt ∨ bu + wt = 0 ∧ hd = 0)) (HS : Hid ((size : Int) = bu + wt))
    (st : St w wc ib b tb size inf sub cl pc (fun _ => .nilFunc)) (p4 : pc 4 = .int .i64 bu) (p6 : pc 6 = .int .i32 0) (p8 : pc 8 = .slice (some ⟨tb, 0, none⟩) size size) (p9 : pc 9 = .int .i64 hd) (p10 : pc 10 = .int .i64 n) (p11 : pc 11 = .bool cl) (p13 : pc 13 = .int .u32 0) (p14 : pc 14 = .int .u32 0) (p18 : pc 18 = .int .u64 0) (p19 : pc 19 = .int .i64 wt) (p20 : pc 20 = .int .i64 sg) (p27 : pc 27 = .int .i64 0) (p29 : pc 29 = .int .i64 0) :
    Code.wp Yba.prog ((Yba.f3.body.bind (tailAfter 16)).getD .skip) (bodyPost Yba.prog Yba.f3 fun e w' => e = .returned (.bool true) ∧ Below w.heap.size w w') ⟨#[v0, .pointer (some ⟨ib, 0, none⟩), .bool false, .int .i64 bu, .int .i64 wt, .int .i64 sg, .int .i64 (size : Int), .int .i64 n, .int .i64 hd, .pointer (some ⟨b, 0, none⟩), undef, undef, undef, undef, undef, undef, undef, undef, undef, undef, undef, u21, u22, u23, u24, u25, u26, u27, u28, u29, u30, u31, u32, u33, u34, u35, u36, u37, u38, u39, u40, u41, u42, u43, u44, u45, u46, u47, u48, u49, u50, u51, u52, u53, u54, u55, u56, u57, u58, u59, u60, u61, u62, u63, u64, u65, u66, u67, u68, u69, u70, u71, u72, u73, u74, u75, u76, u77, u78, u79, u80, u81, u82, u83, u84, u85, u86, u87, u88, u89, u90, u91, u92, u93, u94, u95, u96, u97, u98, u99, u100, u101, u102, u103, u104, u105, u106, u107, u108, u109, u110, u111, u112, u113, u114, u115, u116, u117, u118, u119, u120, u121, u122, u123, u124, u125, u126, u127, u128, u129, u130, u131, u132, u133, u134, u135, u136, u137, u138, u139, u140, u141, u142, u143, u144, u145, u146, u147, u148, u149, u150, u151, u152, u153, u154, u155, u156, u157, u158, u159, u160, u161, u162, u163, u164, u165, u166, u167, u168, u169, u170, u171, u172, u173, u174, u175, u176, u177, u178, u179, u180, u181, u182, u183, u184, u185, u186, u187, u188, u189, u190, u191, u192, u193, u194, u195, u196, u197, u198, u199, u200, u201, u202, u203, u204, u205, u206, u207, u208, u209, u210, u211, u212, u213, u214, u215, u216, u217, u218, u219, u220, u221, u222, u223, u224, u225, u226, u227, u228, u229, u230, u231, u232, u233, u234, u235, u236, u237, u238, u239, u240, u241, u242, u243, u244, u245, u246, u247, u248, u249, u250, u251, u252, u253, u254, u255, u256, u257, u258, u259, u260, u261, u262, u263, u264, u265, u266, u267, u268, u269, u270, u271, u272, u273], []⟩ wc := by
  conv => arg 2; whnf
  have c22 := st.c 22 (by omega)
  have c26 := st.c 26 (by omega)
  have f22 := st.fz 22
  have f26 := st.fz 26
  have i5 := st.i5
  have i6 := st.i6
  have i7 := st.i7
  have n1' : ¬ b = ib := fun e => st.n1 e.symm
  go_upto_region 17 with fail
  go_region_with (go_at_call 6; refine (Sync.store32 b 22 _ (pc 22) _ ?_ ?_).mono ?_; exact c22; exact f22; rintro e w' ⟨rfl, rfl⟩)
  go_upto_region 18 with fail
  go_region_with (go_at_call 7; refine (Sync.store64 b 26 _ (pc 26) _ ?_ ?_).mono ?_; (go_simp); (go_simp); rintro e w' ⟨rfl, rfl⟩)
  go_upto_region 21 with fail
  clear c22 c26 f22 f26 i5 i6 i7
  go_cut [10, 12] from 21 (fun s10 s12 wd => RelC w ib b tb size inf sub cl bu wt sg n hd s10 s12 wd)
  case first =>
    have s2 := st21 (inf := inf) (sub := sub) st
    cases cl
    · by_cases hn : n < bu + wt
      · have hs := HS.out
        have hd1 := D1.out
        obtain ⟨slot, hls, hslot, hor⟩ := slot_of hd n size d0 (by omega) n0 (by omega)
        obtain ⟨q, sg', hq⟩ : ∃ (q : Bool) (sg' : Int), (q = false ∧ sg = wt ∧ sg' = sg) ∨ (q = true ∧ sg ≠ wt ∧ sg' = sg + 1) := by
          by_cases h : sg = wt
          · exact ⟨false, sg, .inl ⟨rfl, h, rfl⟩⟩
          · exact ⟨true, sg + 1, .inr ⟨rfl, h, rfl⟩⟩
        obtain ⟨v, hv⟩ : ∃ v : Int, (n + 1 < bu + wt ∧ v = 0) ∨ (¬ n + 1 < bu + wt ∧ v = 1) := by
          by_cases h : n + 1 < bu + wt
          · exact ⟨0, .inl ⟨h, rfl⟩⟩
          · exact ⟨1, .inr ⟨h, rfl⟩⟩
        have hc := (Pool.try_room b tb size slot hd n bu wt sg sg' (inf % 3) v sub q .nilFunc (.func 8) #[] #[.pointer (some ⟨wc.heap.size, 0, none⟩)] (w21 wc b inf sub) (by omega) (by omega) (by omega) (by omega) (by omega) (by omega) hn hls hor st.n3 hq hv
          (s2.at 4 _ (by simp [upd, p4]) (by omega)) (s2.at 6 _ (by simp [upd, p6]) (by omega)) (s2.at 8 _ (by simp [upd, p8]) (by omega)) (s2.at 9 _ (by simp [upd, p9]) (by omega)) (s2.at 10 _ (by simp [upd, p10]) (by omega)) (s2.at 11 _ (by simp [upd, p11]) (by omega)) (s2.at 13 _ (by simp [upd, p13]) (by omega)) (s2.at 14 _ (by simp [upd, p14]) (by omega)) (s2.at 18 _ (by simp [upd, p18]) (by omega))
          (s2.at 19 _ (by simp [upd, p19]) (by omega)) (s2.at 20 _ (by simp [upd, p20]) (by omega)) (s2.at 22 _ (by simp [upd]) (by omega)) (s2.at 26 _ (by simp [upd]) (by omega)) (s2.tks slot hls) s2.fz (s2.ft slot))
        have he := (rel_room q slot sg' v hn hls hslot hq g1 hv st p4 p8 p9 p11 p19 p27 p29)
        clear hs hd1 hor hq hv hslot
        cases q
        · simp only [Bool.false_eq_true, if_false] at hc he
          have HC := Pool.hidMk hc
          have HE := Pool.hidMk he
          clear hc he
          go_wp2_with (go_at_call 9; refine HC.out.mono ?_; rintro e w' ⟨rfl, rfl⟩)
          go_meet
          case rel => exact HE.out
        · simp only [if_true] at hc he
          have HC := Pool.hidMk hc
          have HE := Pool.hidMk he
          clear hc he
          go_wp2_with (go_at_call 9; refine HC.out.mono ?_; rintro e w' ⟨rfl, rfl⟩)
          go_meet
          case rel => exact HE.out
      · have HC := Pool.hidMk (Pool.try_full b n bu wt (inf % 3) (.func (.func 8) #[] #[.pointer (some ⟨wc.heap.size, 0, none⟩)]) (w21 wc b inf sub) (by omega) (by omega) (by omega) hn
          (s2.at 4 _ (by simp [upd, p4]) (by omega)) (s2.at 6 _ (by simp [upd, p6]) (by omega)) (s2.at 10 _ (by simp [upd, p10]) (by omega)) (s2.at 11 _ (by simp [upd, p11]) (by omega)) (s2.at 19 _ (by simp [upd, p19]) (by omega)) (s2.at 22 _ (by simp [upd]) (by omega)) s2.fz)
        have HE := Pool.hidMk (rel_full hn st p4 p8 p9 p10 p11 p19 p20 p27 p29)
        go_wp2_with (go_at_call 9; refine HC.out.mono ?_; rintro e w' ⟨rfl, rfl⟩)
        go_meet
        case rel => exact HE.out
    · have HC := Pool.hidMk (Pool.try_closed b wt (inf % 3) (.func (.func 8) #[] #[.pointer (some ⟨wc.heap.size, 0, none⟩)]) (w21 wc b inf sub)
        (s2.at 6 _ (by simp [upd, p6]) (by omega)) (s2.at 11 _ (by simp [upd, p11]) (by omega)) (s2.at 19 _ (by simp [upd, p19]) (by omega)) (s2.at 22 _ (by simp [upd]) (by omega)) s2.fz)
      have HE := Pool.hidMk (rel_closed st p4 p8 p9 p10 p11 p19 p20 p27 p29)
      go_wp2_with (go_at_call 9; refine HC.out.mono ?_; rintro e w' ⟨rfl, rfl⟩)
      go_meet
      case rel => exact HE.out
  case rest =>
    obtain ⟨q, cb, n', sg', sub', it', pc', tk', rfl, rfl, st', ⟨q4, q6, q8, q9, q10, q11, q19, q20, q22, q26, q27, q29⟩, kb, ⟨e1, e2, e3⟩, hres⟩ := hcut
    go_step
    rcases hres with ⟨hq, hr, hc⟩ | ⟨hq, slot, hls, hslot, hroom, hr, hsg, hit⟩
    · exact tail_no w _ ib b tb size cb inf sub bu wt sg n hd n' sg' sub' it' cl pc' tk' _ _ _ _ _ _ _ _ _ _ _ _ _ _ _ _ _ _ _ _ _ _ _ _ _ _ _ _ _ _ _ _ _ _ _ _ _ _ _ _ _ _ _ _ _ _ _ _ _ _ _ _ _ _ _ _ _ _ _ _ _ _ _ _ _ _ _ _ _ _ _ _ _ _ _ _ _ _ _ _ _ _ _ _ _ _ _ _ _ _ _ _ _ _ _ _ _ _ _ _ _ _ _ _ _ _ _ _ _ _ _ _ _ _ _ _ _ _ _ _ _ _ _ _ _ _ _ _ _ _ _ _ _ _ _ _ _ _ _ _ _ _ _ _ _ _ _ _ _ _ _ _ _ _ _ _ _ _ _ _ _ _ _ _ _ _ _ _ _ _ _ _ _ _ _ _ _ _ _ _ _ _ _ _ _ _ _ _ _ _ _ _ _ _ _ _ _ _ _ _ _ _ _ _ _ _ _ _ _ _ _ _ _ _ _ _ _ _ _ _ _ _ _ _ _ _ _ _ _ _ _ _ _ _ _ _ _ _ _ _ _ _ _ _ _ _ _ _ _ _ _ _ _ _ _ st' q4 q6 q8 q9 q10 q11 q19 q20 q22 q26 q27 q29 kb.lo kb.hi e1 e2 e3 kb.c kb.f b0 b1 t0 t1 g0 g1 n0 n1 d0 D1 HS q hq hr hc
    · exact tail_yes w _ ib b tb size cb inf sub bu wt sg n hd n' sg' sub' it' cl pc' tk' _ _ _ _ _ _ _ _ _ _ _ _ _ _ _ _ _ _ _ _ _ _ _ _ _ _ _ _ _ _ _ _ _ _ _ _ _ _ _ _ _ _ _ _ _ _ _ _ _ _ _ _ _ _ _ _ _ _ _ _ _ _ _ _ _ _ _ _ _ _ _ _ _ _ _ _ _ _ _ _ _ _ _ _ _ _ _ _ _ _ _ _ _ _ _ _ _ _ _ _ _ _ _ _ _ _ _ _ _ _ _ _ _ _ _ _ _ _ _ _ _ _ _ _ _ _ _ _ _ _ _ _ _ _ _ _ _ _ _ _ _ _ _ _ _ _ _ _ _ _ _ _ _ _ _ _ _ _ _ _ _ _ _ _ _ _ _ _ _ _ _ _ _ _ _ _ _ _ _ _ _ _ _ _ _ _ _ _ _ _ _ _ _ _ _ _ _ _ _ _ _ _ _ _ _ _ _ _ _ _ _ _ _ _ _ _ _ _ _ _ _ _ _ _ _ _ _ _ _ _ _ _ _ _ _ _ _ _ _ _ _ _ _ _ _ _ _ _ _ _ _ _ _ _ _ st' q4 q6 q8 q9 q10 q11 q19 q20 q22 q26 q27 q29 kb.lo kb.hi e1 e2 e3 kb.c kb.f b0 b1 t0 t1 g0 g1 n0 n1 d0 D1 HS q hq slot hls hslot hroom hr hsg hit
end Go.Proofs.Ybulkbeti.Enq
