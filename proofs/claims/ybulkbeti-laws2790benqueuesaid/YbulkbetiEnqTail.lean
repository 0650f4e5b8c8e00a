/- The walk of LawS2790BEnqueue behind the call of tryEnqueue. -/
import Derived.Test.YbulkbetiEnqA
import Derived.Deep.DeepCutAuto
import Derived.Deep.RegionWith
import Derived.BigQuiet
import Derived.WalkSmall
namespace Go.Proofs.Ybulkbeti.Enq
open Go.ChangeShapes Go.WideShapes Go.ChangeAt Go.RowKit
set_option linter.unusedVariables false

/-- what follows region n on the sequence's right side -/
def tailAfter (n : Nat) : Code → Option Code
  | .seq (.region id _ _) b => if id == n then some b else tailAfter n b
  | .seq _ b => tailAfter n b
  | _ => none

theorem neqNil (w : World) : (binOp .neq 63 Value.nilFunc Value.nilFunc).run Yba.prog w = .ok (.bool false) w := by kernel_rfl
theorem eqlFunc (fn : Fn) (a c : Array Value) (w : World) : (binOp .eql 63 (.func fn a c) Value.nilFunc).run Yba.prog w = .ok (.bool false) w := by kernel_rfl

theorem St.drewN {w0 wc : World} {ib b tb size : Nat} {inf sub0 : Int} {cl : Bool} {pc tk : Nat → Value} (h : St w0 wc ib b tb size inf sub0 cl pc tk) (n : Nat) : St w0 (wc.drewN n) ib b tb size inf sub0 cl pc tk :=
  { h with below := h.below.trans ⟨rfl, rfl, rfl, Nat.le_refl _, fun _ _ => rfl⟩ }

set_option maxRecDepth 100000 in
set_option maxHeartbeats 3200000 in
theorem tail_no (w wd : World) (ib b tb size cb : Nat) (inf sub bu wt sg n hd n' sg' sub' it' : Int) (cl : Bool) (pc tk : Nat → Value) (v0 v11 : Value) (u21 u22 u23 u24 u25 u26 u27 u28 u29 u30 u31 u32 u33 u34 u35 u36 u37 u38 u39 u40 u41 u42 u43 u44 u45 u46 u47 u48 u49 u50 u51 u52 u53 u54 u55 u56 u57 u58 u59 u60 u61 u62 u63 u64 u65 u66 u67 u68 u69 u70 u71 u72 u73 u74 u75 u76 u77 u78 u79 u80 u81 u82 u83 u84 u85 u86 u87 u88 u89 u90 u91 u92 u93 u94 u95 u96 u97 u98 u99 u100 u101 u102 u103 u104 u105 u106 u107 u108 u109 u110 u111 u112 u113 u114 u115 u116 u117 u118 u119 u120 u121 u122 u123 u124 u125 u126 u127 u128 u129 u130 u131 u132 u133 u134 u135 u136 u137 u138 u139 u140 u141 u142 u143 u144 u145 u146 u147 u148 u149 u150 u151 u152 u153 u154 u155 u156 u157 u158 u159 u160 u161 u162 u163 u164 u165 u166 u167 u168 u169 u170 u171 u172 u173 u174 u175 u176 u177 u178 u179 u180 u181 u182 u183 u184 u185 u186 u187 u188 u189 u190 u191 u192 u193 u194 u195 u196 u197 u198 u199 u200 u201 u202 u203 u204 u205 u206 u207 u208 u209 u210 u211 u212 u213 u214 u215 u216 u217 u218 u219 u220 u221 u222 u223 u224 u225 u226 u227 u228 u229 u230 u231 u232 u233 u234 u235 u236 u237 u238 u239 u240 u241 u242 u243 u244 u245 u246 u247 u248 u249 u250 u251 u252 u253 u254 u255 u256 u257 u258 u259 u260 u261 u262 u263 u264 u265 u266 u267 u268 u269 u270 u271 u272 u273 : Value)
    (st : St w wd ib b tb size inf sub cl pc tk) (p4 : pc 4 = .int .i64 bu) (p6 : pc 6 = .int .i32 0) (p8 : pc 8 = .slice (some ⟨tb, 0, none⟩) size size) (p9 : pc 9 = .int .i64 hd) (p10 : pc 10 = .int .i64 n') (p11 : pc 11 = .bool cl) (p19 : pc 19 = .int .i64 wt) (p20 : pc 20 = .int .i64 sg') (p22 : pc 22 = .int .i32 it') (p26 : pc 26 = .int .i64 sub') (p27 : pc 27 = .int .i64 0) (p29 : pc 29 = .int .i64 0)
    (hcb : w.heap.size ≤ cb) (hcs : cb < wd.heap.size) (m1 : ¬ ib = cb) (m2 : ¬ b = cb) (m3 : ¬ tb = cb) (k0 : wd.cell? ⟨cb, 0, none⟩ = some (.int .i64 0)) (kf : wd.frozen? ⟨cb, 0, none⟩ = false)
    (b0 : 0 ≤ bu) (b1 : bu ≤ 15) (t0 : 0 ≤ wt) (t1 : wt ≤ 7) (g0 : 0 ≤ sg) (g1 : sg ≤ wt) (n0 : 0 ≤ n) (n1 : n ≤ bu + wt) (d0 : 0 ≤ hd) (D1 : Hid (hd < bu + wt ∨ bu + wt = 0 ∧ hd = 0)) (HS : Hid ((size : Int) = bu + wt))
    (q : Bool) (hq : q = false) (hres : n' = n ∧ sg' = sg ∧ sub' = sub ∧ tk = (fun _ => .nilFunc)) (hcl : (cl = true ∧ it' = 2) ∨ (cl = false ∧ ¬ n < bu + wt ∧ it' = 1)) :
    Code.wp Yba.prog ((Yba.f3.body.bind (tailAfter 21)).getD .skip) (bodyPost Yba.prog Yba.f3 fun e w' => e = .returned (.bool true) ∧ Below w.heap.size w w') ⟨#[v0, .pointer (some ⟨ib, 0, none⟩), .bool false, .int .i64 bu, .int .i64 wt, .int .i64 sg, .int .i64 (size : Int), .int .i64 n, .int .i64 hd, .pointer (some ⟨b, 0, none⟩), .pointer (some ⟨cb, 0, none⟩), v11, .bool q, undef, undef, undef, undef, undef, undef, undef, undef, u21, u22, u23, u24, u25, u26, u27, u28, u29, u30, u31, u32, u33, u34, u35, u36, u37, u38, u39, u40, u41, u42, u43, u44, u45, u46, u47, u48, u49, u50, u51, u52, u53, u54, u55, u56, u57, u58, u59, u60, u61, u62, u63, u64, u65, u66, u67, u68, u69, u70, u71, u72, u73, u74, u75, u76, u77, u78, u79, u80, u81, u82, u83, u84, u85, u86, u87, u88, u89, u90, u91, u92, u93, u94, u95, u96, u97, u98, u99, u100, u101, u102, u103, u104, u105, u106, u107, u108, u109, u110, u111, u112, u113, u114, u115, u116, u117, u118, u119, u120, u121, u122, u123, u124, u125, u126, u127, u128, u129, u130, u131, u132, u133, u134, u135, u136, u137, u138, u139, u140, u141, u142, u143, u144, u145, u146, u147, u148, u149, u150, u151, u152, u153, u154, u155, u156, u157, u158, u159, u160, u161, u162, u163, u164, u165, u166, u167, u168, u169, u170, u171, u172, u173, u174, u175, u176, u177, u178, u179, u180, u181, u182, u183, u184, u185, u186, u187, u188, u189, u190, u191, u192, u193, u194, u195, u196, u197, u198, u199, u200, u201, u202, u203, u204, u205, u206, u207, u208, u209, u210, u211, u212, u213, u214, u215, u216, u217, u218, u219, u220, u221, u222, u223, u224, u225, u226, u227, u228, u229, u230, u231, u232, u233, u234, u235, u236, u237, u238, u239, u240, u241, u242, u243, u244, u245, u246, u247, u248, u249, u250, u251, u252, u253, u254, u255, u256, u257, u258, u259, u260, u261, u262, u263, u264, u265, u266, u267, u268, u269, u270, u271, u272, u273], []⟩ wd := by
  subst hq
  conv => arg 2; whnf
  obtain ⟨rfl, rfl, rfl, rfl⟩ := hres
  have hsz : size ≤ 22 := by have := HS.out; omega
  have i6 := st.i6
  have i7 := st.i7
  have c4 := st.at 4 _ p4 (by omega)
  have c6 := st.at 6 _ p6 (by omega)
  have c8 := st.at 8 _ p8 (by omega)
  have c9 := st.at 9 _ p9 (by omega)
  have c10 := st.at 10 _ p10 (by omega)
  have c11 := st.at 11 _ p11 (by omega)
  have c19 := st.at 19 _ p19 (by omega)
  have c20 := st.at 20 _ p20 (by omega)
  have c22 := st.at 22 _ p22 (by omega)
  have c26 := st.at 26 _ p26 (by omega)
  have c27 := st.at 27 _ p27 (by omega)
  have c29 := st.at 29 _ p29 (by omega)
  have f6 := st.fz 6
  have hneq := neqNil
  rcases hcl with ⟨rfl, rfl⟩ | ⟨rfl, hn, rfl⟩
  · go_upto_region 44 with (first
      | (go_at_call 10; refine (Sync.tryLock b 6 _ c6 f6).mono ?_; rintro e w' ⟨rfl, rfl⟩)
      | (go_at_call 11; refine (Sync.unlock b 6 _ ?_ ?_).mono ?_; (go_simp); (go_simp); (rintro e w' ⟨rfl, hw⟩; rw [relock _ _ _ _ _ c6] at hw; subst hw))
      | (go_at_call_of 12 (Value.pointer (some (Addr.mk b 26 none))); refine (Sync.load64 b 26 _ _ c26).mono ?_; rintro e w' ⟨rfl, rfl⟩)
      | (go_at_call_of 12 (Value.pointer (some (Addr.mk b 27 none))); refine (Sync.load64 b 27 _ _ c27).mono ?_; rintro e w' ⟨rfl, rfl⟩)
      | (go_at_call_of 12 (Value.pointer (some (Addr.mk b 29 none))); refine (Sync.load64 b 29 _ _ c29).mono ?_; rintro e w' ⟨rfl, rfl⟩))
    go_quiet (fail)
    go_wp2_with fail
    go_loop [18, 19] (fun i _ => ∃ k : Nat, k ≤ size ∧ i = .int .i64 (k : Int)) (fun i _ => size - (intOf i).toNat)
    case atStart => exact ⟨0, Nat.zero_le _, rfl⟩
    case round =>
      obtain ⟨k, hk, rfl⟩ := hrel
      have hs1 : ((k : Int) == -1) = false := by simp
      by_cases hlt : k < size
      · have ck := st.tks k hlt
        go_wp2
        go_round
        case rel => exact ⟨k + 1, by omega, by go_num⟩
        case measure => simp [intOf]; omega
      · go_wp2_with (go_at_call 13; refine (Sync.load32 b 22 2 _ ?_).mono ?_; (go_simp); rintro e w' ⟨rfl, rfl⟩)
        go_ret
        exact ⟨rfl, below_drewN st.below _⟩
  · go_upto_region 44 with (first
      | (go_at_call 10; refine (Sync.tryLock b 6 _ c6 f6).mono ?_; rintro e w' ⟨rfl, rfl⟩)
      | (go_at_call 11; refine (Sync.unlock b 6 _ ?_ ?_).mono ?_; (go_simp); (go_simp); (rintro e w' ⟨rfl, hw⟩; rw [relock _ _ _ _ _ c6] at hw; subst hw))
      | (go_at_call_of 12 (Value.pointer (some (Addr.mk b 26 none))); refine (Sync.load64 b 26 _ _ c26).mono ?_; rintro e w' ⟨rfl, rfl⟩)
      | (go_at_call_of 12 (Value.pointer (some (Addr.mk b 27 none))); refine (Sync.load64 b 27 _ _ c27).mono ?_; rintro e w' ⟨rfl, rfl⟩)
      | (go_at_call_of 12 (Value.pointer (some (Addr.mk b 29 none))); refine (Sync.load64 b 29 _ _ c29).mono ?_; rintro e w' ⟨rfl, rfl⟩))
    go_quiet (fail)
    go_wp2_with fail
    go_loop [18, 19] (fun i _ => ∃ k : Nat, k ≤ size ∧ i = .int .i64 (k : Int)) (fun i _ => size - (intOf i).toNat)
    case atStart => exact ⟨0, Nat.zero_le _, rfl⟩
    case round =>
      obtain ⟨k, hk, rfl⟩ := hrel
      have hs1 : ((k : Int) == -1) = false := by simp
      by_cases hlt : k < size
      · have ck := st.tks k hlt
        go_wp2
        go_round
        case rel => exact ⟨k + 1, by omega, by go_num⟩
        case measure => simp [intOf]; omega
      · go_wp2_with (go_at_call 13; refine (Sync.load32 b 22 1 _ ?_).mono ?_; (go_simp); rintro e w' ⟨rfl, rfl⟩)
        go_ret
        exact ⟨rfl, below_drewN st.below _⟩


set_option maxRecDepth 100000 in
set_option maxHeartbeats 3200000 in
theorem tail_yes (w wd : World) (ib b tb size cb : Nat) (inf sub bu wt sg n hd n' sg' sub' it' : Int) (cl : Bool) (pc tk : Nat → Value) (v0 v11 : Value) (u21 u22 u23 u24 u25 u26 u27 u28 u29 u30 u31 u32 u33 u34 u35 u36 u37 u38 u39 u40 u41 u42 u43 u44 u45 u46 u47 u48 u49 u50 u51 u52 u53 u54 u55 u56 u57 u58 u59 u60 u61 u62 u63 u64 u65 u66 u67 u68 u69 u70 u71 u72 u73 u74 u75 u76 u77 u78 u79 u80 u81 u82 u83 u84 u85 u86 u87 u88 u89 u90 u91 u92 u93 u94 u95 u96 u97 u98 u99 u100 u101 u102 u103 u104 u105 u106 u107 u108 u109 u110 u111 u112 u113 u114 u115 u116 u117 u118 u119 u120 u121 u122 u123 u124 u125 u126 u127 u128 u129 u130 u131 u132 u133 u134 u135 u136 u137 u138 u139 u140 u141 u142 u143 u144 u145 u146 u147 u148 u149 u150 u151 u152 u153 u154 u155 u156 u157 u158 u159 u160 u161 u162 u163 u164 u165 u166 u167 u168 u169 u170 u171 u172 u173 u174 u175 u176 u177 u178 u179 u180 u181 u182 u183 u184 u185 u186 u187 u188 u189 u190 u191 u192 u193 u194 u195 u196 u197 u198 u199 u200 u201 u202 u203 u204 u205 u206 u207 u208 u209 u210 u211 u212 u213 u214 u215 u216 u217 u218 u219 u220 u221 u222 u223 u224 u225 u226 u227 u228 u229 u230 u231 u232 u233 u234 u235 u236 u237 u238 u239 u240 u241 u242 u243 u244 u245 u246 u247 u248 u249 u250 u251 u252 u253 u254 u255 u256 u257 u258 u259 u260 u261 u262 u263 u264 u265 u266 u267 u268 u269 u270 u271 u272 u273 : Value)
    (st : St w wd ib b tb size inf sub cl pc tk) (p4 : pc 4 = .int .i64 bu) (p6 : pc 6 = .int .i32 0) (p8 : pc 8 = .slice (some ⟨tb, 0, none⟩) size size) (p9 : pc 9 = .int .i64 hd) (p10 : pc 10 = .int .i64 n') (p11 : pc 11 = .bool cl) (p19 : pc 19 = .int .i64 wt) (p20 : pc 20 = .int .i64 sg') (p22 : pc 22 = .int .i32 it') (p26 : pc 26 = .int .i64 sub') (p27 : pc 27 = .int .i64 0) (p29 : pc 29 = .int .i64 0)
    (hcb : w.heap.size ≤ cb) (hcs : cb < wd.heap.size) (m1 : ¬ ib = cb) (m2 : ¬ b = cb) (m3 : ¬ tb = cb) (k0 : wd.cell? ⟨cb, 0, none⟩ = some (.int .i64 0)) (kf : wd.frozen? ⟨cb, 0, none⟩ = false)
    (b0 : 0 ≤ bu) (b1 : bu ≤ 15) (t0 : 0 ≤ wt) (t1 : wt ≤ 7) (g0 : 0 ≤ sg) (g1 : sg ≤ wt) (n0 : 0 ≤ n) (n1 : n ≤ bu + wt) (d0 : 0 ≤ hd) (D1 : Hid (hd < bu + wt ∨ bu + wt = 0 ∧ hd = 0)) (HS : Hid ((size : Int) = bu + wt))
    (q : Bool) (hq : q = true) (slot : Nat) (hls : slot < size) (hslot : (slot : Int) = (hd + n) % (size : Int)) (hroom : n < bu + wt) (hres : cl = false ∧ n' = n + 1 ∧ sub' = wrap64 (sub + 1) ∧ tk = upd (fun _ => .nilFunc) slot (.func (.func 8) #[] #[.pointer (some ⟨cb, 0, none⟩)]))
    (hsg : (sg < wt ∧ sg' = sg + 1) ∨ (¬ sg < wt ∧ sg' = sg)) (hit : (n + 1 < bu + wt ∧ it' = 0) ∨ (¬ n + 1 < bu + wt ∧ it' = 1)) :
    Code.wp Yba.prog ((Yba.f3.body.bind (tailAfter 21)).getD .skip) (bodyPost Yba.prog Yba.f3 fun e w' => e = .returned (.bool true) ∧ Below w.heap.size w w') ⟨#[v0, .pointer (some ⟨ib, 0, none⟩), .bool false, .int .i64 bu, .int .i64 wt, .int .i64 sg, .int .i64 (size : Int), .int .i64 n, .int .i64 hd, .pointer (some ⟨b, 0, none⟩), .pointer (some ⟨cb, 0, none⟩), v11, .bool q, undef, undef, undef, undef, undef, undef, undef, undef, u21, u22, u23, u24, u25, u26, u27, u28, u29, u30, u31, u32, u33, u34, u35, u36, u37, u38, u39, u40, u41, u42, u43, u44, u45, u46, u47, u48, u49, u50, u51, u52, u53, u54, u55, u56, u57, u58, u59, u60, u61, u62, u63, u64, u65, u66, u67, u68, u69, u70, u71, u72, u73, u74, u75, u76, u77, u78, u79, u80, u81, u82, u83, u84, u85, u86, u87, u88, u89, u90, u91, u92, u93, u94, u95, u96, u97, u98, u99, u100, u101, u102, u103, u104, u105, u106, u107, u108, u109, u110, u111, u112, u113, u114, u115, u116, u117, u118, u119, u120, u121, u122, u123, u124, u125, u126, u127, u128, u129, u130, u131, u132, u133, u134, u135, u136, u137, u138, u139, u140, u141, u142, u143, u144, u145, u146, u147, u148, u149, u150, u151, u152, u153, u154, u155, u156, u157, u158, u159, u160, u161, u162, u163, u164, u165, u166, u167, u168, u169, u170, u171, u172, u173, u174, u175, u176, u177, u178, u179, u180, u181, u182, u183, u184, u185, u186, u187, u188, u189, u190, u191, u192, u193, u194, u195, u196, u197, u198, u199, u200, u201, u202, u203, u204, u205, u206, u207, u208, u209, u210, u211, u212, u213, u214, u215, u216, u217, u218, u219, u220, u221, u222, u223, u224, u225, u226, u227, u228, u229, u230, u231, u232, u233, u234, u235, u236, u237, u238, u239, u240, u241, u242, u243, u244, u245, u246, u247, u248, u249, u250, u251, u252, u253, u254, u255, u256, u257, u258, u259, u260, u261, u262, u263, u264, u265, u266, u267, u268, u269, u270, u271, u272, u273], []⟩ wd := by
  subst hq
  conv => arg 2; whnf
  obtain ⟨rfl, rfl, rfl, rfl⟩ := hres
  have hsz : size ≤ 22 := by have := HS.out; omega
  have hsp : ¬ (size : Int) = 0 := by omega
  have hsp' : 0 < (size : Int) := by omega
  have hdu : hd ≤ 22 := by rcases D1.out with h | h <;> omega
  have hmod : (hd + n) % (size : Int) = (slot : Int) := hslot.symm
  clear hslot
  have i6 := st.i6
  have i7 := st.i7
  have c4 := st.at 4 _ p4 (by omega)
  have c6 := st.at 6 _ p6 (by omega)
  have c8 := st.at 8 _ p8 (by omega)
  have c9 := st.at 9 _ p9 (by omega)
  have c10 := st.at 10 _ p10 (by omega)
  have c11 := st.at 11 _ p11 (by omega)
  have c19 := st.at 19 _ p19 (by omega)
  have c20 := st.at 20 _ p20 (by omega)
  have c22 := st.at 22 _ p22 (by omega)
  have c26 := st.at 26 _ p26 (by omega)
  have c27 := st.at 27 _ p27 (by omega)
  have c29 := st.at 29 _ p29 (by omega)
  have f6 := st.fz 6
  have hneq := neqNil
  have heql := eqlFunc
  rcases hsg with ⟨hsg, rfl⟩ | ⟨hsg, rfl⟩
  · rcases hit with ⟨hit, rfl⟩ | ⟨hit, rfl⟩
    · go_upto_region 44 with (first
        | (go_at_call 10; refine (Sync.tryLock b 6 _ c6 f6).mono ?_; rintro e w' ⟨rfl, rfl⟩)
        | (go_at_call 11; refine (Sync.unlock b 6 _ ?_ ?_).mono ?_; (go_simp); (go_simp); (rintro e w' ⟨rfl, hw⟩; rw [relock _ _ _ _ _ c6] at hw; subst hw))
        | (go_at_call_of 12 (Value.pointer (some (Addr.mk b 26 none))); refine (Sync.load64 b 26 _ _ c26).mono ?_; rintro e w' ⟨rfl, rfl⟩)
        | (go_at_call_of 12 (Value.pointer (some (Addr.mk b 27 none))); refine (Sync.load64 b 27 _ _ c27).mono ?_; rintro e w' ⟨rfl, rfl⟩)
        | (go_at_call_of 12 (Value.pointer (some (Addr.mk b 29 none))); refine (Sync.load64 b 29 _ _ c29).mono ?_; rintro e w' ⟨rfl, rfl⟩))
      go_quiet (fail)
      go_wp2_with fail
      go_loopw [18, 19] (fun i _ wr => ∃ k : Nat, k ≤ size ∧ i = .int .i64 (k : Int) ∧ St w wr ib b tb size inf sub false pc (upd (fun _ => .nilFunc) slot (.func (.func 8) #[] #[.pointer (some ⟨cb, 0, none⟩)])) ∧ wr.cell? ⟨cb, 0, none⟩ = some (.int .i64 (if slot < k then 1 else 0)) ∧ wr.frozen? ⟨cb, 0, none⟩ = false) (fun i _ _ => size - (intOf i).toNat)
      case atStart => exact ⟨0, Nat.zero_le _, rfl, st.drewN _, by simp [k0], by simp [kf]⟩
      case round =>
        obtain ⟨k, hk, rfl, sw, kw, kfw⟩ := hrel
        by_cases hlt : k < size
        · have ck := sw.tks k hlt
          have c8w := sw.at 8 _ p8 (by omega)
          by_cases hks : k = slot
          · subst hks
            simp [upd] at ck kw
            have sw1 := sw.setO cb 0 hcb m1 m2 m3 (.int .i64 1)
            have kw1 : (wr.setCell ⟨cb, 0, none⟩ (.int .i64 1)).cell? ⟨cb, 0, none⟩ = some (.int .i64 1) := World.cell?_setCell_same _ _ _ kw
            have SW1 := Pool.hidMk sw1
            have KW1 := Pool.hidMk kw1
            clear sw1 kw1
            go_wp2
            go_end0
            go_wp2
            go_roundw
            case rel => exact ⟨k + 1, by omega, by go_num, SW1.out, by rw [KW1.out]; simp, by simp [kfw]⟩
            case measure => simp [intOf]; omega
          · have hks1 : ((k : Int) == (slot : Int)) = false := by simp; omega
            simp [upd, hks] at ck
            have KW := Pool.hidMk kw
            clear kw
            go_wp2
            go_roundw
            case rel => exact ⟨k + 1, by omega, by go_num, sw, by rw [KW.out]; simp; split <;> split <;> first | rfl | omega, kfw⟩
            case measure => simp [intOf]; omega
        · have hke : slot < k := by omega
          rw [if_pos hke] at kw
          have c22w := sw.at 22 _ p22 (by omega)
          have i6w := sw.i6
          go_wp2_with (go_at_call 13; refine (Sync.load32 b 22 0 _ ?_).mono ?_; (go_simp); rintro e w' ⟨rfl, rfl⟩)
          go_ret
          exact ⟨rfl, sw.below⟩

    · go_upto_region 44 with (first
        | (go_at_call 10; refine (Sync.tryLock b 6 _ c6 f6).mono ?_; rintro e w' ⟨rfl, rfl⟩)
        | (go_at_call 11; refine (Sync.unlock b 6 _ ?_ ?_).mono ?_; (go_simp); (go_simp); (rintro e w' ⟨rfl, hw⟩; rw [relock _ _ _ _ _ c6] at hw; subst hw))
        | (go_at_call_of 12 (Value.pointer (some (Addr.mk b 26 none))); refine (Sync.load64 b 26 _ _ c26).mono ?_; rintro e w' ⟨rfl, rfl⟩)
        | (go_at_call_of 12 (Value.pointer (some (Addr.mk b 27 none))); refine (Sync.load64 b 27 _ _ c27).mono ?_; rintro e w' ⟨rfl, rfl⟩)
        | (go_at_call_of 12 (Value.pointer (some (Addr.mk b 29 none))); refine (Sync.load64 b 29 _ _ c29).mono ?_; rintro e w' ⟨rfl, rfl⟩))
      go_quiet (fail)
      go_wp2_with fail
      go_loopw [18, 19] (fun i _ wr => ∃ k : Nat, k ≤ size ∧ i = .int .i64 (k : Int) ∧ St w wr ib b tb size inf sub false pc (upd (fun _ => .nilFunc) slot (.func (.func 8) #[] #[.pointer (some ⟨cb, 0, none⟩)])) ∧ wr.cell? ⟨cb, 0, none⟩ = some (.int .i64 (if slot < k then 1 else 0)) ∧ wr.frozen? ⟨cb, 0, none⟩ = false) (fun i _ _ => size - (intOf i).toNat)
      case atStart => exact ⟨0, Nat.zero_le _, rfl, st.drewN _, by simp [k0], by simp [kf]⟩
      case round =>
        obtain ⟨k, hk, rfl, sw, kw, kfw⟩ := hrel
        by_cases hlt : k < size
        · have ck := sw.tks k hlt
          have c8w := sw.at 8 _ p8 (by omega)
          by_cases hks : k = slot
          · subst hks
            simp [upd] at ck kw
            have sw1 := sw.setO cb 0 hcb m1 m2 m3 (.int .i64 1)
            have kw1 : (wr.setCell ⟨cb, 0, none⟩ (.int .i64 1)).cell? ⟨cb, 0, none⟩ = some (.int .i64 1) := World.cell?_setCell_same _ _ _ kw
            have SW1 := Pool.hidMk sw1
            have KW1 := Pool.hidMk kw1
            clear sw1 kw1
            go_wp2
            go_end0
            go_wp2
            go_roundw
            case rel => exact ⟨k + 1, by omega, by go_num, SW1.out, by rw [KW1.out]; simp, by simp [kfw]⟩
            case measure => simp [intOf]; omega
          · have hks1 : ((k : Int) == (slot : Int)) = false := by simp; omega
            simp [upd, hks] at ck
            have KW := Pool.hidMk kw
            clear kw
            go_wp2
            go_roundw
            case rel => exact ⟨k + 1, by omega, by go_num, sw, by rw [KW.out]; simp; split <;> split <;> first | rfl | omega, kfw⟩
            case measure => simp [intOf]; omega
        · have hke : slot < k := by omega
          rw [if_pos hke] at kw
          have c22w := sw.at 22 _ p22 (by omega)
          have i6w := sw.i6
          go_wp2_with (go_at_call 13; refine (Sync.load32 b 22 1 _ ?_).mono ?_; (go_simp); rintro e w' ⟨rfl, rfl⟩)
          go_ret
          exact ⟨rfl, sw.below⟩

  · rcases hit with ⟨hit, rfl⟩ | ⟨hit, rfl⟩
    · go_upto_region 44 with (first
        | (go_at_call 10; refine (Sync.tryLock b 6 _ c6 f6).mono ?_; rintro e w' ⟨rfl, rfl⟩)
        | (go_at_call 11; refine (Sync.unlock b 6 _ ?_ ?_).mono ?_; (go_simp); (go_simp); (rintro e w' ⟨rfl, hw⟩; rw [relock _ _ _ _ _ c6] at hw; subst hw))
        | (go_at_call_of 12 (Value.pointer (some (Addr.mk b 26 none))); refine (Sync.load64 b 26 _ _ c26).mono ?_; rintro e w' ⟨rfl, rfl⟩)
        | (go_at_call_of 12 (Value.pointer (some (Addr.mk b 27 none))); refine (Sync.load64 b 27 _ _ c27).mono ?_; rintro e w' ⟨rfl, rfl⟩)
        | (go_at_call_of 12 (Value.pointer (some (Addr.mk b 29 none))); refine (Sync.load64 b 29 _ _ c29).mono ?_; rintro e w' ⟨rfl, rfl⟩))
      go_quiet (fail)
      go_wp2_with fail
      go_loopw [18, 19] (fun i _ wr => ∃ k : Nat, k ≤ size ∧ i = .int .i64 (k : Int) ∧ St w wr ib b tb size inf sub false pc (upd (fun _ => .nilFunc) slot (.func (.func 8) #[] #[.pointer (some ⟨cb, 0, none⟩)])) ∧ wr.cell? ⟨cb, 0, none⟩ = some (.int .i64 (if slot < k then 1 else 0)) ∧ wr.frozen? ⟨cb, 0, none⟩ = false) (fun i _ _ => size - (intOf i).toNat)
      case atStart => exact ⟨0, Nat.zero_le _, rfl, st.drewN _, by simp [k0], by simp [kf]⟩
      case round =>
        obtain ⟨k, hk, rfl, sw, kw, kfw⟩ := hrel
        by_cases hlt : k < size
        · have ck := sw.tks k hlt
          have c8w := sw.at 8 _ p8 (by omega)
          by_cases hks : k = slot
          · subst hks
            simp [upd] at ck kw
            have sw1 := sw.setO cb 0 hcb m1 m2 m3 (.int .i64 1)
            have kw1 : (wr.setCell ⟨cb, 0, none⟩ (.int .i64 1)).cell? ⟨cb, 0, none⟩ = some (.int .i64 1) := World.cell?_setCell_same _ _ _ kw
            have SW1 := Pool.hidMk sw1
            have KW1 := Pool.hidMk kw1
            clear sw1 kw1
            go_wp2
            go_end0
            go_wp2
            go_roundw
            case rel => exact ⟨k + 1, by omega, by go_num, SW1.out, by rw [KW1.out]; simp, by simp [kfw]⟩
            case measure => simp [intOf]; omega
          · have hks1 : ((k : Int) == (slot : Int)) = false := by simp; omega
            simp [upd, hks] at ck
            have KW := Pool.hidMk kw
            clear kw
            go_wp2
            go_roundw
            case rel => exact ⟨k + 1, by omega, by go_num, sw, by rw [KW.out]; simp; split <;> split <;> first | rfl | omega, kfw⟩
            case measure => simp [intOf]; omega
        · have hke : slot < k := by omega
          rw [if_pos hke] at kw
          have c22w := sw.at 22 _ p22 (by omega)
          have i6w := sw.i6
          go_wp2_with (go_at_call 13; refine (Sync.load32 b 22 0 _ ?_).mono ?_; (go_simp); rintro e w' ⟨rfl, rfl⟩)
          go_ret
          exact ⟨rfl, sw.below⟩

    · go_upto_region 44 with (first
        | (go_at_call 10; refine (Sync.tryLock b 6 _ c6 f6).mono ?_; rintro e w' ⟨rfl, rfl⟩)
        | (go_at_call 11; refine (Sync.unlock b 6 _ ?_ ?_).mono ?_; (go_simp); (go_simp); (rintro e w' ⟨rfl, hw⟩; rw [relock _ _ _ _ _ c6] at hw; subst hw))
        | (go_at_call_of 12 (Value.pointer (some (Addr.mk b 26 none))); refine (Sync.load64 b 26 _ _ c26).mono ?_; rintro e w' ⟨rfl, rfl⟩)
        | (go_at_call_of 12 (Value.pointer (some (Addr.mk b 27 none))); refine (Sync.load64 b 27 _ _ c27).mono ?_; rintro e w' ⟨rfl, rfl⟩)
        | (go_at_call_of 12 (Value.pointer (some (Addr.mk b 29 none))); refine (Sync.load64 b 29 _ _ c29).mono ?_; rintro e w' ⟨rfl, rfl⟩))
      go_quiet (fail)
      go_wp2_with fail
      go_loopw [18, 19] (fun i _ wr => ∃ k : Nat, k ≤ size ∧ i = .int .i64 (k : Int) ∧ St w wr ib b tb size inf sub false pc (upd (fun _ => .nilFunc) slot (.func (.func 8) #[] #[.pointer (some ⟨cb, 0, none⟩)])) ∧ wr.cell? ⟨cb, 0, none⟩ = some (.int .i64 (if slot < k then 1 else 0)) ∧ wr.frozen? ⟨cb, 0, none⟩ = false) (fun i _ _ => size - (intOf i).toNat)
      case atStart => exact ⟨0, Nat.zero_le _, rfl, st.drewN _, by simp [k0], by simp [kf]⟩
      case round =>
        obtain ⟨k, hk, rfl, sw, kw, kfw⟩ := hrel
        by_cases hlt : k < size
        · have ck := sw.tks k hlt
          have c8w := sw.at 8 _ p8 (by omega)
          by_cases hks : k = slot
          · subst hks
            simp [upd] at ck kw
            have sw1 := sw.setO cb 0 hcb m1 m2 m3 (.int .i64 1)
            have kw1 : (wr.setCell ⟨cb, 0, none⟩ (.int .i64 1)).cell? ⟨cb, 0, none⟩ = some (.int .i64 1) := World.cell?_setCell_same _ _ _ kw
            have SW1 := Pool.hidMk sw1
            have KW1 := Pool.hidMk kw1
            clear sw1 kw1
            go_wp2
            go_end0
            go_wp2
            go_roundw
            case rel => exact ⟨k + 1, by omega, by go_num, SW1.out, by rw [KW1.out]; simp, by simp [kfw]⟩
            case measure => simp [intOf]; omega
          · have hks1 : ((k : Int) == (slot : Int)) = false := by simp; omega
            simp [upd, hks] at ck
            have KW := Pool.hidMk kw
            clear kw
            go_wp2
            go_roundw
            case rel => exact ⟨k + 1, by omega, by go_num, sw, by rw [KW.out]; simp; split <;> split <;> first | rfl | omega, kfw⟩
            case measure => simp [intOf]; omega
        · have hke : slot < k := by omega
          rw [if_pos hke] at kw
          have c22w := sw.at 22 _ p22 (by omega)
          have i6w := sw.i6
          go_wp2_with (go_at_call 13; refine (Sync.load32 b 22 1 _ ?_).mono ?_; (go_simp); rintro e w' ⟨rfl, rfl⟩)
          go_ret
          exact ⟨rfl, sw.below⟩

end Go.Proofs.Ybulkbeti.Enq
