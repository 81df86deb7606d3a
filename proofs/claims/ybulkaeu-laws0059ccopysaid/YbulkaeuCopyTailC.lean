/-
  Seat b0059a: LawS0059CCopy: the function's tail, from region 51 on.
-/
import Derived.Test.YbulkaeuCopyParts
import Derived.Test.YbulkaeuPtr
import Derived.Test.YbulkaeuSplit
import Derived.Deep.QuietTactic
import Derived.BigQuiet
import Derived.RegionTactic
import Derived.BigRegion
import Derived.Deep.CutBlock
import Derived.Deep.CutRange
namespace Go.Proofs.Ybulkaeu
open Go.RowKit

set_option maxRecDepth 100000 in
set_option maxHeartbeats 6400000 in
theorem tail51 {bb oo : Nat} {a0 : Option Addr} {n cap0 : Nat} {zs : List Int} {a1 : Option Addr} {m cap1 : Nat} {xsM : List Value} {w w9 : World} {C : Nat} {old : Value} {aB : Option Addr} {cB : Nat} {aN' : Option Addr} {cN' : Nat} {aM' : Option Addr} {cM' : Nat} (nq : Nat) {u2 u3 u4 u5 u6 u7 u8 u10 u11 u12 u17 u18 u19 u21 u22 u23 u24 u25 u26 u27 u28 u29 u30 u31 u32 u33 u34 u35 u36 u37 u38 u39 u40 u41 u42 u43 u44 u45 u46 u47 u48 u49 u50 u51 u52 u53 u54 u55 u56 u57 u58 u59 u60 u61 u62 u63 u64 u65 u66 u67 u68 u69 u70 u71 u72 u73 u74 u75 u76 u77 u78 u79 u80 u81 u82 u83 u84 u85 u86 u87 u88 u89 u90 u91 u92 u93 u94 u95 u96 u97 u98 u99 u100 u101 u102 u103 u104 u105 u106 u107 u108 u109 u110 u111 u112 u113 u114 u115 u116 u117 u118 u119 u120 u121 u122 u123 u124 u125 u126 u127 u128 u129 u130 u131 u132 u133 u134 u135 u136 u137 u138 u139 u140 u141 u142 u143 u144 u145 u146 u147 u148 u149 u150 u151 u152 u153 u154 u155 u156 u157 u158 u159 u160 u161 u162 u163 u164 u165 u166 u167 u168 u169 u170 u171 u172 u173 u174 u175 u176 u177 u178 u179 u180 u181 u182 u183 u184 u185 u186 u187 u188 u189 u190 u191 u192 u193 u194 u195 u196 u197 u198 u199 u200 u201 u202 u203 u204 u205 u206 u207 u208 u209 u210 u211 u212 u213 u214 u215 u216 u217 u218 u219 u220 u221 u222 u223 u224 u225 u226 u227 u228 u229 u230 u231 u232 u233 u234 u235 u236 u237 u238 u239 u240 u241 u242 u243 u244 u245 u246 u247 u248 u249 u250 u251 u252 u253 u254 u255 u256 u257 u258 u259 u260 u261 u262 u263 u264 u265 u266 u267 u268 u269 u270 u271 u272 u273 u274 u275 u276 u277 u278 u279 u280 u281 u282 u283 u284 u285 u286 u287 u288 u289 u290 u291 u292 u293 u294 u295 u296 u297 u298 u299 u300 u301 u302 u303 u304 u305 u306 u307 u308 u309 u310 u311 u312 u313 u314 u315 u316 u317 u318 u319 u320 u321 u322 u323 u324 u325 u326 u327 u328 u329 u330 u331 u332 : Value}
    (HI : Hid (Inp bb oo a0 n zs a1 m cap1 xsM w)) (HF9 : Hid (F9 n m cap1 a1 zs xsM w C old aB cB aN' cN' aM' cM' w9)) :
    Code.wp Yba.prog ((Yba.f5.body.bind (tailAt 51)).getD .skip) (bodyPost Yba.prog Yba.f5 fun e w' => e = .returned (.bool true) ∧ Below w.heap.size w w')
      ⟨#[.slice a0 n cap0, .slice a1 m cap1, u2, u3, u4, u5, u6, u7, u8, .pointer (some ⟨w.heap.size + 2, 0, none⟩), u10, u11, u12, .pointer (some ⟨w.heap.size + 4, 0, none⟩), .pointer (some ⟨w.heap.size + 5, 0, none⟩), .int .i64 ((n : Int) % 3), .pointer (some ⟨w.heap.size + 7, 0, none⟩), u17, u18, u19, .pointer (some ⟨C, 0, none⟩), u21, u22, u23, u24, u25, u26, u27, u28, u29, u30, u31, u32, u33, u34, u35, u36, u37, u38, u39, u40, u41, u42, u43, u44, u45, u46, u47, u48, u49, u50, u51, u52, u53, u54, u55, u56, u57, u58, u59, u60, u61, u62, u63, u64, u65, u66, u67, u68, u69, u70, u71, u72, u73, u74, u75, u76, u77, u78, u79, u80, u81, u82, u83, u84, u85, u86, u87, u88, u89, u90, u91, u92, u93, u94, u95, u96, u97, u98, u99, u100, u101, u102, u103, u104, u105, u106, u107, u108, u109, u110, u111, u112, u113, u114, u115, u116, u117, u118, u119, u120, u121, u122, u123, u124, u125, u126, u127, u128, u129, u130, u131, u132, u133, u134, u135, u136, u137, u138, u139, u140, u141, u142, u143, u144, u145, u146, u147, u148, u149, u150, u151, u152, u153, u154, u155, u156, u157, u158, u159, u160, u161, u162, u163, u164, u165, u166, u167, u168, u169, u170, u171, u172, u173, u174, u175, u176, u177, u178, u179, u180, u181, u182, u183, u184, u185, u186, u187, u188, u189, u190, u191, u192, u193, u194, u195, u196, u197, u198, u199, u200, u201, u202, u203, u204, u205, u206, u207, u208, u209, u210, u211, u212, u213, u214, u215, u216, u217, u218, u219, u220, u221, u222, u223, u224, u225, u226, u227, u228, u229, u230, u231, u232, u233, u234, u235, u236, u237, u238, u239, u240, u241, u242, u243, u244, u245, u246, u247, u248, u249, u250, u251, u252, u253, u254, u255, u256, u257, u258, u259, u260, u261, u262, u263, u264, u265, u266, u267, u268, u269, u270, u271, u272, u273, u274, u275, u276, u277, u278, u279, u280, u281, u282, u283, u284, u285, u286, u287, u288, u289, u290, u291, u292, u293, u294, u295, u296, u297, u298, u299, u300, u301, u302, u303, u304, u305, u306, u307, u308, u309, u310, u311, u312, u313, u314, u315, u316, u317, u318, u319, u320, u321, u322, u323, u324, u325, u326, u327, u328, u329, u330, u331, u332], []⟩ (w9.drewN nq) := by
  obtain ⟨i53, hi53, hs53⟩ := size_part Yba.size53
  obtain ⟨i60, hi60, hs60⟩ := size_part Yba.size60
  obtain ⟨i44, hi44, hs44⟩ := size_part Yba.size44
  obtain ⟨i21, hi21, hs21⟩ := size_part Yba.size21
  have n46 := ne_same (P := Yba.prog) Yba.underlying46 hi53
  have n54 := ne_same (P := Yba.prog) Yba.underlying54 hi60
  have n40 := ne_same (P := Yba.prog) Yba.underlying40 hi44
  have hfn : ∀ W, (binOp .eql 63 (.func (.func 9) #[] #[]) .nilFunc).run Yba.prog W = .ok (.bool false) W := fun W => by kernel_rfl
  obtain ⟨c0, c1, c2, c3, c4, c5, fC⟩ := cells_of_layer HF9.out.layC
  obtain ⟨l0, l1, l2, l3, l4, l5, fL⟩ := cells_of_layer HF9.out.lay
  have hm1 := HI.out.hm
  have hn1 := HI.out.hn
  conv => arg 2; whnf
  go_wp2_with fail
  go_cut [222] from 209 to 222 (fun b wc => b = .bool false ∧ ∃ nq, wc = w9.drewN nq)
  case first =>
    by_cases hm0 : 0 < m
    · obtain ⟨g2, rfl, hg8, ⟨cur2, hcur2, hz2⟩, hgc⟩ := HF9.out.rowM hm0
      obtain ⟨ad, rfl, hbl, cb, tb, fr, hb2, hzb⟩ := HI.out.numsAt hm0
      have hbk : w9.heap[ad.block]? = some (.cells cb tb fr) := (HF9.out.bel.block _ hbl).trans hb2
      have e83 := fun nq => eq_far (P := Yba.prog) Yba.underlying83 hi21 (by rw [hs21]; decide) (w9.drewN nq) (a := ⟨g2, 0, none⟩) (b := ad) (by show g2 ≠ ad.block; omega) hcur2 hbk hzb
      have hi0 : (0 : Int) < (m : Int) := by omega
      have hd : decide ((0 : Int) < (m : Int)) = true := by simpa using hm0
      clear hgc hbk hb2 hcur2
      go_quiet (fail)
      go_wp2
      go_meet
      case rel => exact ⟨rfl, _, by rw [World.drewN_drewN]⟩
    · have hd : decide ((0 : Int) < (m : Int)) = false := by simpa using hm0
      go_quiet (fail)
      go_wp2
      go_meet
      case rel => exact ⟨rfl, _, by rw [World.drewN_drewN]⟩
  case rest =>
    obtain ⟨rfl, nq2, rfl⟩ := hcut
    go_upto_region 55 with fail
    go_cut [26, 27] from 256 to 266 (fun t p wc => t = .int .i32 7 ∧ ∃ g, p = .pointer (some ⟨g, 0, none⟩) ∧ wc.cell? ⟨g, 2, none⟩ = some (.int .u64 3) ∧ Below w9.heap.size w9 wc)
    case first =>
      have hsp := split_any (w9.drewN nq2)
      have HSP := hidI hsp
      clear hsp
      go_wp2_with (go_at_call 9; refine HSP.out.mono ?_; rintro e w10 ⟨rfl, hb10⟩; have HB10 := hidI hb10; clear hb10)
      go_meet
      case rel =>
        refine ⟨rfl, _, rfl, ?_, ?_⟩
        · rw [World.cell?_alloc_at _ _ _ _ rfl]; rfl
        · exact (Below.of_drewN HB10.out).alloc (by have := HB10.out.size; exact this) _
    case rest =>
      obtain ⟨rfl, g, rfl, hg2, hbc⟩ := hcut
      have HBC := hidI hbc
      clear c0 c1 c2 c3 c4 c5 fC l0 l1 l2 l3 l4 l5 fL
      obtain ⟨l0, l1, l2, l3, l4, l5, fL⟩ := cells_of_layer (F9.later HI.out HF9.out hbc).1
      clear hbc
      go_wp2_with fail
      go_loopw [313] (fun i wr => ∃ k : Nat, k ≤ n ∧ i = .int .i64 k ∧ Below w9.heap.size w9 wr) (fun i _ => n - (intOf i).toNat)
      case atStart => exact ⟨0, by omega, rfl, HBC.out⟩
      case round =>
        clear l0 l1 l2 l3 l4 l5 fL hg2
        obtain ⟨k, hk, rfl, hbr⟩ := hrel
        have HBR := hidI hbr
        have HL := hidI (F9.later HI.out HF9.out hbr)
        clear hbr
        by_cases hlt : k < n
        · obtain rfl := HI.out.ha0 (by omega)
          obtain ⟨hck, hnk⟩ := HL.out.2.1 k hlt
          obtain ⟨z, hz⟩ : ∃ z, z = zs.getD k 0 := ⟨_, rfl⟩
          have hpc := HL.out.2.2 z
          obtain ⟨hz0, hz255⟩ := HI.out.hz0 k
          rw [← hz] at hck hnk hz0 hz255
          have l0 := (cells_of_layer HL.out.1).1
          have hrp := run_pool (w.heap.size + 2) (z % 3) (by omega) (by omega)
          have hwz : (IntKind.i64.wrap z).tmod 3 = z % 3 := wrap_tmod hz0 hz255 3
          have hkI : (k : Int) < (n : Int) := by omega
          have HZ := hidI hz
          clear hz HBC
          go_wp2_with fail
          go_quiet (fail)
          go_wp2
          go_roundw
          case rel => exact ⟨k + 1, by omega, by go_num, ⟨HBR.out.os, HBR.out.tape, HBR.out.output, HBR.out.size, HBR.out.block⟩⟩
          case measure => simp [intOf]; omega
        · go_wp2
          go_ret
          exact ⟨rfl, HF9.out.bel.trans (HBR.out.mono HF9.out.bel.size)⟩


end Go.Proofs.Ybulkaeu
