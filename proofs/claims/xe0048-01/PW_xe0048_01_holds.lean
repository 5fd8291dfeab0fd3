import PyProof.Rows.All
import Wide.All
import OpenK.AllK
import Wide.FinOn
import PySem.Challenge.RW_xe0048_01
open PySem PySem.W PyProof.Rows
set_option Elab.async false
set_option genInjectivity false
set_option genSizeOf false
set_option linter.all false
theorem Mine.rstHD : True := by
  w_top off
  trivial
section
open PySem PySem.W PyProof.Rows
set_option Elab.async false
set_option maxRecDepth 100000
set_option maxHeartbeats 8000000
namespace Mine
theorem law_of (h : OpenRow.Holds (OpenLaw.row PySem.Challenge.rw_xe0048_01)) : OpenLaw.Holds PySem.Challenge.rw_xe0048_01 :=
  holds_law (by kernel_rfl) fun _ => h
local macro_rules | `(tactic| o_head $H) => `(tactic| assumption)
theorem kf (h : OpenRow.Holds (OpenLaw.row PySem.Challenge.rw_xe0048_01)) : OpenRow.Holds (OpenLaw.row PySem.Challenge.rw_xe0048_01) := by
  x_head
noncomputable def vw : Program := view PySem.Challenge.pw_xe0048_01 [0, 1, 3, 4, 5, 6, 7, 9, 10, 11, 13, 14, 15, 16, 17, 19, 20, 21, 22, 23, 24, 25, 26, 27, 28]
noncomputable abbrev LS : List Str := [Str.ofString "IPV4_RE", Str.ofString "Whitespace"]
noncomputable def KA : List Addr := nat_lit 0 :: nat_lit 1 :: nat_lit 2 :: nat_lit 3 :: nat_lit 4 :: nat_lit 5 :: nat_lit 6 :: nat_lit 7 :: nat_lit 8 :: nat_lit 9 :: nat_lit 10 :: nat_lit 11 :: nat_lit 12 :: nat_lit 13 :: nat_lit 14 :: nat_lit 15 :: nat_lit 32 :: nat_lit 33 :: nat_lit 34 :: nat_lit 35 :: nat_lit 36 :: nat_lit 37 :: nat_lit 38 :: nat_lit 42 :: nat_lit 43 :: nat_lit 44 :: nat_lit 45 :: nat_lit 46 :: nat_lit 47 :: nat_lit 48 :: nat_lit 49 :: nat_lit 50 :: nat_lit 51 :: nat_lit 52 :: nat_lit 53 :: nat_lit 54 :: nat_lit 55 :: nat_lit 56 :: nat_lit 57 :: nat_lit 58 :: nat_lit 59 :: nat_lit 60 :: nat_lit 61 :: nat_lit 62 :: nat_lit 63 :: nat_lit 64 :: nat_lit 65 :: nat_lit 66 :: nat_lit 67 :: nat_lit 68 :: nat_lit 69 :: nat_lit 70 :: nat_lit 71 :: nat_lit 72 :: nat_lit 79 :: nat_lit 80 :: nat_lit 81 :: nat_lit 82 :: nat_lit 83 :: nat_lit 84 :: nat_lit 85 :: nat_lit 86 :: nat_lit 87 :: nat_lit 88 :: nat_lit 89 :: nat_lit 90 :: nat_lit 91 :: nat_lit 92 :: nat_lit 93 :: nat_lit 94 :: nat_lit 95 :: nat_lit 96 :: nat_lit 97 :: nat_lit 98 :: nat_lit 99 :: nat_lit 100 :: nat_lit 101 :: nat_lit 102 :: nat_lit 103 :: nat_lit 104 :: nat_lit 105 :: nat_lit 106 :: nat_lit 107 :: nat_lit 108 :: nat_lit 109 :: nat_lit 110 :: nat_lit 123 :: nat_lit 124 :: nat_lit 125 :: nat_lit 126 :: nat_lit 127 :: nat_lit 128 :: nat_lit 129 :: nat_lit 130 :: nat_lit 131 :: nat_lit 132 :: nat_lit 133 :: nat_lit 134 :: nat_lit 135 :: nat_lit 136 :: nat_lit 137 :: nat_lit 138 :: nat_lit 139 :: nat_lit 140 :: nat_lit 141 :: nat_lit 142 :: nat_lit 143 :: nat_lit 144 :: nat_lit 145 :: nat_lit 146 :: nat_lit 147 :: nat_lit 148 :: nat_lit 149 :: nat_lit 150 :: nat_lit 151 :: nat_lit 152 :: nat_lit 153 :: nat_lit 154 :: nat_lit 155 :: nat_lit 156 :: nat_lit 157 :: nat_lit 158 :: nat_lit 159 :: nat_lit 160 :: nat_lit 161 :: nat_lit 162 :: nat_lit 163 :: nat_lit 164 :: nat_lit 165 :: nat_lit 166 :: nat_lit 167 :: nat_lit 168 :: nat_lit 169 :: nat_lit 170 :: nat_lit 171 :: nat_lit 172 :: nat_lit 173 :: nat_lit 174 :: nat_lit 175 :: nat_lit 176 :: nat_lit 179 :: nat_lit 180 :: nat_lit 181 :: nat_lit 182 :: nat_lit 183 :: nat_lit 184 :: nat_lit 185 :: nat_lit 186 :: nat_lit 187 :: nat_lit 188 :: nat_lit 189 :: nat_lit 190 :: nat_lit 191 :: nat_lit 192 :: nat_lit 193 :: nat_lit 194 :: nat_lit 195 :: nat_lit 196 :: nat_lit 197 :: nat_lit 198 :: nat_lit 199 :: nat_lit 200 :: nat_lit 201 :: nat_lit 202 :: nat_lit 203 :: nat_lit 204 :: nat_lit 205 :: nat_lit 206 :: nat_lit 207 :: nat_lit 208 :: nat_lit 209 :: nat_lit 210 :: nat_lit 211 :: nat_lit 212 :: nat_lit 213 :: nat_lit 214 :: nat_lit 215 :: nat_lit 216 :: nat_lit 217 :: nat_lit 218 :: nat_lit 219 :: nat_lit 220 :: nat_lit 221 :: nat_lit 222 :: nat_lit 223 :: nat_lit 224 :: nat_lit 225 :: nat_lit 226 :: nat_lit 227 :: nat_lit 228 :: nat_lit 229 :: nat_lit 230 :: nat_lit 231 :: nat_lit 232 :: nat_lit 233 :: nat_lit 234 :: nat_lit 235 :: nat_lit 236 :: nat_lit 237 :: nat_lit 238 :: nat_lit 239 :: nat_lit 240 :: nat_lit 241 :: nat_lit 242 :: nat_lit 243 :: nat_lit 244 :: nat_lit 245 :: nat_lit 246 :: nat_lit 247 :: nat_lit 248 :: nat_lit 249 :: nat_lit 250 :: nat_lit 251 :: nat_lit 252 :: nat_lit 253 :: nat_lit 254 :: nat_lit 255 :: nat_lit 256 :: nat_lit 257 :: []
theorem KA_eq : ∀ P, KA = (kf.heap_1 P).map (·.1) := fun _ => by kernel_rfl
theorem left_f (w : World) : (openEnds treeTable PySem.Challenge.pw_xe0048_01 (w.withFollow "special-get-raises" false) 3118).map (fun s => (openSeen vw LS (importedModules PySem.Challenge.pw_xe0048_01.main.body) (fun s => xlAt vw [] s && recOk [] s) true s, KA.map s.heap.get?)) =
    some (openGood vw LS, (kf.heap_1 (w.withFollow "special-get-raises" false).params).map fun p => some p.2) := by
  unfold openEnds fencedOpening topFrom
  rw [PySem.W.Fast.te14364793385576792824, PySem.W.Fast.te10274390034422433532, PySem.W.Fast.te14289696077712309145, PySem.W.Fast.te1435165496053646825, PySem.W.Fast.te14082659384304107361, PySem.W.Fast.te4187177175401517315, PySem.W.Fast.te5923862056798008813]
  kernel_rfl
theorem left_t (w : World) : (openEnds treeTable PySem.Challenge.pw_xe0048_01 (w.withFollow "special-get-raises" true) 3118).map (fun s => (openSeen vw LS (importedModules PySem.Challenge.pw_xe0048_01.main.body) (fun s => xlAt vw [] s && recOk [] s) true s, KA.map s.heap.get?)) =
    some (openGood vw LS, (kf.heap_1 (w.withFollow "special-get-raises" true).params).map fun p => some p.2) := by
  unfold openEnds fencedOpening topFrom
  rw [PySem.W.Fast.te14364793385576792824, PySem.W.Fast.te10274390034422433532, PySem.W.Fast.te14289696077712309145, PySem.W.Fast.te1435165496053646825, PySem.W.Fast.te14082659384304107361, PySem.W.Fast.te4187177175401517315, PySem.W.Fast.te5923862056798008813]
  kernel_rfl
theorem left : LeftO PySem.Challenge.pw_xe0048_01 vw LS (fun s => xlAt vw [] s && recOk (RowW.records (OpenRow.toRowW (OpenLaw.row PySem.Challenge.rw_xe0048_01))) s) (Hook.obs (kHook kf.heap_1 KA KA_eq)) (Hook.val (kHook kf.heap_1 KA KA_eq)) 3118 := by
  intro w
  exact byRow2 "special-get-raises" (P := fun w => (openEnds treeTable PySem.Challenge.pw_xe0048_01 w 3118).map (fun s => (openSeen vw LS (importedModules PySem.Challenge.pw_xe0048_01.main.body) (fun s => xlAt vw [] s && recOk [] s) true s, KA.map s.heap.get?)) =
    some (openGood vw LS, (kf.heap_1 w.params).map fun p => some p.2)) left_f left_t w
noncomputable def ob (P : Params) (n : Nat) : Obj := match (kf.heap_1 P).lookup n with
  | some o => o
  | none => { cls := .none, data := .fields #[] }
/-- the head's heap without the tables that a call fills -/
noncomputable def HK (P : Params) : Frag :=
     (nat_lit 2, ob P 2) :: (nat_lit 3, ob P 3) :: (nat_lit 32, ob P 32) :: (nat_lit 34, ob P 34) :: (nat_lit 35, ob P 35) :: (nat_lit 37, ob P 37) :: (nat_lit 38, ob P 38) :: (nat_lit 42, ob P 42) ::
   (nat_lit 43, ob P 43) :: (nat_lit 44, ob P 44) :: (nat_lit 46, ob P 46) :: (nat_lit 47, ob P 47) :: (nat_lit 49, ob P 49) :: (nat_lit 50, ob P 50) :: (nat_lit 51, ob P 51) :: (nat_lit 53, ob P 53) ::
   (nat_lit 54, ob P 54) :: (nat_lit 56, ob P 56) :: (nat_lit 57, ob P 57) :: (nat_lit 58, ob P 58) :: (nat_lit 60, ob P 60) :: (nat_lit 61, ob P 61) :: (nat_lit 63, ob P 63) :: (nat_lit 64, ob P 64) ::
   (nat_lit 65, ob P 65) :: (nat_lit 67, ob P 67) :: (nat_lit 68, ob P 68) :: (nat_lit 70, ob P 70) :: (nat_lit 71, ob P 71) :: (nat_lit 72, ob P 72) :: (nat_lit 79, ob P 79) :: (nat_lit 81, ob P 81) ::
   (nat_lit 82, ob P 82) :: (nat_lit 84, ob P 84) :: (nat_lit 85, ob P 85) :: (nat_lit 86, ob P 86) :: (nat_lit 88, ob P 88) :: (nat_lit 89, ob P 89) :: (nat_lit 91, ob P 91) :: (nat_lit 92, ob P 92) ::
   (nat_lit 93, ob P 93) :: (nat_lit 95, ob P 95) :: (nat_lit 96, ob P 96) :: (nat_lit 98, ob P 98) :: (nat_lit 99, ob P 99) :: (nat_lit 100, ob P 100) :: (nat_lit 102, ob P 102) :: (nat_lit 103, ob P 103) ::
   (nat_lit 105, ob P 105) :: (nat_lit 106, ob P 106) :: (nat_lit 107, ob P 107) :: (nat_lit 108, ob P 108) :: (nat_lit 109, ob P 109) :: (nat_lit 110, ob P 110) :: (nat_lit 123, ob P 123) :: (nat_lit 125, ob P 125) ::
   (nat_lit 126, ob P 126) :: (nat_lit 128, ob P 128) :: (nat_lit 129, ob P 129) :: (nat_lit 130, ob P 130) :: (nat_lit 132, ob P 132) :: (nat_lit 133, ob P 133) :: (nat_lit 135, ob P 135) :: (nat_lit 136, ob P 136) ::
   (nat_lit 137, ob P 137) :: (nat_lit 139, ob P 139) :: (nat_lit 140, ob P 140) :: (nat_lit 142, ob P 142) :: (nat_lit 143, ob P 143) :: (nat_lit 144, ob P 144) :: (nat_lit 146, ob P 146) :: (nat_lit 147, ob P 147) ::
   (nat_lit 149, ob P 149) :: (nat_lit 150, ob P 150) :: (nat_lit 151, ob P 151) :: (nat_lit 153, ob P 153) :: (nat_lit 154, ob P 154) :: (nat_lit 156, ob P 156) :: (nat_lit 157, ob P 157) :: (nat_lit 158, ob P 158) ::
   (nat_lit 160, ob P 160) :: (nat_lit 161, ob P 161) :: (nat_lit 163, ob P 163) :: (nat_lit 164, ob P 164) :: (nat_lit 165, ob P 165) :: (nat_lit 167, ob P 167) :: (nat_lit 168, ob P 168) :: (nat_lit 170, ob P 170) ::
   (nat_lit 171, ob P 171) :: (nat_lit 172, ob P 172) :: (nat_lit 173, ob P 173) :: (nat_lit 174, ob P 174) :: (nat_lit 175, ob P 175) :: (nat_lit 176, ob P 176) :: (nat_lit 179, ob P 179) :: (nat_lit 181, ob P 181) ::
   (nat_lit 182, ob P 182) :: (nat_lit 184, ob P 184) :: (nat_lit 185, ob P 185) :: (nat_lit 186, ob P 186) :: (nat_lit 188, ob P 188) :: (nat_lit 189, ob P 189) :: (nat_lit 191, ob P 191) :: (nat_lit 192, ob P 192) ::
   (nat_lit 193, ob P 193) :: (nat_lit 195, ob P 195) :: (nat_lit 196, ob P 196) :: (nat_lit 198, ob P 198) :: (nat_lit 199, ob P 199) :: (nat_lit 200, ob P 200) :: (nat_lit 202, ob P 202) :: (nat_lit 203, ob P 203) ::
   (nat_lit 205, ob P 205) :: (nat_lit 206, ob P 206) :: (nat_lit 207, ob P 207) :: (nat_lit 210, ob P 210) :: (nat_lit 211, ob P 211) :: (nat_lit 212, ob P 212) :: (nat_lit 215, ob P 215) :: (nat_lit 216, ob P 216) ::
   (nat_lit 217, ob P 217) :: (nat_lit 219, ob P 219) :: (nat_lit 220, ob P 220) :: (nat_lit 222, ob P 222) :: (nat_lit 223, ob P 223) :: (nat_lit 224, ob P 224) :: (nat_lit 226, ob P 226) :: (nat_lit 227, ob P 227) ::
   (nat_lit 229, ob P 229) :: (nat_lit 230, ob P 230) :: (nat_lit 231, ob P 231) :: (nat_lit 234, ob P 234) :: (nat_lit 235, ob P 235) :: (nat_lit 236, ob P 236) :: (nat_lit 239, ob P 239) :: (nat_lit 240, ob P 240) ::
   (nat_lit 241, ob P 241) :: (nat_lit 243, ob P 243) :: (nat_lit 244, ob P 244) :: (nat_lit 246, ob P 246) :: (nat_lit 247, ob P 247) :: (nat_lit 248, ob P 248) :: (nat_lit 251, ob P 251) :: (nat_lit 252, ob P 252) ::
   (nat_lit 253, ob P 253) :: (nat_lit 256, ob P 256) :: (nat_lit 257, ob P 257) :: []
theorem ob_of {P : Params} {n : Nat} (h : ((kf.heap_1 P).lookup n).isSome = true) : (kf.heap_1 P).lookup n = some (ob P n) := by
  unfold ob
  split
  · assumption
  · rename_i q; rw [q] at h; cases h
end Mine
end
namespace Mine
def Lk (G g : Prop) : Prop := G → g
theorem nmG {G : Prop} (h : ∀ g : Prop, Lk G g → g) : G := h G id
theorem mcs {α : Type} {a b : α} {l : List α} (h : b ∈ a :: l) : a = b ∨ b ∈ l := (List.mem_cons.mp h).imp Eq.symm id
theorem ex1 {A1 : Type} {P : A1 → Prop} {G : Prop} (h : ∃ a1, P a1) (k : ∀ a1, P a1 → G) : G := h.elim k
theorem ex2 {A1 A2 : Type} {P : A1 → A2 → Prop} {G : Prop} (h : ∃ a1 a2, P a1 a2) (k : ∀ a1 a2, P a1 a2 → G) : G := h.elim fun a h => ex1 h (k a)
theorem ex3 {A1 A2 A3 : Type} {P : A1 → A2 → A3 → Prop} {G : Prop} (h : ∃ a1 a2 a3, P a1 a2 a3) (k : ∀ a1 a2 a3, P a1 a2 a3 → G) : G := h.elim fun a h => ex2 h (k a)
theorem ex4 {A1 A2 A3 A4 : Type} {P : A1 → A2 → A3 → A4 → Prop} {G : Prop} (h : ∃ a1 a2 a3 a4, P a1 a2 a3 a4) (k : ∀ a1 a2 a3 a4, P a1 a2 a3 a4 → G) : G := h.elim fun a h => ex3 h (k a)
theorem ex5 {A1 A2 A3 A4 A5 : Type} {P : A1 → A2 → A3 → A4 → A5 → Prop} {G : Prop} (h : ∃ a1 a2 a3 a4 a5, P a1 a2 a3 a4 a5) (k : ∀ a1 a2 a3 a4 a5, P a1 a2 a3 a4 a5 → G) : G := h.elim fun a h => ex4 h (k a)
theorem ex6 {A1 A2 A3 A4 A5 A6 : Type} {P : A1 → A2 → A3 → A4 → A5 → A6 → Prop} {G : Prop} (h : ∃ a1 a2 a3 a4 a5 a6, P a1 a2 a3 a4 a5 a6) (k : ∀ a1 a2 a3 a4 a5 a6, P a1 a2 a3 a4 a5 a6 → G) : G := h.elim fun a h => ex5 h (k a)
theorem ex7 {A1 A2 A3 A4 A5 A6 A7 : Type} {P : A1 → A2 → A3 → A4 → A5 → A6 → A7 → Prop} {G : Prop} (h : ∃ a1 a2 a3 a4 a5 a6 a7, P a1 a2 a3 a4 a5 a6 a7) (k : ∀ a1 a2 a3 a4 a5 a6 a7, P a1 a2 a3 a4 a5 a6 a7 → G) : G := h.elim fun a h => ex6 h (k a)
theorem ex8 {A1 A2 A3 A4 A5 A6 A7 A8 : Type} {P : A1 → A2 → A3 → A4 → A5 → A6 → A7 → A8 → Prop} {G : Prop} (h : ∃ a1 a2 a3 a4 a5 a6 a7 a8, P a1 a2 a3 a4 a5 a6 a7 a8) (k : ∀ a1 a2 a3 a4 a5 a6 a7 a8, P a1 a2 a3 a4 a5 a6 a7 a8 → G) : G := h.elim fun a h => ex7 h (k a)
theorem ex9 {A1 A2 A3 A4 A5 A6 A7 A8 A9 : Type} {P : A1 → A2 → A3 → A4 → A5 → A6 → A7 → A8 → A9 → Prop} {G : Prop} (h : ∃ a1 a2 a3 a4 a5 a6 a7 a8 a9, P a1 a2 a3 a4 a5 a6 a7 a8 a9) (k : ∀ a1 a2 a3 a4 a5 a6 a7 a8 a9, P a1 a2 a3 a4 a5 a6 a7 a8 a9 → G) : G := h.elim fun a h => ex8 h (k a)
theorem ex10 {A1 A2 A3 A4 A5 A6 A7 A8 A9 A10 : Type} {P : A1 → A2 → A3 → A4 → A5 → A6 → A7 → A8 → A9 → A10 → Prop} {G : Prop} (h : ∃ a1 a2 a3 a4 a5 a6 a7 a8 a9 a10, P a1 a2 a3 a4 a5 a6 a7 a8 a9 a10) (k : ∀ a1 a2 a3 a4 a5 a6 a7 a8 a9 a10, P a1 a2 a3 a4 a5 a6 a7 a8 a9 a10 → G) : G := h.elim fun a h => ex9 h (k a)
theorem ex11 {A1 A2 A3 A4 A5 A6 A7 A8 A9 A10 A11 : Type} {P : A1 → A2 → A3 → A4 → A5 → A6 → A7 → A8 → A9 → A10 → A11 → Prop} {G : Prop} (h : ∃ a1 a2 a3 a4 a5 a6 a7 a8 a9 a10 a11, P a1 a2 a3 a4 a5 a6 a7 a8 a9 a10 a11) (k : ∀ a1 a2 a3 a4 a5 a6 a7 a8 a9 a10 a11, P a1 a2 a3 a4 a5 a6 a7 a8 a9 a10 a11 → G) : G := h.elim fun a h => ex10 h (k a)
theorem ex12 {A1 A2 A3 A4 A5 A6 A7 A8 A9 A10 A11 A12 : Type} {P : A1 → A2 → A3 → A4 → A5 → A6 → A7 → A8 → A9 → A10 → A11 → A12 → Prop} {G : Prop} (h : ∃ a1 a2 a3 a4 a5 a6 a7 a8 a9 a10 a11 a12, P a1 a2 a3 a4 a5 a6 a7 a8 a9 a10 a11 a12) (k : ∀ a1 a2 a3 a4 a5 a6 a7 a8 a9 a10 a11 a12, P a1 a2 a3 a4 a5 a6 a7 a8 a9 a10 a11 a12 → G) : G := h.elim fun a h => ex11 h (k a)
theorem ex13 {A1 A2 A3 A4 A5 A6 A7 A8 A9 A10 A11 A12 A13 : Type} {P : A1 → A2 → A3 → A4 → A5 → A6 → A7 → A8 → A9 → A10 → A11 → A12 → A13 → Prop} {G : Prop} (h : ∃ a1 a2 a3 a4 a5 a6 a7 a8 a9 a10 a11 a12 a13, P a1 a2 a3 a4 a5 a6 a7 a8 a9 a10 a11 a12 a13) (k : ∀ a1 a2 a3 a4 a5 a6 a7 a8 a9 a10 a11 a12 a13, P a1 a2 a3 a4 a5 a6 a7 a8 a9 a10 a11 a12 a13 → G) : G := h.elim fun a h => ex12 h (k a)
theorem ex14 {A1 A2 A3 A4 A5 A6 A7 A8 A9 A10 A11 A12 A13 A14 : Type} {P : A1 → A2 → A3 → A4 → A5 → A6 → A7 → A8 → A9 → A10 → A11 → A12 → A13 → A14 → Prop} {G : Prop} (h : ∃ a1 a2 a3 a4 a5 a6 a7 a8 a9 a10 a11 a12 a13 a14, P a1 a2 a3 a4 a5 a6 a7 a8 a9 a10 a11 a12 a13 a14) (k : ∀ a1 a2 a3 a4 a5 a6 a7 a8 a9 a10 a11 a12 a13 a14, P a1 a2 a3 a4 a5 a6 a7 a8 a9 a10 a11 a12 a13 a14 → G) : G := h.elim fun a h => ex13 h (k a)
theorem ex15 {A1 A2 A3 A4 A5 A6 A7 A8 A9 A10 A11 A12 A13 A14 A15 : Type} {P : A1 → A2 → A3 → A4 → A5 → A6 → A7 → A8 → A9 → A10 → A11 → A12 → A13 → A14 → A15 → Prop} {G : Prop} (h : ∃ a1 a2 a3 a4 a5 a6 a7 a8 a9 a10 a11 a12 a13 a14 a15, P a1 a2 a3 a4 a5 a6 a7 a8 a9 a10 a11 a12 a13 a14 a15) (k : ∀ a1 a2 a3 a4 a5 a6 a7 a8 a9 a10 a11 a12 a13 a14 a15, P a1 a2 a3 a4 a5 a6 a7 a8 a9 a10 a11 a12 a13 a14 a15 → G) : G := h.elim fun a h => ex14 h (k a)
theorem ex16 {A1 A2 A3 A4 A5 A6 A7 A8 A9 A10 A11 A12 A13 A14 A15 A16 : Type} {P : A1 → A2 → A3 → A4 → A5 → A6 → A7 → A8 → A9 → A10 → A11 → A12 → A13 → A14 → A15 → A16 → Prop} {G : Prop} (h : ∃ a1 a2 a3 a4 a5 a6 a7 a8 a9 a10 a11 a12 a13 a14 a15 a16, P a1 a2 a3 a4 a5 a6 a7 a8 a9 a10 a11 a12 a13 a14 a15 a16) (k : ∀ a1 a2 a3 a4 a5 a6 a7 a8 a9 a10 a11 a12 a13 a14 a15 a16, P a1 a2 a3 a4 a5 a6 a7 a8 a9 a10 a11 a12 a13 a14 a15 a16 → G) : G := h.elim fun a h => ex15 h (k a)
theorem ex17 {A1 A2 A3 A4 A5 A6 A7 A8 A9 A10 A11 A12 A13 A14 A15 A16 A17 : Type} {P : A1 → A2 → A3 → A4 → A5 → A6 → A7 → A8 → A9 → A10 → A11 → A12 → A13 → A14 → A15 → A16 → A17 → Prop} {G : Prop} (h : ∃ a1 a2 a3 a4 a5 a6 a7 a8 a9 a10 a11 a12 a13 a14 a15 a16 a17, P a1 a2 a3 a4 a5 a6 a7 a8 a9 a10 a11 a12 a13 a14 a15 a16 a17) (k : ∀ a1 a2 a3 a4 a5 a6 a7 a8 a9 a10 a11 a12 a13 a14 a15 a16 a17, P a1 a2 a3 a4 a5 a6 a7 a8 a9 a10 a11 a12 a13 a14 a15 a16 a17 → G) : G := h.elim fun a h => ex16 h (k a)
theorem an2 {P1 P2 G : Prop} (h : P1 ∧ P2) (k : P1 → P2 → G) : G := k h.1 h.2
theorem an3 {P1 P2 P3 G : Prop} (h : P1 ∧ P2 ∧ P3) (k : P1 → P2 → P3 → G) : G := an2 h.2 (k h.1)
theorem an4 {P1 P2 P3 P4 G : Prop} (h : P1 ∧ P2 ∧ P3 ∧ P4) (k : P1 → P2 → P3 → P4 → G) : G := an3 h.2 (k h.1)
theorem an5 {P1 P2 P3 P4 P5 G : Prop} (h : P1 ∧ P2 ∧ P3 ∧ P4 ∧ P5) (k : P1 → P2 → P3 → P4 → P5 → G) : G := an4 h.2 (k h.1)
theorem an6 {P1 P2 P3 P4 P5 P6 G : Prop} (h : P1 ∧ P2 ∧ P3 ∧ P4 ∧ P5 ∧ P6) (k : P1 → P2 → P3 → P4 → P5 → P6 → G) : G := an5 h.2 (k h.1)
theorem an7 {P1 P2 P3 P4 P5 P6 P7 G : Prop} (h : P1 ∧ P2 ∧ P3 ∧ P4 ∧ P5 ∧ P6 ∧ P7) (k : P1 → P2 → P3 → P4 → P5 → P6 → P7 → G) : G := an6 h.2 (k h.1)
theorem an8 {P1 P2 P3 P4 P5 P6 P7 P8 G : Prop} (h : P1 ∧ P2 ∧ P3 ∧ P4 ∧ P5 ∧ P6 ∧ P7 ∧ P8) (k : P1 → P2 → P3 → P4 → P5 → P6 → P7 → P8 → G) : G := an7 h.2 (k h.1)
theorem an9 {P1 P2 P3 P4 P5 P6 P7 P8 P9 G : Prop} (h : P1 ∧ P2 ∧ P3 ∧ P4 ∧ P5 ∧ P6 ∧ P7 ∧ P8 ∧ P9) (k : P1 → P2 → P3 → P4 → P5 → P6 → P7 → P8 → P9 → G) : G := an8 h.2 (k h.1)
theorem an10 {P1 P2 P3 P4 P5 P6 P7 P8 P9 P10 G : Prop} (h : P1 ∧ P2 ∧ P3 ∧ P4 ∧ P5 ∧ P6 ∧ P7 ∧ P8 ∧ P9 ∧ P10) (k : P1 → P2 → P3 → P4 → P5 → P6 → P7 → P8 → P9 → P10 → G) : G := an9 h.2 (k h.1)
theorem an11 {P1 P2 P3 P4 P5 P6 P7 P8 P9 P10 P11 G : Prop} (h : P1 ∧ P2 ∧ P3 ∧ P4 ∧ P5 ∧ P6 ∧ P7 ∧ P8 ∧ P9 ∧ P10 ∧ P11) (k : P1 → P2 → P3 → P4 → P5 → P6 → P7 → P8 → P9 → P10 → P11 → G) : G := an10 h.2 (k h.1)
theorem an12 {P1 P2 P3 P4 P5 P6 P7 P8 P9 P10 P11 P12 G : Prop} (h : P1 ∧ P2 ∧ P3 ∧ P4 ∧ P5 ∧ P6 ∧ P7 ∧ P8 ∧ P9 ∧ P10 ∧ P11 ∧ P12) (k : P1 → P2 → P3 → P4 → P5 → P6 → P7 → P8 → P9 → P10 → P11 → P12 → G) : G := an11 h.2 (k h.1)
theorem exi4 {A1 A2 A3 A4 : Type} {P : A1 → A2 → A3 → A4 → Prop} (a1 : A1) (a2 : A2) (a3 : A3) (a4 : A4) (h : P a1 a2 a3 a4) : ∃ a1 a2 a3 a4, P a1 a2 a3 a4 := ⟨a1, a2, a3, a4, h⟩
theorem exi5 {A1 A2 A3 A4 A5 : Type} {P : A1 → A2 → A3 → A4 → A5 → Prop} (a1 : A1) (a2 : A2) (a3 : A3) (a4 : A4) (a5 : A5) (h : P a1 a2 a3 a4 a5) : ∃ a1 a2 a3 a4 a5, P a1 a2 a3 a4 a5 := ⟨a1, exi4 a2 a3 a4 a5 h⟩
theorem exi6 {A1 A2 A3 A4 A5 A6 : Type} {P : A1 → A2 → A3 → A4 → A5 → A6 → Prop} (a1 : A1) (a2 : A2) (a3 : A3) (a4 : A4) (a5 : A5) (a6 : A6) (h : P a1 a2 a3 a4 a5 a6) : ∃ a1 a2 a3 a4 a5 a6, P a1 a2 a3 a4 a5 a6 := ⟨a1, exi5 a2 a3 a4 a5 a6 h⟩
theorem exi7 {A1 A2 A3 A4 A5 A6 A7 : Type} {P : A1 → A2 → A3 → A4 → A5 → A6 → A7 → Prop} (a1 : A1) (a2 : A2) (a3 : A3) (a4 : A4) (a5 : A5) (a6 : A6) (a7 : A7) (h : P a1 a2 a3 a4 a5 a6 a7) : ∃ a1 a2 a3 a4 a5 a6 a7, P a1 a2 a3 a4 a5 a6 a7 := ⟨a1, exi6 a2 a3 a4 a5 a6 a7 h⟩
theorem exi8 {A1 A2 A3 A4 A5 A6 A7 A8 : Type} {P : A1 → A2 → A3 → A4 → A5 → A6 → A7 → A8 → Prop} (a1 : A1) (a2 : A2) (a3 : A3) (a4 : A4) (a5 : A5) (a6 : A6) (a7 : A7) (a8 : A8) (h : P a1 a2 a3 a4 a5 a6 a7 a8) : ∃ a1 a2 a3 a4 a5 a6 a7 a8, P a1 a2 a3 a4 a5 a6 a7 a8 := ⟨a1, exi7 a2 a3 a4 a5 a6 a7 a8 h⟩
theorem exi9 {A1 A2 A3 A4 A5 A6 A7 A8 A9 : Type} {P : A1 → A2 → A3 → A4 → A5 → A6 → A7 → A8 → A9 → Prop} (a1 : A1) (a2 : A2) (a3 : A3) (a4 : A4) (a5 : A5) (a6 : A6) (a7 : A7) (a8 : A8) (a9 : A9) (h : P a1 a2 a3 a4 a5 a6 a7 a8 a9) : ∃ a1 a2 a3 a4 a5 a6 a7 a8 a9, P a1 a2 a3 a4 a5 a6 a7 a8 a9 := ⟨a1, exi8 a2 a3 a4 a5 a6 a7 a8 a9 h⟩
theorem exi10 {A1 A2 A3 A4 A5 A6 A7 A8 A9 A10 : Type} {P : A1 → A2 → A3 → A4 → A5 → A6 → A7 → A8 → A9 → A10 → Prop} (a1 : A1) (a2 : A2) (a3 : A3) (a4 : A4) (a5 : A5) (a6 : A6) (a7 : A7) (a8 : A8) (a9 : A9) (a10 : A10) (h : P a1 a2 a3 a4 a5 a6 a7 a8 a9 a10) : ∃ a1 a2 a3 a4 a5 a6 a7 a8 a9 a10, P a1 a2 a3 a4 a5 a6 a7 a8 a9 a10 := ⟨a1, exi9 a2 a3 a4 a5 a6 a7 a8 a9 a10 h⟩
theorem exi11 {A1 A2 A3 A4 A5 A6 A7 A8 A9 A10 A11 : Type} {P : A1 → A2 → A3 → A4 → A5 → A6 → A7 → A8 → A9 → A10 → A11 → Prop} (a1 : A1) (a2 : A2) (a3 : A3) (a4 : A4) (a5 : A5) (a6 : A6) (a7 : A7) (a8 : A8) (a9 : A9) (a10 : A10) (a11 : A11) (h : P a1 a2 a3 a4 a5 a6 a7 a8 a9 a10 a11) : ∃ a1 a2 a3 a4 a5 a6 a7 a8 a9 a10 a11, P a1 a2 a3 a4 a5 a6 a7 a8 a9 a10 a11 := ⟨a1, exi10 a2 a3 a4 a5 a6 a7 a8 a9 a10 a11 h⟩
end Mine
theorem Mine.rstCT : True := by
  w_top off
  trivial
section
open PySem PySem.W PyProof.Rows PySem.Calls PySem.Spec
set_option Elab.async false
set_option maxRecDepth 100000
namespace Mine
noncomputable abbrev PR : Program := PySem.Challenge.rw_xe0048_01.row.prog
noncomputable abbrev VW := vw
noncomputable abbrev LO : List Str := looseW vw [Str.ofString "IPV4_RE", Str.ofString "Whitespace"]
noncomputable abbrev KK (w : World) : Frag := HK w.params
end Mine
end
theorem Mine.rstB0 : True := by
  w_top off
  trivial
section
open PySem PySem.W PyProof.Rows PySem.Calls PySem.Spec
set_option Elab.async false
set_option maxRecDepth 100000
set_option maxHeartbeats 8000000
namespace Mine
noncomputable abbrev LOE : List Str := looseW vw [Str.ofString "IPV4_RE", Str.ofString "Whitespace"] ++ (recsOf vw).map (·.name) ++ (litsOf vw).map (·.1) ++ (clssOf vw (looseW vw [Str.ofString "IPV4_RE", Str.ofString "Whitespace"])).map (·.name)
structure At (w : World) (mean : ExcName → Option Value) (mg mb : Str → Option Value) (kd dp un : Nat) (cs : Scope) (outer : List Env) (A₀ : Around) (base h₀ : Heap) (L : Addr) (m : Str → Option Value) (news : List (Addr × Obj)) (h : Heap) : Prop where
  B : Below A₀ base outer h₀
  F : Fr h₀ L h m
  X : (HK w.params).In h₀
  N : News h₀ L h news
  T : Top topProg LOE mean mg mb h₀
  kf : cs.kind = .function
  d : dp + kd < recursionLimit
  u : un + 8 * kd + 200 < cLine
section
variable {prog : Program} {w : World} {A : Around} {E : Value → Shared → Prop} {s : Shared} {Q : Value → Shared → Prop}
theorem mlen_tup {t : Addr} {vs : List Value} {cnt : List Int} (ht : IsTup s.heap t vs.toArray) (hi : IntsAre vs cnt) (hl : cnt.length ≤ 1000) (h : Q (.int cnt.length (s.toks + 1)) { s with toks := s.toks + 1 + 1 }) :
    wpAny (model prog w) A (call (.builtin "len") [.ref t]) Q E s := by
  have e : vs.toArray.size = cnt.length := by rw [List.size_toArray]; exact hi.length
  exact len_tuple ht (by rw [e]; omega) (by rw [e]; exact h)
end
theorem allLt_ne {a : Addr} : ∀ {news : List (Addr × Obj)}, AllLt a news → ∀ p ∈ news, p.1 ≠ a
  | [], _, _, hp => (nomatch hp)
  | q :: r, h, p, hp => by
    rcases mcs hp with rfl | hp
    · exact Nat.ne_of_lt h.1
    · exact allLt_ne h.2 p hp
theorem news_sub {h₀ h : Heap} {L : Addr} {a b : List (Addr × Obj)} (N : News h₀ L h a) (hs : b ⊆ a) : News h₀ L h b := fun p hp => N p (hs hp)
noncomputable def Hold (P : Prop) : Prop := P
theorem hold {P : Prop} (h : Hold P) : P := h
section
variable {prog : Program} {w : World} {A : Around} {E : Value → Shared → Prop} {s : Shared} {Q : Value → Shared → Prop}
theorem getD_val {vs : List Value} {cnt : List Int} (hi : IntsAre vs cnt) {k : Nat} (hk : k < cnt.length) : ∃ t, vs[k]? = some (.int (cnt.getD k 0) t) := by
  obtain ⟨t, ht⟩ := hi.get k (cnt.getD k 0) (by simp [List.getD_eq_getElem?_getD, hk])
  exact ⟨t, ht⟩
theorem seqIndex_nat {k : Int} {n : Nat} (h0 : 0 ≤ k) (hk : k < n) : seqIndex? k n = some k.toNat := by
  have h1 : ¬ k < 0 := by omega
  have h2 : (decide (0 ≤ k) && decide (k < (n : Int))) = true := by simp [h0, hk]
  simp only [seqIndex?, h1, if_false, h2, if_true]
theorem mmul {a b : Int} {t u : Tok} (ha : -(2 ^ 40) ≤ a ∧ a ≤ 2 ^ 40) (hb : -(2 ^ 40) ≤ b ∧ b ≤ 2 ^ 40) (h : Q (.int (a * b) s.toks) { s with toks := s.toks + 1 }) : wpAny (model prog w) A (binaryOp .Mult (.int a t) (.int b u)) Q E s :=
  PyProof.Rows.mul_int h (PyProof.Rows.mulOk_of_bits (m := 64) (n := 64) (intBits_le_64 (by omega) (by omega)) (intBits_le_64 (by omega) (by omega)) (by decide))
theorem fdiv_bd {a b : Int} (ha : 0 ≤ a) (hb : 0 < b) : 0 ≤ a.fdiv b ∧ a.fdiv b ≤ a := by
  rw [Int.fdiv_eq_ediv_of_nonneg _ (by omega)]
  exact ⟨Int.ediv_nonneg ha (by omega), Int.ediv_le_self _ ha⟩
theorem getD_bd {cnt : List Int} {M : Int} (h : ∀ c ∈ cnt, 0 ≤ c ∧ c ≤ M) (hM : 0 ≤ M) (k : Nat) : 0 ≤ cnt.getD k 0 ∧ cnt.getD k 0 ≤ M := by
  rw [List.getD_eq_getElem?_getD]
  cases e : cnt[k]? with
  | none => exact ⟨Int.le_refl _, hM⟩
  | some c => exact h c (List.mem_of_getElem? e)
/-- an item of a tuple of ints at a place that is not written -/
theorem mitem_tup {value slice : Expr} {t : Addr} {vs : List Value} {cnt : List Int} {k : Int} {u : Tok} (ht : IsTup s.heap t vs.toArray) (hi : IntsAre vs cnt) (h0 : 0 ≤ k) (hk : k < cnt.length) (hl : cnt.length ≤ 1000)
    (h : ∀ t, Q (.int (cnt.getD k.toNat 0) t) s)
    (hs : subscripted slice false (.ref t) (.int k u) = operate [.ref t, .int k u] (getItem (.ref t) (.int k u)) := by with_unfolding_all rfl) :
    wpAny (model prog w) A (subscriptTail value slice (.ref t) (.int k u)) Q E s := by
  obtain ⟨tk, e⟩ := getD_val hi (k := k.toNat) (by omega)
  have hl' := hi.length
  exact item_tupleT (l := vs) ht (by omega) (by omega) (seqIndex_nat h0 (by omega)) e (h tk) hs
end
end Mine
end
theorem Mine.rstL0 : True := by
  w_top off
  trivial
section
open PySem PySem.W PyProof.Rows PySem.Calls PySem.Spec PyProof.V
set_option Elab.async false
set_option maxRecDepth 100000
set_option maxHeartbeats 4000000
namespace Mine
/-- no iterator -/
noncomputable def NotIt (o : Obj) : Prop := (∃ v, o.data = .cell v) ∨ o.cls ≠ .type "range_iterator" ∧ o.cls ≠ .type "list_iterator" ∧ o.cls ≠ .type "str_ascii_iterator" ∧ o.cls ≠ .type "str_iterator" ∧ o.cls ≠ .type "dict_keyiterator" ∧ o.cls ≠ .type "tuple_iterator"
noncomputable def TP {σ : Type} (h₀ : Heap) (L : Addr) (own : List (Addr × Obj)) (ps : σ → List (Str × Value)) (J Jd : σ → List (Addr × Obj) → Prop) (s₁ : Shared) (Q : Flow → Shared → Prop) (f : Flow) (s₂ : Shared) : Prop :=
  match f with
  | .ret v => Q (.ret v) s₂
  | .brk => ∃ h' tk m' n' c', s₂ = { s₁ with heap := h', toks := tk } ∧ Fr h₀ L h' m' ∧ News h₀ L h' n' ∧ (∀ p ∈ own, p ∈ n') ∧ (∀ p ∈ ps c', m' p.1 = some p.2) ∧ Jd c' n'
  | _ => ∃ h' tk m' n' c', s₂ = { s₁ with heap := h', toks := tk } ∧ Fr h₀ L h' m' ∧ News h₀ L h' n' ∧ (∀ p ∈ own, p ∈ n') ∧ (∀ p ∈ ps c', m' p.1 = some p.2) ∧ J c' n'
theorem TP.next {σ : Type} {h₀ : Heap} {L : Addr} {own : List (Addr × Obj)} {ps : σ → List (Str × Value)} {J Jd : σ → List (Addr × Obj) → Prop} {s₁ : Shared} {Q : Flow → Shared → Prop} {h' : Heap} {tk : Nat} {m' : Str → Option Value} {n' : List (Addr × Obj)} (c' : σ)
    (F : Fr h₀ L h' m') (N : News h₀ L h' n') (ho : ∀ p ∈ own, p ∈ n') (hp : ∀ p ∈ ps c', m' p.1 = some p.2) (hJ : J c' n') : TP h₀ L own ps J Jd s₁ Q .next { s₁ with heap := h', toks := tk } :=
  ⟨h', tk, m', n', c', rfl, F, N, ho, hp, hJ⟩
theorem TP.cont {σ : Type} {h₀ : Heap} {L : Addr} {own : List (Addr × Obj)} {ps : σ → List (Str × Value)} {J Jd : σ → List (Addr × Obj) → Prop} {s₁ : Shared} {Q : Flow → Shared → Prop} {h' : Heap} {tk : Nat} {m' : Str → Option Value} {n' : List (Addr × Obj)} (c' : σ)
    (F : Fr h₀ L h' m') (N : News h₀ L h' n') (ho : ∀ p ∈ own, p ∈ n') (hp : ∀ p ∈ ps c', m' p.1 = some p.2) (hJ : J c' n') : TP h₀ L own ps J Jd s₁ Q .cont { s₁ with heap := h', toks := tk } :=
  ⟨h', tk, m', n', c', rfl, F, N, ho, hp, hJ⟩
theorem TP.ret {σ : Type} {h₀ : Heap} {L : Addr} {own : List (Addr × Obj)} {ps : σ → List (Str × Value)} {J Jd : σ → List (Addr × Obj) → Prop} {s₁ s₂ : Shared} {Q : Flow → Shared → Prop} {v : Value} (h : Q (.ret v) s₂) : TP h₀ L own ps J Jd s₁ Q (.ret v) s₂ := h
theorem TP.brk {σ : Type} {h₀ : Heap} {L : Addr} {own : List (Addr × Obj)} {ps : σ → List (Str × Value)} {J Jd : σ → List (Addr × Obj) → Prop} {s₁ : Shared} {Q : Flow → Shared → Prop} {h' : Heap} {tk : Nat} {m' : Str → Option Value} {n' : List (Addr × Obj)} (c' : σ)
    (F : Fr h₀ L h' m') (N : News h₀ L h' n') (ho : ∀ p ∈ own, p ∈ n') (hp : ∀ p ∈ ps c', m' p.1 = some p.2) (hJ : Jd c' n') : TP h₀ L own ps J Jd s₁ Q .brk { s₁ with heap := h', toks := tk } :=
  ⟨h', tk, m', n', c', rfl, F, N, ho, hp, hJ⟩
theorem kstB_self {m : Str → Option Value} {ps : List (Str × Value)} (h : ∀ p ∈ ps, m p.1 = some p.2) : kstB m ps = m := by
  funext z
  exact kstB_eq h (fun _ => rfl)
theorem fr_map {h₀ h : Heap} {L : Addr} {m m' : Str → Option Value} (F : Fr h₀ L h m) (e : m' = m) : Fr h₀ L h m' := e ▸ F
section
variable {prog : Program} {w : World} {A : Around} {E : Value → Shared → Prop} {s : Shared} {env : Env} {h₀ : Heap} {x : Str} {body : List Stmt} {Q : Flow → Shared → Prop}
theorem mloop {σ : Type} {I : Addr} {fp : List Addr} {n : Nat} {P : Nat → Value → Prop} {St : Nat → Heap → Prop} {m₀ : Str → Option Value} {news : List (Addr × Obj)} (keep : List (Addr × Obj)) (ps : σ → List (Str × Value)) (J : Nat → σ → List (Addr × Obj) → Prop) (Jd : σ → List (Addr × Obj) → Prop) (c₀ : σ)
    (W : Walks prog w A I fp [I] n P St) (hLf : env.locals ∉ fp) (hI : h₀.get? I = none) (hIf : I ∈ fp) (hit : ∀ i h, St i h → ∃ o, h.get? I = some o ∧ ¬ NotIt o) (hlow : ∀ p ∈ news, p.1 ≠ I)
    (mono : ∀ i c n n', (∀ p ∈ n, NotIt p.2 → p ∈ n') → J i c n → J i c n') (hkeep : ∀ p ∈ keep, p ∈ news)
    (hst : St 0 s.heap) (F : Fr h₀ env.locals s.heap m₀) (N : News h₀ env.locals s.heap news) (hk : ∀ p ∈ ps c₀, m₀ p.1 = some p.2) (hj : J 0 c₀ news)
    (turn : ∀ i v c u nn ok h tk, i < n → P i v → (∀ p ∈ keep, p ∈ ok) → (∀ p ∈ ok, p ∈ nn) → (∀ p ∈ ok, p ∈ keep ∨ ¬ NotIt p.2 ∨ (p.1 ∈ fp ∧ p.1 ≠ I)) → J i c nn → Fr h₀ env.locals h (kstB u ((x, v) :: ps c)) → News h₀ env.locals h nn →
      wpAny (model prog w) A (execs body env) (TP h₀ env.locals ok ps (J (i + 1)) Jd { s with heap := h, toks := tk } Q) E { s with heap := h, toks := tk })
    (hJd : ∀ c nn, J n c nn → Jd c nn)
    (done : ∀ c u nn h tk, (∀ p ∈ keep, p ∈ nn) → Jd c nn → Fr h₀ env.locals h (kstB u (ps c)) → News h₀ env.locals h nn → Q .next { s with heap := h, toks := tk }) (hx0 : ∀ c, ((ps c).all fun p => decide (p.1 ≠ x)) = true) :
    LoopAtV prog w A h₀ env x body Q E (.ref I) s := by
  have hx : ∀ c, ∀ p ∈ ps c, p.1 ≠ x := fun c p hp => of_decide_eq_true (List.all_eq_true.mp (hx0 c) p hp)
  let J' : Nat → (Str → Option Value) → List (Addr × Obj) → Prop := fun i m₁ n₁ => ∃ c, (∀ p ∈ keep, p ∈ n₁) ∧ (∀ p ∈ ps c, m₁ p.1 = some p.2) ∧ J i c n₁
  have keepN : ∀ {h : Heap} {n₁ : List (Addr × Obj)} {o : Obj}, News h₀ env.locals h n₁ → h.get? I = some o → ¬ NotIt o → ∀ p ∈ n₁, NotIt p.2 → p ∈ n₁.filter (fun p => p.1 != I) := by
    intro h n₁ o N₁ ho hn p hp hq
    refine List.mem_filter.mpr ⟨hp, ?_⟩
    simp only [bne_iff_ne, ne_eq]
    intro e
    have := (N₁ p hp).1
    rw [e, ho] at this
    exact hn (Option.some.inj this ▸ hq)
  have keepK : ∀ {n₁ : List (Addr × Obj)}, (∀ p ∈ keep, p ∈ n₁) → ∀ p ∈ keep, p ∈ n₁.filter (fun p => p.1 != I) := by
    intro n₁ hn p hp
    refine List.mem_filter.mpr ⟨hn p hp, ?_⟩
    simp only [bne_iff_ne, ne_eq]
    exact hlow p (hkeep p hp)
  refine nmG fun gG9 kG9 => ?_
  obtain ⟨o0, ho0, hn0⟩ := hit 0 s.heap hst
  refine kG9 ?_
  clear kG9 gG9
  refine (exi9 I fp [I] n P St m₀ (news.filter (fun p => p.1 != I)) J' ⟨rfl, W, hLf, ?_, ?_, hst, F, ?_, ⟨c₀, keepK hkeep, hk, mono _ _ _ _ (keepN N ho0 hn0) hj⟩, ?_, ?_⟩)
  · intro b hb
    rw [List.mem_singleton.mp hb]; exact hI
  · intro p hp hq
    have := (List.mem_filter.mp hp).2
    simp only [bne_iff_ne, ne_eq] at this
    exact this (List.mem_singleton.mp hq)
  · intro p hp
    exact N p (List.mem_filter.mp hp).1
  · rintro i v m₁ n₁ s₁ own ⟨hh', tk', rfl⟩ hin hP hz9
    refine nmG fun gG9 kG9 => ?_
    obtain ⟨c, hkp, hm, hJ⟩ := hz9
    refine kG9 ?_
    clear kG9 gG9
    intro _ hown' _ hown hst' F₁ N₁
    refine nmG fun gG9 kG9 => ?_
    obtain ⟨oI, hoI, hnI⟩ := hit _ _ hst'
    refine kG9 ?_
    clear kG9 gG9
    have hIown : (I, oI) ∈ own := hown I hIf hI oI hoI
    have hm' : ∀ p ∈ (x, v) :: ps c, (fun y => if y = x then some v else m₁ y) p.1 = some p.2 := by
      intro p hp
      rcases mcs hp with rfl | hp
      · simp
      · show (if p.1 = x then some v else m₁ p.1) = some p.2
        rw [if_neg (hx c p hp)]
        exact hm p hp
    refine wpAny_mono (turn i v c _ (own ++ n₁) (own ++ keep) hh' tk' hin hP (fun p hp => List.mem_append_right _ hp) ?_ ?_ (mono _ _ _ _ (fun p hp _ => List.mem_append_right _ hp) hJ) (fr_map F₁ (kstB_self hm')) N₁) (fun f s₂ p => ?_) fun _ _ e => e
    · intro p hp
      rcases List.mem_append.mp hp with hp | hp
      · exact List.mem_append_left _ hp
      · exact List.mem_append_right _ (hkp p hp)
    · intro p hp
      rcases List.mem_append.mp hp with hp | hp
      · by_cases e : p.1 = I
        · have h1 := (N₁ p (List.mem_append_left _ hp)).1
          rw [e, hoI] at h1
          exact .inr (.inl (Option.some.inj h1 ▸ hnI))
        · exact .inr (.inr ⟨hown' p hp, e⟩)
      · exact .inl hp
    have fin : (∃ h' tk m' n' c', s₂ = { ({ s with heap := hh', toks := tk' } : Shared) with heap := h', toks := tk } ∧ Fr h₀ env.locals h' m' ∧ News h₀ env.locals h' n' ∧ (∀ p ∈ own ++ keep, p ∈ n') ∧ (∀ p ∈ ps c', m' p.1 = some p.2) ∧ J (i + 1) c' n') →
        LoopStepU h₀ env.locals [I] own (J' (i + 1)) { s with heap := hh', toks := tk' } .next s₂ := by
      intro hz9
      refine nmG fun gG9 kG9 => ?_
      refine ex5 (hz9) ?_
      intro h' tk m' n' c' y9w1
      refine an6 (y9w1) ?_
      intro e F' N' ho hp hJ'
      clear y9w1
      try clear hz9
      refine kG9 ?_
      clear kG9 gG9
      have hoI' : h'.get? I = some oI := (N' _ (ho _ (List.mem_append_left _ hIown))).1
      refine ⟨rfl, exi4 h' tk m' (n'.filter (fun p => p.1 != I)) ⟨e, F', ?_, ?_, c', keepK fun p hp => ho p (List.mem_append_right _ hp), hp, mono _ _ _ _ (keepN N' hoI' hnI) hJ'⟩⟩
      · intro p hp
        rcases List.mem_append.mp hp with hp | hp
        · exact N' p (ho p (List.mem_append_left _ hp))
        · exact N' p (List.mem_filter.mp hp).1
      · intro p hp hq
        have := (List.mem_filter.mp hp).2
        simp only [bne_iff_ne, ne_eq] at this
        exact this (List.mem_singleton.mp hq)
    cases f with
    | ret v => exact .ret p
    | brk =>
      refine nmG fun gG9 kG9 => ?_
      refine ex5 (p) ?_
      intro h' tk m' n' c' y9w1
      refine an6 (y9w1) ?_
      intro e F' N' ho hp hJ'
      clear y9w1
      try clear p
      refine kG9 ?_
      clear kG9 gG9
      subst e
      exact .brk (done c' _ n' h' tk (fun p hp => ho p (List.mem_append_right _ hp)) hJ' (fr_map F' (kstB_self hp)) N')
    | next => exact .next (fin p)
    | cont => exact .cont (fin p)
  · intro h' tk m' n' F' N' _ hz9
    refine nmG fun gG9 kG9 => ?_
    obtain ⟨c, hkp, hm, hJ⟩ := hz9
    refine kG9 ?_
    clear kG9 gG9
    exact done c _ n' h' tk hkp (hJd _ _ hJ) (fr_map F' (kstB_self hm)) N'
theorem low_of {L : Addr} {h : Heap} {news : List (Addr × Obj)} (N : News h₀ L h news) : ∀ p ∈ news, p.1 ≠ h.objs.size := fun p hp => Nat.ne_of_lt (Heap.lt_size (N p hp).1)
theorem mrange {σ : Type} {r : Addr} {a₀ b₀ : Int} {t₀ u₀ v₀ : Tok} {n : Nat} {m₀ : Str → Option Value} {news : List (Addr × Obj)} (keep : List (Addr × Obj)) (ps : σ → List (Str × Value)) (J : Nat → σ → List (Addr × Obj) → Prop) (c₀ : σ)
    (hh : A.handled = none) (hr : IsRange s.heap r a₀ b₀ 1 t₀ u₀ v₀) (ha : -1000000 ≤ a₀ ∧ a₀ ≤ 1000000) (hb : -1000000 ≤ b₀ ∧ b₀ ≤ 1000000) (hn : n = (b₀ - a₀).toNat)
    (mono : ∀ i c n n', (∀ p ∈ n, NotIt p.2 → p ∈ n') → J i c n → J i c n') (hkeep : ∀ p ∈ keep, p ∈ news)
    (F : Fr h₀ env.locals s.heap m₀) (N : News h₀ env.locals s.heap news) (hk : ∀ p ∈ ps c₀, m₀ p.1 = some p.2) (hj : J 0 c₀ news)
    (turn : ∀ (i : Nat) (t : Tok) c u nn ok h tk, i < n → (∀ p ∈ keep, p ∈ ok) → (∀ p ∈ ok, p ∈ nn) → (∀ p ∈ ok, p ∈ keep ∨ ¬ NotIt p.2) → J i c nn → Fr h₀ env.locals h (kstB u ((x, .int (a₀ + i) t) :: ps c)) → News h₀ env.locals h nn →
      wpAny (model prog w) A (execs body env) (TP h₀ env.locals ok ps (J (i + 1)) (J n) { s with heap := h, toks := tk } Q) E { s with heap := h, toks := tk })
    (done : ∀ c u nn h tk, (∀ p ∈ keep, p ∈ nn) → J n c nn → Fr h₀ env.locals h (kstB u (ps c)) → News h₀ env.locals h nn → Q .next { s with heap := h, toks := tk }) (hx : ∀ c, ((ps c).all fun p => decide (p.1 ≠ x)) = true) :
    wpAny (model prog w) A (pyIter (.ref r)) (fun it s₂ => LoopAtV prog w A h₀ env x body Q E it s₂) E s := by
  have hsz : Builtin.Range.rangeSize a₀ b₀ 1 = (n : Int) := by
    unfold Builtin.Range.rangeSize
    subst hn
    simp only [gt_iff_lt, Int.zero_lt_one, if_true]
    split <;> first | omega | (simp; omega)
  have hsmall : Builtin.Range.small a₀ b₀ 1 = true := by
    unfold Builtin.Range.small
    rw [hsz]
    simp only [Builtin.Range.rangeFitsLong, Bool.and_eq_true, decide_eq_true_eq, Bool.or_eq_true, beq_iff_eq]
    refine ⟨⟨⟨⟨?_, ?_⟩, ?_⟩, ?_⟩, .inr ?_⟩ <;> simp <;> omega
  refine wpAny_pyIter_range hr hsmall ?_
  have W : Walks prog w A s.heap.objs.size [s.heap.objs.size] [s.heap.objs.size] n (fun i v => ∃ t, v = .int (a₀ + i * 1) t)
      (fun i h => IsRangeIter h s.heap.objs.size (a₀ + (i : Nat) * 1) ((n : Int) - (i : Nat)) 1) := Walks.range hh _ a₀ 1 n
  refine mloop keep ps J (J n) c₀ W ?_ ?_ (List.mem_singleton.mpr rfl) ?_ (low_of N) mono hkeep ?_ (F.push _) (fun p hp => ⟨Heap.get?_push_of_some _ (N p hp).1, (N p hp).2⟩) hk hj ?_ (fun _ _ h => h) done hx
  · intro hm
    exact absurd F.ns.lt ((List.mem_singleton.mp hm) ▸ Nat.lt_irrefl _)
  · exact next_is_new F
  · intro i h st
    exact ⟨_, st, fun q => q.elim (fun ⟨_, e⟩ => by cases e) fun q => q.1 rfl⟩
  · show IsRangeIter _ _ _ _ _; rw [hsz]; simpa using Heap.get?_push_size _ rfl
  · rintro i v c u nn ok h tk hi ⟨t, rfl⟩ hko hok hok2 hJ F₁ N₁
    have e1 : a₀ + (i : Int) * 1 = a₀ + (i : Int) := by omega
    rw [e1] at F₁
    exact turn i t c u nn ok h tk hi hko hok (fun p hp => (hok2 p hp).imp_right fun q => q.elim id fun r => absurd (List.mem_singleton.mp r.1) r.2) hJ F₁ N₁
theorem mlist {σ : Type} {l : Addr} {items : Array Value} {m₀ : Str → Option Value} {news : List (Addr × Obj)} (keep : List (Addr × Obj)) (ps : σ → List (Str × Value)) (J : Nat → σ → List (Addr × Obj) → Prop) (c₀ : σ)
    (hh : A.handled = none) (hl : s.heap.IsList l items) (hlL : l ≠ env.locals)
    (mono : ∀ i c n n', (∀ p ∈ n, NotIt p.2 → p ∈ n') → J i c n → J i c n') (hkeep : ∀ p ∈ keep, p ∈ news)
    (F : Fr h₀ env.locals s.heap m₀) (N : News h₀ env.locals s.heap news) (hk : ∀ p ∈ ps c₀, m₀ p.1 = some p.2) (hj : J 0 c₀ news)
    (turn : ∀ (i : Nat) (v : Value) c u nn ok h tk, items[i]? = some v → (∀ p ∈ keep, p ∈ ok) → (∀ p ∈ ok, p ∈ nn) → (∀ p ∈ ok, p ∈ keep ∨ ¬ NotIt p.2 ∨ p.1 = l) → J i c nn → Fr h₀ env.locals h (kstB u ((x, v) :: ps c)) → News h₀ env.locals h nn →
      wpAny (model prog w) A (execs body env) (TP h₀ env.locals ok ps (J (i + 1)) (J items.size) { s with heap := h, toks := tk } Q) E { s with heap := h, toks := tk })
    (done : ∀ c u nn h tk, (∀ p ∈ keep, p ∈ nn) → J items.size c nn → Fr h₀ env.locals h (kstB u (ps c)) → News h₀ env.locals h nn → Q .next { s with heap := h, toks := tk }) (hx : ∀ c, ((ps c).all fun p => decide (p.1 ≠ x)) = true) :
    wpAny (model prog w) A (pyIter (.ref l)) (fun it s₂ => LoopAtV prog w A h₀ env x body Q E it s₂) E s := by
  refine nmG fun gG9 kG9 => ?_
  obtain ⟨ol, hol, hr⟩ := id hl
  refine kG9 ?_
  clear kG9 gG9
  have hlt := Heap.lt_size hol
  have hne : l ≠ s.heap.objs.size := Nat.ne_of_lt hlt
  refine wpAny_pyIter_list hl ?_
  have W := Walks.list (prog := prog) (w := w) hh s.heap.objs.size l hne items
  refine mloop keep ps J (J items.size) c₀ W ?_ ?_ (.head _) ?_ (low_of N) mono hkeep ⟨⟨_, Heap.get?_push_size _ rfl, rfl, rfl⟩, ⟨ol, Heap.get?_push_of_some _ hol, hr⟩⟩ (F.push _) (fun p hp => ⟨Heap.get?_push_of_some _ (N p hp).1, (N p hp).2⟩) hk hj ?_ (fun _ _ h => h) done hx
  · intro hm
    rcases List.mem_cons.mp hm with e | hm
    · exact absurd F.ns.lt (e ▸ Nat.lt_irrefl _)
    · exact hlL (List.mem_singleton.mp hm).symm
  · exact next_is_new F
  · intro i h hz9
    refine nmG fun gG9 kG9 => ?_
    obtain ⟨⟨o, ho, hc, hd⟩, _⟩ := hz9
    refine kG9 ?_
    clear kG9 gG9
    exact ⟨o, ho, fun q => q.elim (fun ⟨_, e⟩ => by rw [hd] at e; cases e) fun q => q.2.1 hc⟩
  · rintro i v c u nn ok h tk hi hv hko hok hok2 hJ F₁ N₁
    exact turn i v c u nn ok h tk hv hko hok (fun p hp => (hok2 p hp).imp_right fun q => q.imp_right fun r => by
      rcases List.mem_cons.mp r.1 with e | e
      · exact absurd e r.2
      · exact List.mem_singleton.mp e) hJ F₁ N₁
theorem mtext {σ : Type} {xt : Str} {tx : Tok} {m₀ : Str → Option Value} {news : List (Addr × Obj)} (keep : List (Addr × Obj)) (ps : σ → List (Str × Value)) (J : Nat → σ → List (Addr × Obj) → Prop) (c₀ : σ)
    (hh : A.handled = none)
    (mono : ∀ i c n n', (∀ p ∈ n, NotIt p.2 → p ∈ n') → J i c n → J i c n') (hkeep : ∀ p ∈ keep, p ∈ news)
    (F : Fr h₀ env.locals s.heap m₀) (N : News h₀ env.locals s.heap news) (hk : ∀ p ∈ ps c₀, m₀ p.1 = some p.2) (hj : J 0 c₀ news)
    (turn : ∀ (i : Nat) (k : Nat) (t : Tok) c u nn ok h tk, xt.cps[i]? = some k → (∀ p ∈ keep, p ∈ ok) → (∀ p ∈ ok, p ∈ nn) → (∀ p ∈ ok, p ∈ keep ∨ ¬ NotIt p.2) → J i c nn → Fr h₀ env.locals h (kstB u ((x, .str ⟨#[k]⟩ t) :: ps c)) → News h₀ env.locals h nn →
      wpAny (model prog w) A (execs body env) (TP h₀ env.locals ok ps (J (i + 1)) (J xt.cps.size) { s with heap := h, toks := tk } Q) E { s with heap := h, toks := tk })
    (done : ∀ c u nn h tk, (∀ p ∈ keep, p ∈ nn) → J xt.cps.size c nn → Fr h₀ env.locals h (kstB u (ps c)) → News h₀ env.locals h nn → Q .next { s with heap := h, toks := tk }) (hx : ∀ c, ((ps c).all fun p => decide (p.1 ≠ x)) = true) :
    wpAny (model prog w) A (pyIter (.str xt tx)) (fun it s₂ => LoopAtV prog w A h₀ env x body Q E it s₂) E s := by
  have hI : env.locals ∉ [s.heap.objs.size] := fun hm => absurd F.ns.lt ((List.mem_singleton.mp hm) ▸ Nat.lt_irrefl _)
  have tn : ∀ (i : Nat) (v : Value) c u nn ok h tk, i < xt.cps.size → SignAt xt i v → (∀ p ∈ keep, p ∈ ok) → (∀ p ∈ ok, p ∈ nn) → (∀ p ∈ ok, p ∈ keep ∨ ¬ NotIt p.2 ∨ (p.1 ∈ [s.heap.objs.size] ∧ p.1 ≠ s.heap.objs.size)) → J i c nn → Fr h₀ env.locals h (kstB u ((x, v) :: ps c)) → News h₀ env.locals h nn →
      wpAny (model prog w) A (execs body env) (TP h₀ env.locals ok ps (J (i + 1)) (J xt.cps.size) { s with heap := h, toks := tk } Q) E { s with heap := h, toks := tk } := by
    intro i v c u nn ok h tk hi hz9
    refine nmG fun gG9 kG9 => ?_
    obtain ⟨k, t, hk, rfl⟩ := hz9
    refine kG9 ?_
    clear kG9 gG9
    intro hko hok hok2 hJ F₁ N₁
    exact turn i k t c u nn ok h tk hk hko hok (fun p hp => (hok2 p hp).imp_right fun q => q.elim id fun r => absurd (List.mem_singleton.mp r.1) r.2) hJ F₁ N₁
  cases ha : xt.cps.all (· < 128)
  · refine wpAny_pyIter_wide ha ?_
    exact mloop keep ps J (J xt.cps.size) c₀ (Walks.strWide hh _ xt tx) hI (next_is_new F) (List.mem_singleton.mpr rfl) (fun i h ⟨o, ho, hc, hd⟩ => ⟨o, ho, fun q => q.elim (fun ⟨_, e⟩ => by rw [hd] at e; cases e) fun q => q.2.2.2.1 hc⟩) (low_of N) mono hkeep ⟨_, Heap.get?_push_size _ rfl, rfl, rfl⟩ (F.push _) (fun p hp => ⟨Heap.get?_push_of_some _ (N p hp).1, (N p hp).2⟩) hk hj tn (fun _ _ h => h) done hx
  · refine wpAny_pyIter_ascii ha ?_
    exact mloop keep ps J (J xt.cps.size) c₀ (Walks.strAscii hh _ xt tx) hI (next_is_new F) (List.mem_singleton.mpr rfl) (fun i h ⟨o, ho, hc, hd⟩ => ⟨o, ho, fun q => q.elim (fun ⟨_, e⟩ => by rw [hd] at e; cases e) fun q => q.2.2.1 hc⟩) (low_of N) mono hkeep ⟨_, Heap.get?_push_size _ rfl, rfl, rfl⟩ (F.push _) (fun p hp => ⟨Heap.get?_push_of_some _ (N p hp).1, (N p hp).2⟩) hk hj tn (fun _ _ h => h) done hx
theorem mtextB {σ : Type} {xt : Str} {tx : Tok} {m₀ : Str → Option Value} {news : List (Addr × Obj)} (keep : List (Addr × Obj)) (ps : σ → List (Str × Value)) (J : Nat → σ → List (Addr × Obj) → Prop) (Jd : σ → List (Addr × Obj) → Prop) (c₀ : σ)
    (hh : A.handled = none)
    (mono : ∀ i c n n', (∀ p ∈ n, NotIt p.2 → p ∈ n') → J i c n → J i c n') (hkeep : ∀ p ∈ keep, p ∈ news)
    (F : Fr h₀ env.locals s.heap m₀) (N : News h₀ env.locals s.heap news) (hk : ∀ p ∈ ps c₀, m₀ p.1 = some p.2) (hj : J 0 c₀ news)
    (turn : ∀ (i : Nat) (k : Nat) (t : Tok) c u nn ok h tk, xt.cps[i]? = some k → (∀ p ∈ keep, p ∈ ok) → (∀ p ∈ ok, p ∈ nn) → (∀ p ∈ ok, p ∈ keep ∨ ¬ NotIt p.2) → J i c nn → Fr h₀ env.locals h (kstB u ((x, .str ⟨#[k]⟩ t) :: ps c)) → News h₀ env.locals h nn →
      wpAny (model prog w) A (execs body env) (TP h₀ env.locals ok ps (J (i + 1)) Jd { s with heap := h, toks := tk } Q) E { s with heap := h, toks := tk })
    (hJd : ∀ c nn, J xt.cps.size c nn → Jd c nn)
    (done : ∀ c u nn h tk, (∀ p ∈ keep, p ∈ nn) → Jd c nn → Fr h₀ env.locals h (kstB u (ps c)) → News h₀ env.locals h nn → Q .next { s with heap := h, toks := tk }) (hx : ∀ c, ((ps c).all fun p => decide (p.1 ≠ x)) = true) :
    wpAny (model prog w) A (pyIter (.str xt tx)) (fun it s₂ => LoopAtV prog w A h₀ env x body Q E it s₂) E s := by
  have hI : env.locals ∉ [s.heap.objs.size] := fun hm => absurd F.ns.lt ((List.mem_singleton.mp hm) ▸ Nat.lt_irrefl _)
  have tn : ∀ (i : Nat) (v : Value) c u nn ok h tk, i < xt.cps.size → SignAt xt i v → (∀ p ∈ keep, p ∈ ok) → (∀ p ∈ ok, p ∈ nn) → (∀ p ∈ ok, p ∈ keep ∨ ¬ NotIt p.2 ∨ (p.1 ∈ [s.heap.objs.size] ∧ p.1 ≠ s.heap.objs.size)) → J i c nn → Fr h₀ env.locals h (kstB u ((x, v) :: ps c)) → News h₀ env.locals h nn →
      wpAny (model prog w) A (execs body env) (TP h₀ env.locals ok ps (J (i + 1)) Jd { s with heap := h, toks := tk } Q) E { s with heap := h, toks := tk } := by
    intro i v c u nn ok h tk hi hz9
    refine nmG fun gG9 kG9 => ?_
    obtain ⟨k, t, hk, rfl⟩ := hz9
    refine kG9 ?_
    clear kG9 gG9
    intro hko hok hok2 hJ F₁ N₁
    exact turn i k t c u nn ok h tk hk hko hok (fun p hp => (hok2 p hp).imp_right fun q => q.elim id fun r => absurd (List.mem_singleton.mp r.1) r.2) hJ F₁ N₁
  cases ha : xt.cps.all (· < 128)
  · refine wpAny_pyIter_wide ha ?_
    exact mloop keep ps J Jd c₀ (Walks.strWide hh _ xt tx) hI (next_is_new F) (List.mem_singleton.mpr rfl) (fun i h ⟨o, ho, hc, hd⟩ => ⟨o, ho, fun q => q.elim (fun ⟨_, e⟩ => by rw [hd] at e; cases e) fun q => q.2.2.2.1 hc⟩) (low_of N) mono hkeep ⟨_, Heap.get?_push_size _ rfl, rfl, rfl⟩ (F.push _) (fun p hp => ⟨Heap.get?_push_of_some _ (N p hp).1, (N p hp).2⟩) hk hj tn hJd done hx
  · refine wpAny_pyIter_ascii ha ?_
    exact mloop keep ps J Jd c₀ (Walks.strAscii hh _ xt tx) hI (next_is_new F) (List.mem_singleton.mpr rfl) (fun i h ⟨o, ho, hc, hd⟩ => ⟨o, ho, fun q => q.elim (fun ⟨_, e⟩ => by rw [hd] at e; cases e) fun q => q.2.2.1 hc⟩) (low_of N) mono hkeep ⟨_, Heap.get?_push_size _ rfl, rfl, rfl⟩ (F.push _) (fun p hp => ⟨Heap.get?_push_of_some _ (N p hp).1, (N p hp).2⟩) hk hj tn hJd done hx
theorem mdict {K : Type} [DecidableEq K] {knd : KeyKind prog w K} {σ : Type} {d : Addr} {kvs : List (K × Value)} {ep : Nat} {m₀ : Str → Option Value} {news : List (Addr × Obj)} (keep : List (Addr × Obj)) (ps : σ → List (Str × Value)) (J : Nat → σ → List (Addr × Obj) → Prop) (c₀ : σ)
    (hh : A.handled = none) (hd : (d == sysModules) = false) (hm : s.heap.DictAt knd d kvs ep) (hdL : d ≠ env.locals)
    (mono : ∀ i c n n', (∀ p ∈ n, NotIt p.2 → p ∈ n') → J i c n → J i c n') (hkeep : ∀ p ∈ keep, p ∈ news)
    (F : Fr h₀ env.locals s.heap m₀) (N : News h₀ env.locals s.heap news) (hk : ∀ p ∈ ps c₀, m₀ p.1 = some p.2) (hj : J 0 c₀ news)
    (turn : ∀ (i : Nat) (v : Value) (k : K) (y : Value) c u nn ok h tk, kvs[i]? = some (k, y) → knd.is k v = true → (∀ p ∈ keep, p ∈ ok) → (∀ p ∈ ok, p ∈ nn) → (∀ p ∈ ok, p ∈ keep ∨ ¬ NotIt p.2 ∨ p.1 = d) → J i c nn → Fr h₀ env.locals h (kstB u ((x, v) :: ps c)) → News h₀ env.locals h nn →
      wpAny (model prog w) A (execs body env) (TP h₀ env.locals ok ps (J (i + 1)) (J kvs.length) { s with heap := h, toks := tk } Q) E { s with heap := h, toks := tk })
    (done : ∀ c u nn h tk, (∀ p ∈ keep, p ∈ nn) → J kvs.length c nn → Fr h₀ env.locals h (kstB u (ps c)) → News h₀ env.locals h nn → Q .next { s with heap := h, toks := tk }) (hx : ∀ c, ((ps c).all fun p => decide (p.1 ≠ x)) = true) :
    wpAny (model prog w) A (pyIter (.ref d)) (fun it s₂ => LoopAtV prog w A h₀ env x body Q E it s₂) E s := by
  have hlt := hm.lt_size
  have hne : d ≠ s.heap.objs.size := Nat.ne_of_lt hlt
  refine wpAny_pyIter_dict hd hm ?_
  have W := Walks.dictKeys (prog := prog) (w := w) (knd := knd) hh s.heap.objs.size d hne kvs ep
  refine mloop keep ps J (J kvs.length) c₀ W ?_ ?_ (.head _) ?_ (low_of N) mono hkeep ⟨⟨_, Heap.get?_push_size _ rfl, rfl, rfl⟩, hm.push _⟩ (F.push _) (fun p hp => ⟨Heap.get?_push_of_some _ (N p hp).1, (N p hp).2⟩) hk hj ?_ (fun _ _ h => h) done hx
  · intro hm
    rcases List.mem_cons.mp hm with e | hm
    · exact absurd F.ns.lt (e ▸ Nat.lt_irrefl _)
    · exact hdL (List.mem_singleton.mp hm).symm
  · exact next_is_new F
  · intro i h hz9
    refine nmG fun gG9 kG9 => ?_
    obtain ⟨⟨o, ho, hc, hd⟩, _⟩ := hz9
    refine kG9 ?_
    clear kG9 gG9
    exact ⟨o, ho, fun q => q.elim (fun ⟨_, e⟩ => by rw [hd] at e; cases e) fun q => q.2.2.2.2.1 hc⟩
  · intro i v c u nn ok h tk hi hz9
    refine nmG fun gG9 kG9 => ?_
    obtain ⟨k, y, hv, hk'⟩ := hz9
    refine kG9 ?_
    clear kG9 gG9
    intro hko hok hok2 hJ F₁ N₁
    exact turn i v k y c u nn ok h tk hv hk' hko hok (fun p hp => (hok2 p hp).imp_right fun q => q.imp_right fun r => by
      rcases List.mem_cons.mp r.1 with e | e
      · exact absurd e r.2
      · exact List.mem_singleton.mp e) hJ F₁ N₁
end
end Mine
end
theorem Mine.rstE0 : True := by
  w_top off
  trivial
section
open PySem PySem.W PyProof.Rows PySem.Calls PySem.Spec
set_option Elab.async false
set_option maxRecDepth 100000
set_option maxHeartbeats 8000000
namespace Mine
structure V0 where
  (w : World) (mean : ExcName → Option Value) (mg mb : Str → Option Value) (dp un : Nat) (gd : Option (List Code)) (cn : Str) (cs : Scope) (a : Addr) (ccd : Value) (cl : List (Str × Addr)) (outer : List Env) (A₀ : Around) (base h₀ : Heap) (L : Addr) (m : Str → Option Value) (s : Shared) (Q E : Value → Shared → Prop) (news : List (Addr × Obj))
/-- a lid: whnf stops at it -/
structure Bx (P : Prop) : Prop where
  out : P
theorem ne_V0 : Nonempty V0 := ⟨⟨aWorld 1, fun _ => none, fun _ => none, fun _ => none, 0, 0, none, default, default, 0, default, [], [], {}, default, default, 0, fun _ => none, {}, fun _ _ => True, fun _ _ => True, []⟩⟩
theorem dr {α : Type} (ne : Nonempty α) (P : α → Prop) : ∃ c, P c → ∀ x, P x := by
  by_cases h : ∀ x, P x
  · exact ne.elim fun a => ⟨a, fun _ => h⟩
  · obtain ⟨c, hc⟩ := Classical.not_forall.mp h
    exact ⟨c, fun k => absurd k hc⟩
noncomputable def pk {α : Type} (ne : Nonempty α) (P : α → Prop) : α := Classical.choose (dr ne P)
theorem pk_all {α : Type} {ne : Nonempty α} {P : α → Prop} (h : P (pk ne P)) : ∀ x, P x := Classical.choose_spec (dr ne P) h
theorem tup3 {α β γ : Type} (a : α) (b : β) (c : γ) : ∃ v : α × β × γ, v.1 = a ∧ v.2.1 = b ∧ v.2.2 = c := ⟨(a, b, c), rfl, rfl, rfl⟩
theorem ne_V {A : Type} (h : Nonempty A) : Nonempty (V0 × A) := ne_V0.elim fun a => h.elim fun b => ⟨(a, b)⟩
theorem pk_all3 {α β γ : Type} {ne : Nonempty (α × β × γ)} {R : α → β → γ → Prop} {a : α} {b : β} {c : γ} (ha : a = (pk ne fun v => R v.1 v.2.1 v.2.2).1) (hb : b = (pk ne fun v => R v.1 v.2.1 v.2.2).2.1) (hc : c = (pk ne fun v => R v.1 v.2.1 v.2.2).2.2) (h : R a b c) : ∀ a b c, R a b c := by
  subst ha hb hc
  exact fun a b c => pk_all (P := fun v : α × β × γ => R v.1 v.2.1 v.2.2) h (a, b, c)
theorem pk_all4 {α β γ δ : Type} {ne : Nonempty (α × β × γ × δ)} {R : α → β → γ → δ → Prop} {a : α} {b : β} {c : γ} {d : δ} (ha : a = (pk ne fun v => R v.1 v.2.1 v.2.2.1 v.2.2.2).1) (hb : b = (pk ne fun v => R v.1 v.2.1 v.2.2.1 v.2.2.2).2.1) (hc : c = (pk ne fun v => R v.1 v.2.1 v.2.2.1 v.2.2.2).2.2.1) (hd : d = (pk ne fun v => R v.1 v.2.1 v.2.2.1 v.2.2.2).2.2.2) (h : R a b c d) : ∀ a b c d, R a b c d := by
  subst ha hb hc hd
  exact fun a b c d => pk_all (P := fun v : α × β × γ × δ => R v.1 v.2.1 v.2.2.1 v.2.2.2) h (a, b, c, d)
end Mine
end
local macro_rules | `(tactic| walk_at $s:str) => `(tactic| k_extra $s)
theorem Mine.rstB1 : True := by
  w_top off
  trivial
section
open PySem PySem.W PyProof.Rows PySem.Calls PySem.Spec
set_option Elab.async false
set_option maxRecDepth 100000
set_option maxHeartbeats 8000000
namespace Mine
noncomputable def lvF (ts : Int) (cnt : List Int) (i : Nat) : Int := (List.range i).foldl (fun il (j : Nat) => il + (ts + j).fdiv ts * cnt.getD (ts + j).toNat 0) 0
theorem lvF_succ (ts : Int) (cnt : List Int) (i : Nat) : lvF ts cnt (i + 1) = lvF ts cnt i + (ts + i).fdiv ts * cnt.getD (ts + i).toNat 0 := by
  unfold lvF
  rw [List.range_succ, List.foldl_append]
  rfl
section
variable {w : World} {mean : ExcName → Option Value} {mg mb : Str → Option Value} {dp un : Nat} {gd : Option (List Code)} {cn : Str} {cs : Scope} {a : Addr} {ccd : Value} {cl : List (Str × Addr)} {outer : List Env} {A₀ : Around} {base h₀ : Heap} {L : Addr} {m : Str → Option Value} {s : Shared} {Q E : Value → Shared → Prop} {news : List (Addr × Obj)}
theorem longest_ct (C : At w mean mg mb 1 dp un cs outer A₀ base h₀ L m news s.heap)
  {x dx tn tc : Addr} {h1 h2 h3 h4 h5 : Int} {k1 k2 k3 k4 k5 tr tt t2 tb : Tok} {raw : Str} {n nt b : Int} {vs : List Value} {cnt : List Int} {sb : Bool} {e e1 e2 : Nat}
  (m1 : (x, instObj 174 dx) ∈ news) (m2 : (dx, dictOf [⟨h1, .str "raw" k1, .str raw tr⟩, ⟨h2, .str "n" k2, .int n tt⟩, ⟨h3, .str "nt" k3, .int nt t2⟩, ⟨h4, .str "norm" k4, .ref tn⟩, ⟨h5, .str "is_simple" k5, .bool sb⟩] e) ∈ news)
  (m3 : (tn, { cls := .type "tuple", data := .seq [.ref tc, .int b tb].toArray e1 }) ∈ news) (m4 : (tc, { cls := .type "tuple", data := .seq vs.toArray e2 }) ∈ news) (hi : IntsAre vs cnt) (hl : cnt.length ≤ 50) (hb : 0 ≤ b ∧ b ≤ 50)
  (hret : ∀ (t : Tok) (h' : Heap) (tk' : Nat), Fr h₀ L h' m → News h₀ L h' news → Q (.int (max ((cnt.length : Int) - 1) b) t) { s with heap := h', toks := tk' }) :
  wpAny (model PySem.Challenge.rw_xe0048_01.row.prog w) (ktrTop dp un gd cn cs L a ccd cl outer) (call (.ref 136) [.ref x]) Q E s := by
  k_with_none
  k_with "call builtin:len" => (((with_reducible show wpAny _ _ (call (Value.builtin "len") [Value.ref _]) _ _ _); refine mlen_tup (News.isTup (by with_reducible assumption) (by k_mem)) (by assumption) (by omega) ?_))
  k_with "pyIter ref" => (refine hold ?_)
  k_with "subscriptTail" => (((with_reducible show wpAny _ _ (subscriptTail _ _ (Value.ref _) (Value.int _ _)) _ _ _); k_dflt (refine mitem_tup (News.isTup (by with_reducible assumption) (by k_mem)) (by assumption) (by omega) (by omega) (by omega) ?_); intro ti'z9))
  k_with "binaryOp Mult int int" => (refine mmul (by omega) (by omega) ?_)
  refine nmG fun gG9 kG9 => ?_
  obtain ⟨B, F, X, N, T, kf, hd, hu⟩ := C
  refine kG9 ?_
  clear kG9 gG9
  revert X
  k_fill
  intro X
  refine wpAny_call ?_
  k_dflt cell_enter
  k_steps
  exact cb_retI hret (by split <;> omega) (by assumption) (by assumption)
end
namespace Zindent_ct
noncomputable def ctS (w : World) (mean : ExcName → Option Value) (mg : Str → Option Value) (mb : Str → Option Value) (dp : Nat) (un : Nat) (gd : Option (List Code)) (cn : Str) (cs : Scope) (a : Addr) (ccd : Value) (cl : List (Str × Addr)) (outer : List Env) (A₀ : Around) (base : Heap) (h₀ : Heap) (L : Addr) (m : Str → Option Value) (s : Shared) (Q : Value → Shared → Prop) (E : Value → Shared → Prop) (news : List (Addr × Obj)) (x : Addr) (dx : Addr) (tn : Addr) (tc : Addr) (h1 : Int) (h2 : Int) (h3 : Int) (h4 : Int) (h5 : Int) (k1 : Tok) (k2 : Tok) (k3 : Tok) (k4 : Tok) (k5 : Tok) (tr : Tok) (tt : Tok) (t2 : Tok) (tb : Tok) (raw : Str) (n : Int) (nt : Int) (b : Int) (vs : List Value) (cnt : List Int) (sb : Bool) (e : Nat) (e1 : Nat) (e2 : Nat) (ts : Int) (u : Tok) : Prop := Bx (
  ∀ (C : At w mean mg mb 1 dp un cs outer A₀ base h₀ L m news s.heap) (m1 : (x, instObj 174 dx) ∈ news) (m2 : (dx, dictOf [⟨h1, .str "raw" k1, .str raw tr⟩, ⟨h2, .str "n" k2, .int n tt⟩, ⟨h3, .str "nt" k3, .int nt t2⟩, ⟨h4, .str "norm" k4, .ref tn⟩, ⟨h5, .str "is_simple" k5, .bool sb⟩] e) ∈ news) (m3 : (tn, { cls := .type "tuple", data := .seq [.ref tc, .int b tb].toArray e1 }) ∈ news) (m4 : (tc, { cls := .type "tuple", data := .seq vs.toArray e2 }) ∈ news) (hi : IntsAre vs cnt) (hl : cnt.length ≤ 50) (hb : 0 ≤ b ∧ b ≤ 50) (hc : ∀ c ∈ cnt, 0 ≤ c ∧ c ≤ 100) (hnt : 0 ≤ nt ∧ nt ≤ 100) (hts : 1 ≤ ts ∧ ts ≤ 100) (hret : ∀ (t : Tok) (h' : Heap) (tk' : Nat), Fr h₀ L h' m → News h₀ L h' news → Q (.int (b + ts * (lvF ts cnt ((cnt.length : Int) - ts).toNat + nt)) t) { s with heap := h', toks := tk' }),
  wpAny (model PySem.Challenge.rw_xe0048_01.row.prog w) (ktrTop dp un gd cn cs L a ccd cl outer) (call (.ref 143) [.ref x, .int ts u]) Q E s)
theorem ne : Nonempty (V0 × ((Addr) × (Addr) × (Addr) × (Addr) × (Int) × (Int) × (Int) × (Int) × (Int) × (Tok) × (Tok) × (Tok) × (Tok) × (Tok) × (Tok) × (Tok) × (Tok) × (Tok) × (Str) × (Int) × (Int) × (Int) × (List Value) × (List Int) × (Bool) × (Nat) × (Nat) × (Nat) × (Int) × (Tok))) := ne_V ⟨(default, default, default, default, default, default, default, default, default, default, default, default, default, default, default, default, default, default, default, default, default, default, default, default, default, default, default, default, default, default)⟩
noncomputable def ctc : V0 × ((Addr) × (Addr) × (Addr) × (Addr) × (Int) × (Int) × (Int) × (Int) × (Int) × (Tok) × (Tok) × (Tok) × (Tok) × (Tok) × (Tok) × (Tok) × (Tok) × (Tok) × (Str) × (Int) × (Int) × (Int) × (List Value) × (List Int) × (Bool) × (Nat) × (Nat) × (Nat) × (Int) × (Tok)) := pk ne fun v => ctS v.1.w v.1.mean v.1.mg v.1.mb v.1.dp v.1.un v.1.gd v.1.cn v.1.cs v.1.a v.1.ccd v.1.cl v.1.outer v.1.A₀ v.1.base v.1.h₀ v.1.L v.1.m v.1.s v.1.Q v.1.E v.1.news v.2.1 v.2.2.1 v.2.2.2.1 v.2.2.2.2.1 v.2.2.2.2.2.1 v.2.2.2.2.2.2.1 v.2.2.2.2.2.2.2.1 v.2.2.2.2.2.2.2.2.1 v.2.2.2.2.2.2.2.2.2.1 v.2.2.2.2.2.2.2.2.2.2.1 v.2.2.2.2.2.2.2.2.2.2.2.1 v.2.2.2.2.2.2.2.2.2.2.2.2.1 v.2.2.2.2.2.2.2.2.2.2.2.2.2.1 v.2.2.2.2.2.2.2.2.2.2.2.2.2.2.1 v.2.2.2.2.2.2.2.2.2.2.2.2.2.2.2.1 v.2.2.2.2.2.2.2.2.2.2.2.2.2.2.2.2.1 v.2.2.2.2.2.2.2.2.2.2.2.2.2.2.2.2.2.1 v.2.2.2.2.2.2.2.2.2.2.2.2.2.2.2.2.2.2.1 v.2.2.2.2.2.2.2.2.2.2.2.2.2.2.2.2.2.2.2.1 v.2.2.2.2.2.2.2.2.2.2.2.2.2.2.2.2.2.2.2.2.1 v.2.2.2.2.2.2.2.2.2.2.2.2.2.2.2.2.2.2.2.2.2.1 v.2.2.2.2.2.2.2.2.2.2.2.2.2.2.2.2.2.2.2.2.2.2.1 v.2.2.2.2.2.2.2.2.2.2.2.2.2.2.2.2.2.2.2.2.2.2.2.1 v.2.2.2.2.2.2.2.2.2.2.2.2.2.2.2.2.2.2.2.2.2.2.2.2.1 v.2.2.2.2.2.2.2.2.2.2.2.2.2.2.2.2.2.2.2.2.2.2.2.2.2.1 v.2.2.2.2.2.2.2.2.2.2.2.2.2.2.2.2.2.2.2.2.2.2.2.2.2.2.1 v.2.2.2.2.2.2.2.2.2.2.2.2.2.2.2.2.2.2.2.2.2.2.2.2.2.2.2.1 v.2.2.2.2.2.2.2.2.2.2.2.2.2.2.2.2.2.2.2.2.2.2.2.2.2.2.2.2.1 v.2.2.2.2.2.2.2.2.2.2.2.2.2.2.2.2.2.2.2.2.2.2.2.2.2.2.2.2.2.1 v.2.2.2.2.2.2.2.2.2.2.2.2.2.2.2.2.2.2.2.2.2.2.2.2.2.2.2.2.2.2
noncomputable def w : World := ctc.1.w
noncomputable def mean : ExcName → Option Value := ctc.1.mean
noncomputable def mg : Str → Option Value := ctc.1.mg
noncomputable def mb : Str → Option Value := ctc.1.mb
noncomputable def dp : Nat := ctc.1.dp
noncomputable def un : Nat := ctc.1.un
noncomputable def gd : Option (List Code) := ctc.1.gd
noncomputable def cn : Str := ctc.1.cn
noncomputable def cs : Scope := ctc.1.cs
noncomputable def a : Addr := ctc.1.a
noncomputable def ccd : Value := ctc.1.ccd
noncomputable def cl : List (Str × Addr) := ctc.1.cl
noncomputable def outer : List Env := ctc.1.outer
noncomputable def A₀ : Around := ctc.1.A₀
noncomputable def base : Heap := ctc.1.base
noncomputable def h₀ : Heap := ctc.1.h₀
noncomputable def L : Addr := ctc.1.L
noncomputable def m : Str → Option Value := ctc.1.m
noncomputable def s : Shared := ctc.1.s
noncomputable def Q : Value → Shared → Prop := ctc.1.Q
noncomputable def E : Value → Shared → Prop := ctc.1.E
noncomputable def news : List (Addr × Obj) := ctc.1.news
noncomputable def x : Addr := ctc.2.1
noncomputable def dx : Addr := ctc.2.2.1
noncomputable def tn : Addr := ctc.2.2.2.1
noncomputable def tc : Addr := ctc.2.2.2.2.1
noncomputable def h1 : Int := ctc.2.2.2.2.2.1
noncomputable def h2 : Int := ctc.2.2.2.2.2.2.1
noncomputable def h3 : Int := ctc.2.2.2.2.2.2.2.1
noncomputable def h4 : Int := ctc.2.2.2.2.2.2.2.2.1
noncomputable def h5 : Int := ctc.2.2.2.2.2.2.2.2.2.1
noncomputable def k1 : Tok := ctc.2.2.2.2.2.2.2.2.2.2.1
noncomputable def k2 : Tok := ctc.2.2.2.2.2.2.2.2.2.2.2.1
noncomputable def k3 : Tok := ctc.2.2.2.2.2.2.2.2.2.2.2.2.1
noncomputable def k4 : Tok := ctc.2.2.2.2.2.2.2.2.2.2.2.2.2.1
noncomputable def k5 : Tok := ctc.2.2.2.2.2.2.2.2.2.2.2.2.2.2.1
noncomputable def tr : Tok := ctc.2.2.2.2.2.2.2.2.2.2.2.2.2.2.2.1
noncomputable def tt : Tok := ctc.2.2.2.2.2.2.2.2.2.2.2.2.2.2.2.2.1
noncomputable def t2 : Tok := ctc.2.2.2.2.2.2.2.2.2.2.2.2.2.2.2.2.2.1
noncomputable def tb : Tok := ctc.2.2.2.2.2.2.2.2.2.2.2.2.2.2.2.2.2.2.1
noncomputable def raw : Str := ctc.2.2.2.2.2.2.2.2.2.2.2.2.2.2.2.2.2.2.2.1
noncomputable def n : Int := ctc.2.2.2.2.2.2.2.2.2.2.2.2.2.2.2.2.2.2.2.2.1
noncomputable def nt : Int := ctc.2.2.2.2.2.2.2.2.2.2.2.2.2.2.2.2.2.2.2.2.2.1
noncomputable def b : Int := ctc.2.2.2.2.2.2.2.2.2.2.2.2.2.2.2.2.2.2.2.2.2.2.1
noncomputable def vs : List Value := ctc.2.2.2.2.2.2.2.2.2.2.2.2.2.2.2.2.2.2.2.2.2.2.2.1
noncomputable def cnt : List Int := ctc.2.2.2.2.2.2.2.2.2.2.2.2.2.2.2.2.2.2.2.2.2.2.2.2.1
noncomputable def sb : Bool := ctc.2.2.2.2.2.2.2.2.2.2.2.2.2.2.2.2.2.2.2.2.2.2.2.2.2.1
noncomputable def e : Nat := ctc.2.2.2.2.2.2.2.2.2.2.2.2.2.2.2.2.2.2.2.2.2.2.2.2.2.2.1
noncomputable def e1 : Nat := ctc.2.2.2.2.2.2.2.2.2.2.2.2.2.2.2.2.2.2.2.2.2.2.2.2.2.2.2.1
noncomputable def e2 : Nat := ctc.2.2.2.2.2.2.2.2.2.2.2.2.2.2.2.2.2.2.2.2.2.2.2.2.2.2.2.2.1
noncomputable def ts : Int := ctc.2.2.2.2.2.2.2.2.2.2.2.2.2.2.2.2.2.2.2.2.2.2.2.2.2.2.2.2.2.1
noncomputable def u : Tok := ctc.2.2.2.2.2.2.2.2.2.2.2.2.2.2.2.2.2.2.2.2.2.2.2.2.2.2.2.2.2.2
noncomputable def ctA : (ctR : (Heap) → (Addr) → (Heap) → Prop) ×' (∀ (C : At w mean mg mb 1 dp un cs outer A₀ base h₀ L m news s.heap) (m1 : (x, instObj 174 dx) ∈ news) (m2 : (dx, dictOf [⟨h1, .str "raw" k1, .str raw tr⟩, ⟨h2, .str "n" k2, .int n tt⟩, ⟨h3, .str "nt" k3, .int nt t2⟩, ⟨h4, .str "norm" k4, .ref tn⟩, ⟨h5, .str "is_simple" k5, .bool sb⟩] e) ∈ news) (m3 : (tn, { cls := .type "tuple", data := .seq [.ref tc, .int b tb].toArray e1 }) ∈ news) (m4 : (tc, { cls := .type "tuple", data := .seq vs.toArray e2 }) ∈ news) (hi : IntsAre vs cnt) (hl : cnt.length ≤ 50) (hb : 0 ≤ b ∧ b ≤ 50) (hc : ∀ c ∈ cnt, 0 ≤ c ∧ c ≤ 100) (hnt : 0 ≤ nt ∧ nt ≤ 100) (hts : 1 ≤ ts ∧ ts ≤ 100) (hret : ∀ (t : Tok) (h' : Heap) (tk' : Nat), Fr h₀ L h' m → News h₀ L h' news → Q (.int (b + ts * (lvF ts cnt ((cnt.length : Int) - ts).toNat + nt)) t) { s with heap := h', toks := tk' }), (∀ g0 L0 h0, Bx (ctR g0 L0 h0)) → wpAny (model PySem.Challenge.rw_xe0048_01.row.prog w) (ktrTop dp un gd cn cs L a ccd cl outer) (call (.ref 143) [.ref x, .int ts u]) Q E s) := ⟨_, by
  intro C m1 m2 m3 m4 hi hl hb hc hnt hts hret ctH
  k_with_none
  refine nmG fun gG9 kG9 => ?_
  obtain ⟨B, F, X, N, T, kf, hd, hu⟩ := C
  refine kG9 ?_
  clear kG9 gG9
  revert X
  k_fill
  intro X
  refine wpAny_call ?_
  k_dflt (refine' code_def ?k1 ?k2 ?k3 ?k4 ?k5 ?kA ?kF ?kK ?k6 ?k7 ?k8 ?k9 ?kB ?_ ?c2 ?c3 ?c4 ?c5; (case kA => exact rfl); (case kF => exact rfl); (case kK => assumption); (case k1 => k_asm); (case k2 => k_asm); (case k3 => k_asm); (case k4 => k_asm); (case k5 => k_asm); (case k6 => k_is); (case k7 => k_is); (case k8 => ktr_room); (case k9 => exact BindsTo.of_eq rfl); (case c5 => decide); (case kB => exact locs rfl); (case c2 => exact rfl); (case c3 => exact rfl); (case c4 => exact rfl); k_whole; exact fun g0 L0 h0 => (ctH g0 L0 h0).out)⟩
theorem ned : Nonempty ((Heap) × (Addr) × (Heap)) := ⟨(default, default, default)⟩
noncomputable def ctd := pk ned fun v => Bx (ctA.1 v.1 v.2.1 v.2.2)
noncomputable def g0 : Heap := ctd.1
noncomputable def L0 : Addr := ctd.2.1
noncomputable def h0 : Heap := ctd.2.2
theorem ctB (C : At w mean mg mb 1 dp un cs outer A₀ base h₀ L m news s.heap) (m1 : (x, instObj 174 dx) ∈ news) (m2 : (dx, dictOf [⟨h1, .str "raw" k1, .str raw tr⟩, ⟨h2, .str "n" k2, .int n tt⟩, ⟨h3, .str "nt" k3, .int nt t2⟩, ⟨h4, .str "norm" k4, .ref tn⟩, ⟨h5, .str "is_simple" k5, .bool sb⟩] e) ∈ news) (m3 : (tn, { cls := .type "tuple", data := .seq [.ref tc, .int b tb].toArray e1 }) ∈ news) (m4 : (tc, { cls := .type "tuple", data := .seq vs.toArray e2 }) ∈ news) (hi : IntsAre vs cnt) (hl : cnt.length ≤ 50) (hb : 0 ≤ b ∧ b ≤ 50) (hc : ∀ c ∈ cnt, 0 ≤ c ∧ c ≤ 100) (hnt : 0 ≤ nt ∧ nt ≤ 100) (hts : 1 ≤ ts ∧ ts ≤ 100) (hret : ∀ (t : Tok) (h' : Heap) (tk' : Nat), Fr h₀ L h' m → News h₀ L h' news → Q (.int (b + ts * (lvF ts cnt ((cnt.length : Int) - ts).toNat + nt)) t) { s with heap := h', toks := tk' }) : Bx (ctA.1 g0 L0 h0) := by
  refine ⟨?_⟩
  dsimp only [ctA]
  k_with_none
  k_with "call builtin:len" => (((with_reducible show wpAny _ _ (call (Value.builtin "len") [Value.ref _]) _ _ _); refine mlen_tup (News.isTup (by with_reducible assumption) (by k_mem)) (by assumption) (by omega) ?_))
  k_with "pyIter ref" => (refine hold ?_)
  k_with "subscriptTail" => (((with_reducible show wpAny _ _ (subscriptTail _ _ (Value.ref _) (Value.int _ _)) _ _ _); k_dflt (refine mitem_tup (News.isTup (by with_reducible assumption) (by k_mem)) (by assumption) (by omega) (by omega) (by omega) ?_); intro ti'z9))
  k_with "binaryOp Mult int int" => (refine mmul (by omega) (by omega) ?_)
  refine nmG fun gG9 kG9 => ?_
  obtain ⟨B, F, X, N, T, kf, hd, hu⟩ := C
  refine kG9 ?_
  clear kG9 gG9
  revert X
  k_fill
  intro X
  intro FG' F' N' B' X' T'
  (try dsimp only); (try k_lift B'); (try k_fold)
  k_steps
  unfold Hold
  (with_unfolding_all refine' mrange news (fun (c : Int × Tok) => [(("self" : Str), .ref x), (("tabsize" : Str), .int ts u), (("count" : Str), .ref tc), (("trailing" : Str), .int b tb), (("il" : Str), .int c.1 c.2)]) (fun i c _ => c.1 = lvF ts cnt i ∧ 0 ≤ c.1 ∧ c.1 ≤ 20000 * (i : Int)) (0, ?tk0) (by rfl) (by assumption) (by omega) (by omega) (by rfl) ?mo (fun p hp => hp) (by assumption) (by assumption) ?hk ?hj ?turn ?done ?hx)
  case hk => kst_all
  case mo => exact fun _ _ _ _ _ h => h
  case hj => exact ⟨rfl, Int.le_refl 0, by simp⟩
  case hx => exact fun _ => rfl
  case turn =>
    rintro i t ⟨il, ti⟩ u nn ok h tk hlt hko hok - hz9
    refine nmG fun gG9 kG9 => ?_
    obtain ⟨hJ, hJ0, hJ1⟩ := hz9
    refine kG9 ?_
    clear kG9 gG9
    intro F N
    dsimp only [kstB] at F hJ hJ0 hJ1
    replace m1 := hok _ (hko _ m1)
    replace m2 := hok _ (hko _ m2)
    replace m3 := hok _ (hko _ m3)
    replace m4 := hok _ (hko _ m4)
    have hf := fdiv_bd (a := ts + i) (b := ts) (by omega) (by omega)
    have hg := getD_bd hc (by decide) (ts + i).toNat
    have hp : 0 ≤ (ts + i).fdiv ts * cnt.getD (ts + i).toNat 0 ∧ (ts + i).fdiv ts * cnt.getD (ts + i).toNat 0 ≤ 200 * 100 :=
      ⟨Int.mul_nonneg hf.1 hg.1, Int.mul_le_mul (by omega) hg.2 hg.1 (by decide)⟩
    k_steps
    exact TP.next (_, _) (by assumption) (by assumption) (by assumption) (by kst_all) ⟨by dsimp only; rw [lvF_succ, hJ], by dsimp only; omega, by dsimp only; omega⟩
  case done =>
    rintro ⟨il, ti⟩ u nn h tk hkn hz9
    refine nmG fun gG9 kG9 => ?_
    obtain ⟨hJ, hJ0, hJ1⟩ := hz9
    refine kG9 ?_
    clear kG9 gG9
    intro F N
    dsimp only [kstB, envOf] at F N hJ hJ0 hJ1
    replace m1 := hkn _ m1
    replace m2 := hkn _ m2
    k_steps
    exact cb_retI hret (by rw [hJ]) (by assumption) (cb_drop (by assumption) hkn)
theorem ctT : ctS w mean mg mb dp un gd cn cs a ccd cl outer A₀ base h₀ L m s Q E news x dx tn tc h1 h2 h3 h4 h5 k1 k2 k3 k4 k5 tr tt t2 tb raw n nt b vs cnt sb e e1 e2 ts u := ⟨fun C m1 m2 m3 m4 hi hl hb hc hnt hts hret => ctA.2 C m1 m2 m3 m4 hi hl hb hc hnt hts hret (pk_all3 (ne := ned) (R := fun g0 L0 h0 => Bx (ctA.1 g0 L0 h0)) rfl rfl rfl (ctB C m1 m2 m3 m4 hi hl hb hc hnt hts hret))⟩
theorem all : ∀ v : V0 × ((Addr) × (Addr) × (Addr) × (Addr) × (Int) × (Int) × (Int) × (Int) × (Int) × (Tok) × (Tok) × (Tok) × (Tok) × (Tok) × (Tok) × (Tok) × (Tok) × (Tok) × (Str) × (Int) × (Int) × (Int) × (List Value) × (List Int) × (Bool) × (Nat) × (Nat) × (Nat) × (Int) × (Tok)), ctS v.1.w v.1.mean v.1.mg v.1.mb v.1.dp v.1.un v.1.gd v.1.cn v.1.cs v.1.a v.1.ccd v.1.cl v.1.outer v.1.A₀ v.1.base v.1.h₀ v.1.L v.1.m v.1.s v.1.Q v.1.E v.1.news v.2.1 v.2.2.1 v.2.2.2.1 v.2.2.2.2.1 v.2.2.2.2.2.1 v.2.2.2.2.2.2.1 v.2.2.2.2.2.2.2.1 v.2.2.2.2.2.2.2.2.1 v.2.2.2.2.2.2.2.2.2.1 v.2.2.2.2.2.2.2.2.2.2.1 v.2.2.2.2.2.2.2.2.2.2.2.1 v.2.2.2.2.2.2.2.2.2.2.2.2.1 v.2.2.2.2.2.2.2.2.2.2.2.2.2.1 v.2.2.2.2.2.2.2.2.2.2.2.2.2.2.1 v.2.2.2.2.2.2.2.2.2.2.2.2.2.2.2.1 v.2.2.2.2.2.2.2.2.2.2.2.2.2.2.2.2.1 v.2.2.2.2.2.2.2.2.2.2.2.2.2.2.2.2.2.1 v.2.2.2.2.2.2.2.2.2.2.2.2.2.2.2.2.2.2.1 v.2.2.2.2.2.2.2.2.2.2.2.2.2.2.2.2.2.2.2.1 v.2.2.2.2.2.2.2.2.2.2.2.2.2.2.2.2.2.2.2.2.1 v.2.2.2.2.2.2.2.2.2.2.2.2.2.2.2.2.2.2.2.2.2.1 v.2.2.2.2.2.2.2.2.2.2.2.2.2.2.2.2.2.2.2.2.2.2.1 v.2.2.2.2.2.2.2.2.2.2.2.2.2.2.2.2.2.2.2.2.2.2.2.1 v.2.2.2.2.2.2.2.2.2.2.2.2.2.2.2.2.2.2.2.2.2.2.2.2.1 v.2.2.2.2.2.2.2.2.2.2.2.2.2.2.2.2.2.2.2.2.2.2.2.2.2.1 v.2.2.2.2.2.2.2.2.2.2.2.2.2.2.2.2.2.2.2.2.2.2.2.2.2.2.1 v.2.2.2.2.2.2.2.2.2.2.2.2.2.2.2.2.2.2.2.2.2.2.2.2.2.2.2.1 v.2.2.2.2.2.2.2.2.2.2.2.2.2.2.2.2.2.2.2.2.2.2.2.2.2.2.2.2.1 v.2.2.2.2.2.2.2.2.2.2.2.2.2.2.2.2.2.2.2.2.2.2.2.2.2.2.2.2.2.1 v.2.2.2.2.2.2.2.2.2.2.2.2.2.2.2.2.2.2.2.2.2.2.2.2.2.2.2.2.2.2 := pk_all (ne := ne) (P := fun v => ctS v.1.w v.1.mean v.1.mg v.1.mb v.1.dp v.1.un v.1.gd v.1.cn v.1.cs v.1.a v.1.ccd v.1.cl v.1.outer v.1.A₀ v.1.base v.1.h₀ v.1.L v.1.m v.1.s v.1.Q v.1.E v.1.news v.2.1 v.2.2.1 v.2.2.2.1 v.2.2.2.2.1 v.2.2.2.2.2.1 v.2.2.2.2.2.2.1 v.2.2.2.2.2.2.2.1 v.2.2.2.2.2.2.2.2.1 v.2.2.2.2.2.2.2.2.2.1 v.2.2.2.2.2.2.2.2.2.2.1 v.2.2.2.2.2.2.2.2.2.2.2.1 v.2.2.2.2.2.2.2.2.2.2.2.2.1 v.2.2.2.2.2.2.2.2.2.2.2.2.2.1 v.2.2.2.2.2.2.2.2.2.2.2.2.2.2.1 v.2.2.2.2.2.2.2.2.2.2.2.2.2.2.2.1 v.2.2.2.2.2.2.2.2.2.2.2.2.2.2.2.2.1 v.2.2.2.2.2.2.2.2.2.2.2.2.2.2.2.2.2.1 v.2.2.2.2.2.2.2.2.2.2.2.2.2.2.2.2.2.2.1 v.2.2.2.2.2.2.2.2.2.2.2.2.2.2.2.2.2.2.2.1 v.2.2.2.2.2.2.2.2.2.2.2.2.2.2.2.2.2.2.2.2.1 v.2.2.2.2.2.2.2.2.2.2.2.2.2.2.2.2.2.2.2.2.2.1 v.2.2.2.2.2.2.2.2.2.2.2.2.2.2.2.2.2.2.2.2.2.2.1 v.2.2.2.2.2.2.2.2.2.2.2.2.2.2.2.2.2.2.2.2.2.2.2.1 v.2.2.2.2.2.2.2.2.2.2.2.2.2.2.2.2.2.2.2.2.2.2.2.2.1 v.2.2.2.2.2.2.2.2.2.2.2.2.2.2.2.2.2.2.2.2.2.2.2.2.2.1 v.2.2.2.2.2.2.2.2.2.2.2.2.2.2.2.2.2.2.2.2.2.2.2.2.2.2.1 v.2.2.2.2.2.2.2.2.2.2.2.2.2.2.2.2.2.2.2.2.2.2.2.2.2.2.2.1 v.2.2.2.2.2.2.2.2.2.2.2.2.2.2.2.2.2.2.2.2.2.2.2.2.2.2.2.2.1 v.2.2.2.2.2.2.2.2.2.2.2.2.2.2.2.2.2.2.2.2.2.2.2.2.2.2.2.2.2.1 v.2.2.2.2.2.2.2.2.2.2.2.2.2.2.2.2.2.2.2.2.2.2.2.2.2.2.2.2.2.2) ctT
end Zindent_ct
section
variable {w : World} {mean : ExcName → Option Value} {mg mb : Str → Option Value} {dp un : Nat} {gd : Option (List Code)} {cn : Str} {cs : Scope} {a : Addr} {ccd : Value} {cl : List (Str × Addr)} {outer : List Env} {A₀ : Around} {base h₀ : Heap} {L : Addr} {m : Str → Option Value} {s : Shared} {Q E : Value → Shared → Prop} {news : List (Addr × Obj)}
theorem indent_ct  (C : At w mean mg mb 1 dp un cs outer A₀ base h₀ L m news s.heap)
  {x dx tn tc : Addr} {h1 h2 h3 h4 h5 : Int} {k1 k2 k3 k4 k5 tr tt t2 tb : Tok} {raw : Str} {n nt b : Int} {vs : List Value} {cnt : List Int} {sb : Bool} {e e1 e2 : Nat}
  (m1 : (x, instObj 174 dx) ∈ news) (m2 : (dx, dictOf [⟨h1, .str "raw" k1, .str raw tr⟩, ⟨h2, .str "n" k2, .int n tt⟩, ⟨h3, .str "nt" k3, .int nt t2⟩, ⟨h4, .str "norm" k4, .ref tn⟩, ⟨h5, .str "is_simple" k5, .bool sb⟩] e) ∈ news)
  (m3 : (tn, { cls := .type "tuple", data := .seq [.ref tc, .int b tb].toArray e1 }) ∈ news) (m4 : (tc, { cls := .type "tuple", data := .seq vs.toArray e2 }) ∈ news) (hi : IntsAre vs cnt) (hl : cnt.length ≤ 50) (hb : 0 ≤ b ∧ b ≤ 50)
  (hc : ∀ c ∈ cnt, 0 ≤ c ∧ c ≤ 100) (hnt : 0 ≤ nt ∧ nt ≤ 100)
  {ts : Int} {u : Tok} (hts : 1 ≤ ts ∧ ts ≤ 100)
  (hret : ∀ (t : Tok) (h' : Heap) (tk' : Nat), Fr h₀ L h' m → News h₀ L h' news → Q (.int (b + ts * (lvF ts cnt ((cnt.length : Int) - ts).toNat + nt)) t) { s with heap := h', toks := tk' }) :
  wpAny (model PySem.Challenge.rw_xe0048_01.row.prog w) (ktrTop dp un gd cn cs L a ccd cl outer) (call (.ref 143) [.ref x, .int ts u]) Q E s := by
  exact (Zindent_ct.all ⟨⟨w, mean, mg, mb, dp, un, gd, cn, cs, a, ccd, cl, outer, A₀, base, h₀, L, m, s, Q, E, news⟩, x, dx, tn, tc, h1, h2, h3, h4, h5, k1, k2, k3, k4, k5, tr, tt, t2, tb, raw, n, nt, b, vs, cnt, sb, e, e1, e2, ts, u⟩).out C m1 m2 m3 m4 hi hl hb hc hnt hts hret
end
structure WsD where
  (n nt b : Int) (cnt : List Int) (raw : Str)
  (dx tn tc : Addr) (h1 h2 h3 h4 h5 : Int) (k1 k2 k3 k4 k5 tr tt t2 tb : Tok) (vs : List Value) (e e1 e2 : Nat)
theorem neWsD : Nonempty WsD := ⟨⟨0,0,0,[],default,0,0,0,0,0,0,0,0,default,default,default,default,default,default,default,default,default,[],0,0,0⟩⟩
structure WsIn (news : List (Addr × Obj)) (x : Addr) (W : WsD) : Prop where
  m1 : (x, instObj 174 W.dx) ∈ news
  m2 : (W.dx, dictOf [⟨W.h1, .str "raw" W.k1, .str W.raw W.tr⟩, ⟨W.h2, .str "n" W.k2, .int W.n W.tt⟩, ⟨W.h3, .str "nt" W.k3, .int W.nt W.t2⟩, ⟨W.h4, .str "norm" W.k4, .ref W.tn⟩, ⟨W.h5, .str "is_simple" W.k5, .bool (decide (W.cnt.length ≤ 1))⟩] W.e) ∈ news
  m3 : (W.tn, { cls := .type "tuple", data := .seq [.ref W.tc, .int W.b W.tb].toArray W.e1 }) ∈ news
  m4 : (W.tc, { cls := .type "tuple", data := .seq W.vs.toArray W.e2 }) ∈ news
  hi : IntsAre W.vs W.cnt
  hl : W.cnt.length ≤ 50
  hb : 0 ≤ W.b ∧ W.b ≤ 50
  hc : ∀ c ∈ W.cnt, 0 ≤ c ∧ c ≤ 100
  hnt : 0 ≤ W.nt ∧ W.nt ≤ 100
theorem WsIn.mono {news news' : List (Addr × Obj)} {x : Addr} {W : WsD} (h : WsIn news x W) (hs : ∀ p ∈ news, p ∈ news') : WsIn news' x W :=
  ⟨hs _ h.m1, hs _ h.m2, hs _ h.m3, hs _ h.m4, h.hi, h.hl, h.hb, h.hc, h.hnt⟩
noncomputable def lng (W : WsD) : Int := max ((W.cnt.length : Int) - 1) W.b
noncomputable def lev (W : WsD) (ts : Int) : Int := W.b + ts * (lvF ts W.cnt ((W.cnt.length : Int) - ts).toNat + W.nt)
noncomputable def lessF (W V : WsD) : Bool :=
  if W.n ≥ V.n then false else if (decide (W.cnt.length ≤ 1) && decide (V.cnt.length ≤ 1)) = true then decide (W.nt ≤ V.nt)
  else (List.range (max (lng W) (lng V)).toNat).all fun (i : Nat) => decide (lev W (2 + i) < lev V (2 + i))
section
variable {w : World} {mean : ExcName → Option Value} {mg mb : Str → Option Value} {dp un : Nat} {gd : Option (List Code)} {cn : Str} {cs : Scope} {a : Addr} {ccd : Value} {cl : List (Str × Addr)} {outer : List Env} {A₀ : Around} {base h₀ : Heap} {L : Addr} {m : Str → Option Value} {s : Shared} {Q E : Value → Shared → Prop} {news : List (Addr × Obj)}
end
namespace Zless_ct
noncomputable def ctS (w : World) (mean : ExcName → Option Value) (mg : Str → Option Value) (mb : Str → Option Value) (dp : Nat) (un : Nat) (gd : Option (List Code)) (cn : Str) (cs : Scope) (a : Addr) (ccd : Value) (cl : List (Str × Addr)) (outer : List Env) (A₀ : Around) (base : Heap) (h₀ : Heap) (L : Addr) (m : Str → Option Value) (s : Shared) (Q : Value → Shared → Prop) (E : Value → Shared → Prop) (news : List (Addr × Obj)) (x : Addr) (y : Addr) (W : WsD) (V : WsD) : Prop := Bx (
  ∀ (C : At w mean mg mb 2 dp un cs outer A₀ base h₀ L m news s.heap) (hW : WsIn news x W) (hV : WsIn news y V) (hret : ∀ (t : Tok) (h' : Heap) (tk' : Nat), Fr h₀ L h' m → News h₀ L h' news → Q (.bool (lessF W V)) { s with heap := h', toks := tk' }),
  wpAny (model PySem.Challenge.rw_xe0048_01.row.prog w) (ktrTop dp un gd cn cs L a ccd cl outer) (call (.ref 164) [.ref x, .ref y]) Q E s)
theorem ne : Nonempty (V0 × ((Addr) × (Addr) × (WsD) × (WsD))) := ne_V ⟨(default, default, Classical.choice neWsD, Classical.choice neWsD)⟩
noncomputable def ctc : V0 × ((Addr) × (Addr) × (WsD) × (WsD)) := pk ne fun v => ctS v.1.w v.1.mean v.1.mg v.1.mb v.1.dp v.1.un v.1.gd v.1.cn v.1.cs v.1.a v.1.ccd v.1.cl v.1.outer v.1.A₀ v.1.base v.1.h₀ v.1.L v.1.m v.1.s v.1.Q v.1.E v.1.news v.2.1 v.2.2.1 v.2.2.2.1 v.2.2.2.2
noncomputable def w : World := ctc.1.w
noncomputable def mean : ExcName → Option Value := ctc.1.mean
noncomputable def mg : Str → Option Value := ctc.1.mg
noncomputable def mb : Str → Option Value := ctc.1.mb
noncomputable def dp : Nat := ctc.1.dp
noncomputable def un : Nat := ctc.1.un
noncomputable def gd : Option (List Code) := ctc.1.gd
noncomputable def cn : Str := ctc.1.cn
noncomputable def cs : Scope := ctc.1.cs
noncomputable def a : Addr := ctc.1.a
noncomputable def ccd : Value := ctc.1.ccd
noncomputable def cl : List (Str × Addr) := ctc.1.cl
noncomputable def outer : List Env := ctc.1.outer
noncomputable def A₀ : Around := ctc.1.A₀
noncomputable def base : Heap := ctc.1.base
noncomputable def h₀ : Heap := ctc.1.h₀
noncomputable def L : Addr := ctc.1.L
noncomputable def m : Str → Option Value := ctc.1.m
noncomputable def s : Shared := ctc.1.s
noncomputable def Q : Value → Shared → Prop := ctc.1.Q
noncomputable def E : Value → Shared → Prop := ctc.1.E
noncomputable def news : List (Addr × Obj) := ctc.1.news
noncomputable def x : Addr := ctc.2.1
noncomputable def y : Addr := ctc.2.2.1
noncomputable def W : WsD := ctc.2.2.2.1
noncomputable def V : WsD := ctc.2.2.2.2
noncomputable def ctA : (ctR : (Heap) → (Addr) → (Heap) → Prop) ×' (∀ (C : At w mean mg mb 2 dp un cs outer A₀ base h₀ L m news s.heap) (hW : WsIn news x W) (hV : WsIn news y V) (hret : ∀ (t : Tok) (h' : Heap) (tk' : Nat), Fr h₀ L h' m → News h₀ L h' news → Q (.bool (lessF W V)) { s with heap := h', toks := tk' }), (∀ g0 L0 h0, Bx (ctR g0 L0 h0)) → wpAny (model PySem.Challenge.rw_xe0048_01.row.prog w) (ktrTop dp un gd cn cs L a ccd cl outer) (call (.ref 164) [.ref x, .ref y]) Q E s) := ⟨_, by
  intro C hW hV hret ctH
  k_with_none
  refine nmG fun gG9 kG9 => ?_
  obtain ⟨B, F, X, N, T, kf, hd, hu⟩ := C
  refine kG9 ?_
  clear kG9 gG9
  revert X
  k_fill
  intro X
  refine wpAny_call ?_
  k_dflt (refine' code_def ?k1 ?k2 ?k3 ?k4 ?k5 ?kA ?kF ?kK ?k6 ?k7 ?k8 ?k9 ?kB ?_ ?c2 ?c3 ?c4 ?c5; (case kA => exact rfl); (case kF => exact rfl); (case kK => assumption); (case k1 => k_asm); (case k2 => k_asm); (case k3 => k_asm); (case k4 => k_asm); (case k5 => k_asm); (case k6 => k_is); (case k7 => k_is); (case k8 => ktr_room); (case k9 => exact BindsTo.of_eq rfl); (case c5 => decide); (case kB => exact locs rfl); (case c2 => exact rfl); (case c3 => exact rfl); (case c4 => exact rfl); k_whole; exact fun g0 L0 h0 => (ctH g0 L0 h0).out)⟩
theorem ned : Nonempty ((Heap) × (Addr) × (Heap)) := ⟨(default, default, default)⟩
noncomputable def ctd := pk ned fun v => Bx (ctA.1 v.1 v.2.1 v.2.2)
noncomputable def g0 : Heap := ctd.1
noncomputable def L0 : Addr := ctd.2.1
noncomputable def h0 : Heap := ctd.2.2
theorem ctB (C : At w mean mg mb 2 dp un cs outer A₀ base h₀ L m news s.heap) (hW : WsIn news x W) (hV : WsIn news y V) (hret : ∀ (t : Tok) (h' : Heap) (tk' : Nat), Fr h₀ L h' m → News h₀ L h' news → Q (.bool (lessF W V)) { s with heap := h', toks := tk' }) : Bx (ctA.1 g0 L0 h0) := by
  refine ⟨?_⟩
  dsimp only [ctA]
  k_with_none
  k_with "call builtin:len" => (((with_reducible show wpAny _ _ (call (Value.builtin "len") [Value.ref _]) _ _ _); refine mlen_tup (News.isTup (by with_reducible assumption) (by k_mem)) (by assumption) (by omega) ?_))
  k_with "pyIter ref" => (refine hold ?_)
  k_with "subscriptTail" => (((with_reducible show wpAny _ _ (subscriptTail _ _ (Value.ref _) (Value.int _ _)) _ _ _); k_dflt (refine mitem_tup (News.isTup (by with_reducible assumption) (by k_mem)) (by assumption) (by omega) (by omega) (by omega) ?_); intro ti'z9))
  k_with "binaryOp Mult int int" => (refine mmul (by omega) (by omega) ?_)
  k_with "call ref" => (((with_reducible show wpAny _ _ (call (Value.ref 136) _) _ _ _); k_dflt (refine' longest_ct ⟨?k1.«_@»._hyg, ?k2.«_@»._hyg, ?k3.«_@»._hyg, ?k4.«_@»._hyg, ?k5.«_@»._hyg, ?k6.«_@»._hyg, ?k7.«_@»._hyg, ?k8.«_@»._hyg⟩ (WsIn.m1 ?kW.«_@»._hyg) (WsIn.m2 ?kW.«_@»._hyg) (WsIn.m3 ?kW.«_@»._hyg) (WsIn.m4 ?kW.«_@»._hyg) (WsIn.hi ?kW.«_@»._hyg) (WsIn.hl ?kW.«_@»._hyg) (WsIn.hb ?kW.«_@»._hyg) ?_; (case kW => assumption); (case k1 => k_asm); (case k2 => k_asm); (case k3 => k_in); (case k4 => k_asm); (case k5 => k_asm); (case k6 => first | exact rfl | assumption); (case k7 => ktr_room); (case k8 => ktr_units); intro t'z9 h'z9 tk'z9 F'z9 N'z9)))
  k_with "call ref" => (((with_reducible show wpAny _ _ (call (Value.ref 143) _) _ _ _); k_dflt (refine' indent_ct ⟨?k1.«_@»._hyg, ?k2.«_@»._hyg, ?k3.«_@»._hyg, ?k4.«_@»._hyg, ?k5.«_@»._hyg, ?k6.«_@»._hyg, ?k7.«_@»._hyg, ?k8.«_@»._hyg⟩ (WsIn.m1 ?kW.«_@»._hyg) (WsIn.m2 ?kW.«_@»._hyg) (WsIn.m3 ?kW.«_@»._hyg) (WsIn.m4 ?kW.«_@»._hyg) (WsIn.hi ?kW.«_@»._hyg) (WsIn.hl ?kW.«_@»._hyg) (WsIn.hb ?kW.«_@»._hyg) (WsIn.hc ?kW.«_@»._hyg) (WsIn.hnt ?kW.«_@»._hyg) ?kT.«_@»._hyg ?_; (case kW => assumption); (case k1 => k_asm); (case k2 => k_asm); (case k3 => k_in); (case k4 => k_asm); (case k5 => k_asm); (case k6 => first | exact rfl | assumption); (case k7 => ktr_room); (case k8 => ktr_units); (case kT => omega); intro t'z9 h'z9 tk'z9 F'z9 N'z9)))
  refine nmG fun gG9 kG9 => ?_
  obtain ⟨B, F, X, N, T, kf, hd, hu⟩ := C
  refine kG9 ?_
  clear kG9 gG9
  revert X
  k_fill
  intro X
  refine nmG fun gG9 kG9 => ?_
  obtain ⟨m1, m2, m3, m4, -, hl, hb, -, hnt⟩ := id hW
  obtain ⟨p1, p2, p3, p4, -, ql, qb, -, qnt⟩ := id hV
  refine kG9 ?_
  clear kG9 gG9
  have bw9 : 0 ≤ max ((W.cnt.length : Int) - 1) W.b ∧ max ((W.cnt.length : Int) - 1) W.b ≤ 50 := by omega
  have bv9 : 0 ≤ max ((V.cnt.length : Int) - 1) V.b ∧ max ((V.cnt.length : Int) - 1) V.b ≤ 50 := by omega
  intro FG' F' N' B' X' T'
  (try dsimp only); (try k_lift B'); (try k_fold)
  k_steps
  · exact cb_retB hret (by unfold lessF; rw [if_pos (by omega)]) (by assumption) (by assumption)
  · exact cb_retB hret (by unfold lessF; rw [if_neg (by omega), if_pos (by simp; omega)]) (by assumption) (by assumption)
  all_goals
    unfold Hold
    have hnot : lessF W V = (List.range (max (lng W) (lng V)).toNat).all fun (i : Nat) => decide (lev W (2 + i) < lev V (2 + i)) := by
      unfold lessF; rw [if_neg (by omega), if_neg (by simp; omega)]
    (with_unfolding_all refine' mrange news (fun (_ : Unit) => [(("self" : Str), .ref x), (("other" : Str), .ref y)]) (fun i _ _ => ∀ j : Nat, j < i → lev W (2 + j) < lev V (2 + j)) () (by rfl) (by assumption) (by omega) (by omega) (by rfl) ?mo (fun p hp => hp) (by assumption) (by assumption) ?hk ?hj ?turn ?done ?hx)
    case hk => kst_all
    case mo => exact fun _ _ _ _ _ h => h
    case hj => exact fun _ h => absurd h (Nat.not_lt_zero _)
    case hx => exact fun _ => rfl
    case turn =>
      clear m1 m2 m3 m4 p1 p2 p3 p4
      rintro i t c u nn ok h tk hlt hko hok - hJ F N
      dsimp only [kstB] at F hJ
      replace hW := hW.mono fun p hp => hok p (hko p hp)
      replace hV := hV.mono fun p hp => hok p (hko p hp)
      have m1 := hW.m1
      have m2 := hW.m2
      have p1 := hV.m1
      have p2 := hV.m2
      have hts : (2 : Int) + i ≤ 60 := by split at hlt <;> omega
      have hlt' : i < (max (lng W) (lng V)).toNat := by unfold lng; split at hlt <;> omega
      k_steps
      · refine TP.ret ?_
        dsimp only
        k_steps
        refine cb_retB hret ?_ (by assumption) (cb_drop (by assumption) fun p hp => hok p (hko p hp))
        rw [hnot]
        refine (List.all_eq_false.mpr ⟨i, List.mem_range.mpr hlt', ?_⟩).symm
        rw [decide_eq_true_eq]
        unfold lev
        omega
      · refine TP.next () (by assumption) (by assumption) (by assumption) (by kst_all) fun j hj => ?_
        by_cases hji : j < i
        · exact hJ j hji
        · obtain rfl : j = i := by omega
          unfold lev
          omega
    case done =>
      rintro c u nn h tk hkn hJ F N
      dsimp only [kstB, envOf] at F N hJ
      k_steps
      refine cb_retB hret ?_ (by assumption) (cb_drop (by assumption) hkn)
      rw [hnot]
      refine (List.all_eq_true.mpr fun j hj => decide_eq_true (hJ j ?_)).symm
      have hj' := List.mem_range.mp hj
      unfold lng at hj'
      split <;> omega
theorem ctT : ctS w mean mg mb dp un gd cn cs a ccd cl outer A₀ base h₀ L m s Q E news x y W V := ⟨fun C hW hV hret => ctA.2 C hW hV hret (pk_all3 (ne := ned) (R := fun g0 L0 h0 => Bx (ctA.1 g0 L0 h0)) rfl rfl rfl (ctB C hW hV hret))⟩
theorem all : ∀ v : V0 × ((Addr) × (Addr) × (WsD) × (WsD)), ctS v.1.w v.1.mean v.1.mg v.1.mb v.1.dp v.1.un v.1.gd v.1.cn v.1.cs v.1.a v.1.ccd v.1.cl v.1.outer v.1.A₀ v.1.base v.1.h₀ v.1.L v.1.m v.1.s v.1.Q v.1.E v.1.news v.2.1 v.2.2.1 v.2.2.2.1 v.2.2.2.2 := pk_all (ne := ne) (P := fun v => ctS v.1.w v.1.mean v.1.mg v.1.mb v.1.dp v.1.un v.1.gd v.1.cn v.1.cs v.1.a v.1.ccd v.1.cl v.1.outer v.1.A₀ v.1.base v.1.h₀ v.1.L v.1.m v.1.s v.1.Q v.1.E v.1.news v.2.1 v.2.2.1 v.2.2.2.1 v.2.2.2.2) ctT
end Zless_ct
section
variable {w : World} {mean : ExcName → Option Value} {mg mb : Str → Option Value} {dp un : Nat} {gd : Option (List Code)} {cn : Str} {cs : Scope} {a : Addr} {ccd : Value} {cl : List (Str × Addr)} {outer : List Env} {A₀ : Around} {base h₀ : Heap} {L : Addr} {m : Str → Option Value} {s : Shared} {Q E : Value → Shared → Prop} {news : List (Addr × Obj)}
theorem less_ct  (C : At w mean mg mb 2 dp un cs outer A₀ base h₀ L m news s.heap) {x y : Addr} {W V : WsD} (hW : WsIn news x W) (hV : WsIn news y V)
  (hret : ∀ (t : Tok) (h' : Heap) (tk' : Nat), Fr h₀ L h' m → News h₀ L h' news → Q (.bool (lessF W V)) { s with heap := h', toks := tk' }) :
  wpAny (model PySem.Challenge.rw_xe0048_01.row.prog w) (ktrTop dp un gd cn cs L a ccd cl outer) (call (.ref 164) [.ref x, .ref y]) Q E s := by
  exact (Zless_ct.all ⟨⟨w, mean, mg, mb, dp, un, gd, cn, cs, a, ccd, cl, outer, A₀, base, h₀, L, m, s, Q, E, news⟩, x, y, W, V⟩).out C hW hV hret
end
end Mine
end
theorem Mine.rstB2 : True := by
  w_top off
  trivial
section
open PySem PySem.W PyProof.Rows PySem.Calls PySem.Spec
set_option Elab.async false
set_option maxRecDepth 100000
set_option maxHeartbeats 8000000
namespace Mine
theorem reads_ints {h : Heap} : ∀ {vs : List Value} {ns : List Int}, IntsAre vs ns → ReadsAll h vs (ns.map .int) []
  | [], _, .nil => .nil
  | _ :: _, _, .cons _ _ r => .cons (.int _ _) (reads_ints r)
theorem reads_tup {h₀ h : Heap} {L a : Addr} {news : List (Addr × Obj)} {vs : List Value} {e : Nat} {ds : List PyData} {as : List Addr} (N : News h₀ L h news) (hm : (a, ({ cls := .type "tuple", data := .seq vs.toArray e } : Obj)) ∈ news) (r : ReadsAll h vs ds as) : Reads h (.ref a) (.tuple ds) as :=
  .tuple (N.get hm) rfl rfl r
theorem shaped_norm (cnt : List Int) (b : Int) : PySem.SeqAt.shaped (.tuple [.tuple (cnt.map .int), .int b]) = true := by
  have h1 : ∀ l : List Int, PyData.canLayAll0 (l.map .int) = true := fun l => by induction l with
    | nil => rfl
    | cons a r ih => simpa [PyData.canLayAll0, PyData.canLay0] using ih
  have h2 : ∀ l : List Int, PyData.depthAll (l.map .int) ≤ 1 := fun l => by induction l with
    | nil => simp [PyData.depthAll]
    | cons a r ih => simp only [List.map_cons, PyData.depthAll, PyData.depth]; omega
  have h3 := h2 cnt
  unfold PySem.SeqAt.shaped
  refine Bool.and_eq_true_iff.mpr ⟨by simp [PyData.canLay0, PyData.canLayAll0, h1], decide_eq_true ?_⟩
  simp only [PyData.depth, PyData.depthAll]
  omega
theorem eqv_norm (c1 c2 : List Int) (b1 b2 : Int) : PyData.eqv (.tuple [.tuple (c1.map .int), .int b1]) (.tuple [.tuple (c2.map .int), .int b2]) = decide (c1 = c2 ∧ b1 = b2) := by
  simp only [PyData.eqv, PyData.eqvAll, ked_eqvAll, Bool.and_true]
  by_cases h : c1 = c2 <;> by_cases h' : b1 = b2 <;> simp [h, h']
section
variable {w : World} {mean : ExcName → Option Value} {mg mb : Str → Option Value} {dp un : Nat} {gd : Option (List Code)} {cn : Str} {cs : Scope} {a : Addr} {ccd : Value} {cl : List (Str × Addr)} {outer : List Env} {A₀ : Around} {base h₀ : Heap} {L : Addr} {m : Str → Option Value} {s : Shared} {Q E : Value → Shared → Prop} {news : List (Addr × Obj)}
theorem equal_ct (C : At w mean mg mb 1 dp un cs outer A₀ base h₀ L m news s.heap) {x y : Addr} {W V : WsD} (hW : WsIn news x W) (hV : WsIn news y V)
  (hret : ∀ (t : Tok) (h' : Heap) (tk' : Nat), Fr h₀ L h' m → News h₀ L h' news → Q (.bool (decide (W.cnt = V.cnt ∧ W.b = V.b))) { s with heap := h', toks := tk' }) :
  wpAny (model PySem.Challenge.rw_xe0048_01.row.prog w) (ktrTop dp un gd cn cs L a ccd cl outer) (call (.ref 150) [.ref x, .ref y]) Q E s := by
  k_with_none
  refine nmG fun gG9 kG9 => ?_
  obtain ⟨B, F, X, N, T, kf, hd, hu⟩ := C
  refine kG9 ?_
  clear kG9 gG9
  revert X
  k_fill
  intro X
  refine wpAny_call ?_
  refine nmG fun gG9 kG9 => ?_
  obtain ⟨m1, m2, m3, m4, hi, hl, hb, -, hnt⟩ := id hW
  obtain ⟨p1, p2, p3, p4, qi, ql, qb, -, qnt⟩ := id hV
  refine kG9 ?_
  clear kG9 gG9
  k_dflt cell_enter
  k_steps
  refine eq_dataH (reads_tup (by assumption) m3 (.cons (reads_tup (by assumption) m4 (reads_ints hi)) (.cons (.int _ _) .nil))) (reads_tup (by assumption) p3 (.cons (reads_tup (by assumption) p4 (reads_ints qi)) (.cons (.int _ _) .nil))) (shaped_norm _ _) (shaped_norm _ _) (by ktr_units) ?_
  rw [eqv_norm]
  dsimp only
  k_steps
  exact cb_retB hret rfl (by assumption) (by assumption)
end
end Mine
end
theorem Mine.rstL1 : True := by
  w_top off
  trivial
section
open PySem PySem.W PyProof.Rows PySem.Calls PySem.Spec
set_option Elab.async false
set_option maxRecDepth 100000
set_option maxHeartbeats 4000000
namespace Mine
noncomputable def upd (nn : List (Addr × Obj)) (l : Addr) (o : Obj) : List (Addr × Obj) := (l, o) :: nn.filter fun p => p.1 != l
theorem upd_mem {nn : List (Addr × Obj)} {l : Addr} {o : Obj} : (l, o) ∈ upd nn l o := .head _
theorem upd_old {nn : List (Addr × Obj)} {l : Addr} {o : Obj} {p : Addr × Obj} (h : p ∈ nn) (hn : p.1 ≠ l) : p ∈ upd nn l o :=
  .tail _ (List.mem_filter.mpr ⟨h, by simpa using hn⟩)
section
variable {h₀ h h' : Heap} {L l a b : Addr} {nn : List (Addr × Obj)} {o o' o1 o2 : Obj}
theorem news_upd (N : News h₀ L h nn) (hm : (l, o) ∈ nn) (hs : Heap.SameBut l h h') (ho' : h'.get? l = some o') : News h₀ L h' (upd nn l o') := by
  intro p hp
  rcases mcs hp with rfl | hp
  · exact ⟨ho', (N _ hm).2⟩
  · obtain ⟨h1, h2⟩ := List.mem_filter.mp hp
    exact ⟨(hs.2 p.1 (by simpa using h2)).trans (N p h1).1, (N p h1).2⟩
theorem ne_addr (N : News h₀ L h nn) (h1 : (a, o1) ∈ nn) (h2 : (b, o2) ∈ nn) (hc : o1.cls ≠ o2.cls) : a ≠ b := by
  rintro rfl
  have e := (N _ h1).1.symm.trans (N _ h2).1
  exact hc (congrArg Obj.cls (Option.some.inj e))
theorem ok_ne {ok keep : List (Addr × Obj)} (N : News h₀ L h nn) (hm : (l, o) ∈ nn) (ho : NotIt o) (hok : ∀ p ∈ ok, p ∈ nn) (hok2 : ∀ p ∈ ok, p ∈ keep ∨ ¬ NotIt p.2) (hk : ∀ p ∈ keep, p.1 ≠ l) : ∀ p ∈ ok, p.1 ≠ l := by
  intro p hp
  rcases hok2 p hp with q | q
  · exact hk p q
  · rintro rfl
    have e := (N _ (hok p hp)).1.symm.trans (N _ hm).1
    exact q ((Option.some.inj e).symm ▸ ho)
end
section
variable {prog : Program} {w : World} {A : Around} {E : Value → Shared → Prop} {s : Shared} {h₀ : Heap} {L : Addr} {m : Str → Option Value} {nn : List (Addr × Obj)} {Q : Value → Shared → Prop}
theorem mappend {l : Addr} {vs : List Value} {e : Nat} {x : Value} (F : Fr h₀ L s.heap m) (N : News h₀ L s.heap nn) (hm : (l, ({ cls := .type "list", data := .seq vs.toArray e } : Obj)) ∈ nn) (hlen : vs.length ≤ 1000)
    (h : ∀ h', Fr h₀ L h' m → News h₀ L h' (upd nn l { cls := .type "list", data := .seq (vs ++ [x]).toArray (e + 1) }) → Q .none { s with heap := h' }) :
    wpAny (model prog w) A (call (.builtin "list.append") [.ref l, x]) Q E s := by
  have z := N _ hm
  refine append_at (hsz := by rw [List.size_toArray, sizeLine_eq]; omega) z.1 fun h' hs ho' => h h' (F.change hs z.2.1 z.2.2) (news_upd N hm hs ?_)
  rw [ho']
  simp [PySem.W.listOf]
end
end Mine
namespace Mine
theorem mlen_list {prog : Program} {w : World} {A : Around} {E : Value → Shared → Prop} {s : Shared} {Q : Value → Shared → Prop} {t : Addr} {vs : List Value} {cnt : List Int} (ht : s.heap.IsList t vs.toArray) (hi : IntsAre vs cnt) (hl : cnt.length ≤ 1000) (h : Q (.int cnt.length (s.toks + 1)) { s with toks := s.toks + 1 + 1 }) :
    wpAny (model prog w) A (call (.builtin "len") [.ref t]) Q E s := by
  have e : vs.toArray.size = cnt.length := by rw [List.size_toArray]; exact hi.length
  exact len_list ht (by rw [e]; omega) (by rw [e]; exact h)
theorem news_front {h₀ h : Heap} {L l : Addr} {nn : List (Addr × Obj)} {o : Obj} (N : News h₀ L h nn) (hm : (l, o) ∈ nn) :
    ∃ rest, News h₀ L h ((l, o) :: rest) ∧ (∀ p ∈ rest, p.1 ≠ l) ∧ (∀ p ∈ nn, p.1 ≠ l → p ∈ rest) :=
  ⟨nn.filter fun p => p.1 != l, fun p hp => by
    rcases mcs hp with rfl | hp
    · exact N _ hm
    · exact N _ (List.mem_filter.mp hp).1, fun p hp => by simpa using (List.mem_filter.mp hp).2, fun p hp hn => List.mem_filter.mpr ⟨hp, by simpa using hn⟩⟩
theorem ne_of_l1 {news : List (Addr × Obj)} {d : Addr} (h : ∀ p ∈ news, p.1 < d) : ∀ p ∈ news, p.1 ≠ d := fun p hp => Nat.ne_of_lt (h p hp)
theorem str1_eq {k j : Nat} {s : String} (hs : (PySem.Str.ofString s).cps = #[j]) : ((⟨#[k]⟩ : Str) = PySem.Str.ofString s) ↔ k = j := by
  constructor
  · intro e
    have := congrArg PySem.Str.cps e
    rw [hs] at this
    simpa using this
  · rintro rfl
    exact (PySem.Str.ext' hs.symm)
end Mine
end
theorem Mine.rstB3 : True := by
  w_top off
  trivial
section
open PySem PySem.W PyProof.Rows PySem.Calls PySem.Spec
set_option Elab.async false
set_option maxRecDepth 100000
set_option maxHeartbeats 8000000
namespace Mine
/-- a list's items are tuples of three ints each -/
inductive TripsAre (nn : List (Addr × Obj)) : List Value → List (Int × Int × Int) → Prop
  | nil : TripsAre nn [] []
  | cons {a : Addr} {x y z : Int} {t1 t2 t3 : Tok} {e : Nat} {vs : List Value} {ds : List (Int × Int × Int)} :
      (a, ({ cls := .type "tuple", data := .seq [.int x t1, .int y t2, .int z t3].toArray e } : Obj)) ∈ nn → TripsAre nn vs ds → TripsAre nn (.ref a :: vs) ((x, y, z) :: ds)
theorem TripsAre.mono {nn nn' : List (Addr × Obj)} {vs : List Value} {ds : List (Int × Int × Int)} (h : TripsAre nn vs ds) (hs : ∀ p ∈ nn, p.2.cls = .type "tuple" → p ∈ nn') : TripsAre nn' vs ds := by
  induction h with
  | nil => exact .nil
  | cons hm _ ih => exact .cons (hs _ hm rfl) ih
theorem TripsAre.snoc {nn : List (Addr × Obj)} {vs : List Value} {ds : List (Int × Int × Int)} (h : TripsAre nn vs ds) {a : Addr} {x y z : Int} {t1 t2 t3 : Tok} {e : Nat}
    (hm : (a, ({ cls := .type "tuple", data := .seq [.int x t1, .int y t2, .int z t3].toArray e } : Obj)) ∈ nn) : TripsAre nn (vs ++ [.ref a]) (ds ++ [(x, y, z)]) := by
  induction h with
  | nil => exact .cons hm .nil
  | cons h1 _ ih => exact .cons h1 ih
theorem TripsAre.length {nn : List (Addr × Obj)} {vs : List Value} {ds : List (Int × Int × Int)} (h : TripsAre nn vs ds) : vs.length = ds.length := by
  induction h with
  | nil => rfl
  | cons _ _ ih => simp [ih]
noncomputable def witF (W V : WsD) (n : Nat) : List (Int × Int × Int) :=
  ((List.range n).filter fun (i : Nat) => decide (lev W (1 + i) ≥ lev V (1 + i))).map fun (i : Nat) => ((1 : Int) + i, lev W (1 + i), lev V (1 + i))
theorem witF_succ (W V : WsD) (n : Nat) : witF W V (n + 1) = witF W V n ++ (if lev W (1 + n) ≥ lev V (1 + n) then [((1 : Int) + n, lev W (1 + n), lev V (1 + n))] else []) := by
  unfold witF
  rw [List.range_succ, List.filter_append, List.map_append]
  congr 1
  by_cases h : lev W (1 + n) ≥ lev V (1 + n) <;> simp [h]
theorem witF_len (W V : WsD) (n : Nat) : (witF W V n).length ≤ n := by
  unfold witF
  rw [List.length_map]
  exact Nat.le_trans (List.length_filter_le _ _) (by simp)
section
variable {w : World} {mean : ExcName → Option Value} {mg mb : Str → Option Value} {dp un : Nat} {gd : Option (List Code)} {cn : Str} {cs : Scope} {a : Addr} {ccd : Value} {cl : List (Str × Addr)} {outer : List Env} {A₀ : Around} {base h₀ : Heap} {L : Addr} {m : Str → Option Value} {s : Shared} {Q E : Value → Shared → Prop} {news : List (Addr × Obj)}
end
namespace Znlw_ct
noncomputable def ctS (w : World) (mean : ExcName → Option Value) (mg : Str → Option Value) (mb : Str → Option Value) (dp : Nat) (un : Nat) (gd : Option (List Code)) (cn : Str) (cs : Scope) (a : Addr) (ccd : Value) (cl : List (Str × Addr)) (outer : List Env) (A₀ : Around) (base : Heap) (h₀ : Heap) (L : Addr) (m : Str → Option Value) (s : Shared) (Q : Value → Shared → Prop) (E : Value → Shared → Prop) (news : List (Addr × Obj)) (x : Addr) (y : Addr) (W : WsD) (V : WsD) : Prop := Bx (
  ∀ (C : At w mean mg mb 2 dp un cs outer A₀ base h₀ L m news s.heap) (hW : WsIn news x W) (hV : WsIn news y V) (hret : ∀ (al : Addr) (vs : List Value) (e : Nat) (nn : List (Addr × Obj)) (h' : Heap) (tk' : Nat), Fr h₀ L h' m → News h₀ L h' nn → (∀ p ∈ news, p ∈ nn) → (∀ p ∈ news, p.1 ≠ al) → (al, ({ cls := .type "list", data := .seq vs.toArray e } : Obj)) ∈ nn →     TripsAre nn vs (witF W V ((max (lng W) (lng V)).toNat + 1)) → Q (.ref al) { s with heap := h', toks := tk' }),
  wpAny (model PySem.Challenge.rw_xe0048_01.row.prog w) (ktrTop dp un gd cn cs L a ccd cl outer) (call (.ref 171) [.ref x, .ref y]) Q E s)
theorem ne : Nonempty (V0 × ((Addr) × (Addr) × (WsD) × (WsD))) := ne_V ⟨(default, default, Classical.choice neWsD, Classical.choice neWsD)⟩
noncomputable def ctc : V0 × ((Addr) × (Addr) × (WsD) × (WsD)) := pk ne fun v => ctS v.1.w v.1.mean v.1.mg v.1.mb v.1.dp v.1.un v.1.gd v.1.cn v.1.cs v.1.a v.1.ccd v.1.cl v.1.outer v.1.A₀ v.1.base v.1.h₀ v.1.L v.1.m v.1.s v.1.Q v.1.E v.1.news v.2.1 v.2.2.1 v.2.2.2.1 v.2.2.2.2
noncomputable def w : World := ctc.1.w
noncomputable def mean : ExcName → Option Value := ctc.1.mean
noncomputable def mg : Str → Option Value := ctc.1.mg
noncomputable def mb : Str → Option Value := ctc.1.mb
noncomputable def dp : Nat := ctc.1.dp
noncomputable def un : Nat := ctc.1.un
noncomputable def gd : Option (List Code) := ctc.1.gd
noncomputable def cn : Str := ctc.1.cn
noncomputable def cs : Scope := ctc.1.cs
noncomputable def a : Addr := ctc.1.a
noncomputable def ccd : Value := ctc.1.ccd
noncomputable def cl : List (Str × Addr) := ctc.1.cl
noncomputable def outer : List Env := ctc.1.outer
noncomputable def A₀ : Around := ctc.1.A₀
noncomputable def base : Heap := ctc.1.base
noncomputable def h₀ : Heap := ctc.1.h₀
noncomputable def L : Addr := ctc.1.L
noncomputable def m : Str → Option Value := ctc.1.m
noncomputable def s : Shared := ctc.1.s
noncomputable def Q : Value → Shared → Prop := ctc.1.Q
noncomputable def E : Value → Shared → Prop := ctc.1.E
noncomputable def news : List (Addr × Obj) := ctc.1.news
noncomputable def x : Addr := ctc.2.1
noncomputable def y : Addr := ctc.2.2.1
noncomputable def W : WsD := ctc.2.2.2.1
noncomputable def V : WsD := ctc.2.2.2.2
noncomputable def ctA : (ctR : (Heap) → (Addr) → (Heap) → Prop) ×' (∀ (C : At w mean mg mb 2 dp un cs outer A₀ base h₀ L m news s.heap) (hW : WsIn news x W) (hV : WsIn news y V) (hret : ∀ (al : Addr) (vs : List Value) (e : Nat) (nn : List (Addr × Obj)) (h' : Heap) (tk' : Nat), Fr h₀ L h' m → News h₀ L h' nn → (∀ p ∈ news, p ∈ nn) → (∀ p ∈ news, p.1 ≠ al) → (al, ({ cls := .type "list", data := .seq vs.toArray e } : Obj)) ∈ nn →     TripsAre nn vs (witF W V ((max (lng W) (lng V)).toNat + 1)) → Q (.ref al) { s with heap := h', toks := tk' }), (∀ g0 L0 h0, Bx (ctR g0 L0 h0)) → wpAny (model PySem.Challenge.rw_xe0048_01.row.prog w) (ktrTop dp un gd cn cs L a ccd cl outer) (call (.ref 171) [.ref x, .ref y]) Q E s) := ⟨_, by
  intro C hW hV hret ctH
  k_with_none
  refine nmG fun gG9 kG9 => ?_
  obtain ⟨B, F, X, N, T, kf, hd, hu⟩ := C
  refine kG9 ?_
  clear kG9 gG9
  revert X
  k_fill
  intro X
  refine wpAny_call ?_
  k_dflt (refine' code_def ?k1 ?k2 ?k3 ?k4 ?k5 ?kA ?kF ?kK ?k6 ?k7 ?k8 ?k9 ?kB ?_ ?c2 ?c3 ?c4 ?c5; (case kA => exact rfl); (case kF => exact rfl); (case kK => assumption); (case k1 => k_asm); (case k2 => k_asm); (case k3 => k_asm); (case k4 => k_asm); (case k5 => k_asm); (case k6 => k_is); (case k7 => k_is); (case k8 => ktr_room); (case k9 => exact BindsTo.of_eq rfl); (case c5 => decide); (case kB => exact locs rfl); (case c2 => exact rfl); (case c3 => exact rfl); (case c4 => exact rfl); k_whole; exact fun g0 L0 h0 => (ctH g0 L0 h0).out)⟩
theorem ned : Nonempty ((Heap) × (Addr) × (Heap)) := ⟨(default, default, default)⟩
noncomputable def ctd := pk ned fun v => Bx (ctA.1 v.1 v.2.1 v.2.2)
noncomputable def g0 : Heap := ctd.1
noncomputable def L0 : Addr := ctd.2.1
noncomputable def h0 : Heap := ctd.2.2
theorem ctB (C : At w mean mg mb 2 dp un cs outer A₀ base h₀ L m news s.heap) (hW : WsIn news x W) (hV : WsIn news y V) (hret : ∀ (al : Addr) (vs : List Value) (e : Nat) (nn : List (Addr × Obj)) (h' : Heap) (tk' : Nat), Fr h₀ L h' m → News h₀ L h' nn → (∀ p ∈ news, p ∈ nn) → (∀ p ∈ news, p.1 ≠ al) → (al, ({ cls := .type "list", data := .seq vs.toArray e } : Obj)) ∈ nn →     TripsAre nn vs (witF W V ((max (lng W) (lng V)).toNat + 1)) → Q (.ref al) { s with heap := h', toks := tk' }) : Bx (ctA.1 g0 L0 h0) := by
  refine ⟨?_⟩
  dsimp only [ctA]
  k_with_none
  k_with "pyIter ref" => (refine hold ?_)
  k_with "call builtin:list.append" => ((refine hold ?_))
  k_with "call ref" => (((with_reducible show wpAny _ _ (call (Value.ref 136) _) _ _ _); k_dflt (refine' longest_ct ⟨?k1.«_@»._hyg, ?k2.«_@»._hyg, ?k3.«_@»._hyg, ?k4.«_@»._hyg, ?k5.«_@»._hyg, ?k6.«_@»._hyg, ?k7.«_@»._hyg, ?k8.«_@»._hyg⟩ (WsIn.m1 ?kW.«_@»._hyg) (WsIn.m2 ?kW.«_@»._hyg) (WsIn.m3 ?kW.«_@»._hyg) (WsIn.m4 ?kW.«_@»._hyg) (WsIn.hi ?kW.«_@»._hyg) (WsIn.hl ?kW.«_@»._hyg) (WsIn.hb ?kW.«_@»._hyg) ?_; (case kW => assumption); (case k1 => k_asm); (case k2 => k_asm); (case k3 => k_in); (case k4 => k_asm); (case k5 => k_asm); (case k6 => first | exact rfl | assumption); (case k7 => ktr_room); (case k8 => ktr_units); intro t'z9 h'z9 tk'z9 F'z9 N'z9)))
  k_with "call ref" => (((with_reducible show wpAny _ _ (call (Value.ref 143) _) _ _ _); k_dflt (refine' indent_ct ⟨?k1.«_@»._hyg, ?k2.«_@»._hyg, ?k3.«_@»._hyg, ?k4.«_@»._hyg, ?k5.«_@»._hyg, ?k6.«_@»._hyg, ?k7.«_@»._hyg, ?k8.«_@»._hyg⟩ (WsIn.m1 ?kW.«_@»._hyg) (WsIn.m2 ?kW.«_@»._hyg) (WsIn.m3 ?kW.«_@»._hyg) (WsIn.m4 ?kW.«_@»._hyg) (WsIn.hi ?kW.«_@»._hyg) (WsIn.hl ?kW.«_@»._hyg) (WsIn.hb ?kW.«_@»._hyg) (WsIn.hc ?kW.«_@»._hyg) (WsIn.hnt ?kW.«_@»._hyg) ?kT.«_@»._hyg ?_; (case kW => assumption); (case k1 => k_asm); (case k2 => k_asm); (case k3 => k_in); (case k4 => k_asm); (case k5 => k_asm); (case k6 => first | exact rfl | assumption); (case k7 => ktr_room); (case k8 => ktr_units); (case kT => omega); intro t'z9 h'z9 tk'z9 F'z9 N'z9)))
  k_with "newList" => ((k_here; k_dflt (refine' newList_K ?k1.«_@»._hyg ?k2.«_@»._hyg ?_; (case k1 => k_asm); (case k2 => k_asm); k_whole); intro al h'z9 F'z9 N'z9 hal))
  refine nmG fun gG9 kG9 => ?_
  obtain ⟨B, F, X, N, T, kf, hd, hu⟩ := C
  refine kG9 ?_
  clear kG9 gG9
  revert X
  k_fill
  intro X
  have m1 := hW.m1
  have m2 := hW.m2
  have p1 := hV.m1
  have p2 := hV.m2
  have hl := hW.hl
  have hb := hW.hb
  have ql := hV.hl
  have qb := hV.hb
  have bw9 : 0 ≤ max ((W.cnt.length : Int) - 1) W.b ∧ max ((W.cnt.length : Int) - 1) W.b ≤ 50 := by omega
  have bv9 : 0 ≤ max ((V.cnt.length : Int) - 1) V.b ∧ max ((V.cnt.length : Int) - 1) V.b ≤ 50 := by omega
  intro FG' F' N' B' X' T'
  (try dsimp only); (try k_lift B'); (try k_fold)
  k_steps
  unfold Hold
  have hn : ((if max ((V.cnt.length : Int) - 1) V.b > max ((W.cnt.length : Int) - 1) W.b then max ((V.cnt.length : Int) - 1) V.b else max ((W.cnt.length : Int) - 1) W.b) + 1 + 1 - 1).toNat = (max (lng W) (lng V)).toNat + 1 := by
    unfold lng; split <;> omega
  (with_unfolding_all refine' mrange news (fun (_ : Unit) => [(("self" : Str), .ref x), (("other" : Str), .ref y), (("a" : Str), .ref al)]) (fun i _ n => ∃ vs e, (al, ({ cls := .type "list", data := .seq vs.toArray e } : Obj)) ∈ n ∧ TripsAre n vs (witF W V i)) () (by rfl) (by assumption) (by omega) (by omega) hn.symm ?mo (fun p hp => .tail _ hp) (by assumption) (by assumption) ?hk ?hj ?turn ?done ?hx)
  case hk => kst_all
  case mo => exact fun _ _ _ _ hs ⟨vs, e, h1, h2⟩ => ⟨vs, e, hs _ h1 (by simp [NotIt]), h2.mono fun p hp hc => hs p hp (by simp [NotIt, hc])⟩
  case hj => exact ⟨[], 0, .head _, .nil⟩
  case hx => exact fun _ => rfl
  case turn =>
    clear m1 m2 p1 p2
    intro i t c u nn ok h tk hlt hko hok hok2 hz9
    refine nmG fun gG9 kG9 => ?_
    obtain ⟨vs, e, hmem, htr⟩ := hz9
    refine kG9 ?_
    clear kG9 gG9
    intro F N
    dsimp only [kstB] at F
    replace hW := hW.mono fun p hp => hok p (hko p hp)
    replace hV := hV.mono fun p hp => hok p (hko p hp)
    have m1 := hW.m1
    have m2 := hW.m2
    have p1 := hV.m1
    have p2 := hV.m2
    have hts : i < 60 := by unfold lng at hlt; omega
    have hle := witF_len W V i
    have hvl := htr.length
    have okne := ok_ne N hmem (by simp [NotIt]) hok hok2 (fun p hp => Nat.ne_of_lt (hal p hp))
    k_steps
    · unfold Hold
      (with_reducible rename ∀ p ∈ nn, p.1 < _ => l1)
      refine mappend (by assumption) (by assumption) (.tail _ hmem) (by omega) ?_
      intro h2 F2 N2
      dsimp only
      k_steps
      refine TP.next () F2 N2 (fun p hp => upd_old (.tail _ (hok p hp)) (okne p hp)) (by kst_all) ⟨_, _, upd_mem, ?_⟩
      rw [witF_succ, if_pos (by unfold lev; omega)]
      refine TripsAre.snoc (htr.mono fun p hp hc => upd_old (.tail _ hp) (ne_addr N hp hmem (by rw [hc]; simp))) (upd_old (.head _) (Nat.ne_of_gt (l1 _ hmem)))
    · refine TP.next () (by assumption) (by assumption) (by assumption) (by kst_all) ⟨_, _, hmem, ?_⟩
      rw [witF_succ, if_neg (by unfold lev; omega), List.append_nil]
      exact htr
  case done =>
    intro c u nn h tk hkn hz9
    refine nmG fun gG9 kG9 => ?_
    obtain ⟨vs, e, hmem, htr⟩ := hz9
    refine kG9 ?_
    clear kG9 gG9
    intro F N
    dsimp only [kstB, envOf] at F N
    k_steps
    exact hret al vs e nn _ _ (by assumption) (by assumption) hkn (fun p hp => Nat.ne_of_lt (hal p hp)) hmem htr
theorem ctT : ctS w mean mg mb dp un gd cn cs a ccd cl outer A₀ base h₀ L m s Q E news x y W V := ⟨fun C hW hV hret => ctA.2 C hW hV hret (pk_all3 (ne := ned) (R := fun g0 L0 h0 => Bx (ctA.1 g0 L0 h0)) rfl rfl rfl (ctB C hW hV hret))⟩
theorem all : ∀ v : V0 × ((Addr) × (Addr) × (WsD) × (WsD)), ctS v.1.w v.1.mean v.1.mg v.1.mb v.1.dp v.1.un v.1.gd v.1.cn v.1.cs v.1.a v.1.ccd v.1.cl v.1.outer v.1.A₀ v.1.base v.1.h₀ v.1.L v.1.m v.1.s v.1.Q v.1.E v.1.news v.2.1 v.2.2.1 v.2.2.2.1 v.2.2.2.2 := pk_all (ne := ne) (P := fun v => ctS v.1.w v.1.mean v.1.mg v.1.mb v.1.dp v.1.un v.1.gd v.1.cn v.1.cs v.1.a v.1.ccd v.1.cl v.1.outer v.1.A₀ v.1.base v.1.h₀ v.1.L v.1.m v.1.s v.1.Q v.1.E v.1.news v.2.1 v.2.2.1 v.2.2.2.1 v.2.2.2.2) ctT
end Znlw_ct
section
variable {w : World} {mean : ExcName → Option Value} {mg mb : Str → Option Value} {dp un : Nat} {gd : Option (List Code)} {cn : Str} {cs : Scope} {a : Addr} {ccd : Value} {cl : List (Str × Addr)} {outer : List Env} {A₀ : Around} {base h₀ : Heap} {L : Addr} {m : Str → Option Value} {s : Shared} {Q E : Value → Shared → Prop} {news : List (Addr × Obj)}
theorem nlw_ct  (C : At w mean mg mb 2 dp un cs outer A₀ base h₀ L m news s.heap) {x y : Addr} {W V : WsD} (hW : WsIn news x W) (hV : WsIn news y V)
  (hret : ∀ (al : Addr) (vs : List Value) (e : Nat) (nn : List (Addr × Obj)) (h' : Heap) (tk' : Nat), Fr h₀ L h' m → News h₀ L h' nn → (∀ p ∈ news, p ∈ nn) → (∀ p ∈ news, p.1 ≠ al) → (al, ({ cls := .type "list", data := .seq vs.toArray e } : Obj)) ∈ nn →
    TripsAre nn vs (witF W V ((max (lng W) (lng V)).toNat + 1)) → Q (.ref al) { s with heap := h', toks := tk' }) :
  wpAny (model PySem.Challenge.rw_xe0048_01.row.prog w) (ktrTop dp un gd cn cs L a ccd cl outer) (call (.ref 171) [.ref x, .ref y]) Q E s := by
  exact (Znlw_ct.all ⟨⟨w, mean, mg, mb, dp, un, gd, cn, cs, a, ccd, cl, outer, A₀, base, h₀, L, m, s, Q, E, news⟩, x, y, W, V⟩).out C hW hV hret
end
end Mine
end
theorem Mine.rstB4 : True := by
  w_top off
  trivial
section
open PySem PySem.W PyProof.Rows PySem.Calls PySem.Spec
set_option Elab.async false
set_option maxRecDepth 100000
set_option maxHeartbeats 8000000
namespace Mine
local macro_rules | `(tactic| k_mem) => `(tactic| assumption)
local macro_rules | `(tactic| k_all) => `(tactic| first | assumption | exact ne_of_l1 (by assumption))
structure St where
  (cnt : List Int) (b n nt : Int)
noncomputable def bump (cnt : List Int) (b : Int) : List Int :=
  let c' := if b ≥ cnt.length then cnt ++ List.replicate (b - cnt.length + 1).toNat 0 else cnt
  c'.set b.toNat (c'.getD b.toNat 0 + 1)
noncomputable def stp (st : St) (k : Nat) : St := if k = 32 then ⟨st.cnt, st.b + 1, st.n + 1, st.nt⟩ else ⟨bump st.cnt st.b, 0, st.n + 1, st.nt + 1⟩
noncomputable def scan (l : List Nat) : St := l.foldl stp ⟨[], 0, 0, 0⟩
theorem scan_snoc (l : List Nat) (k : Nat) : scan (l ++ [k]) = stp (scan l) k := by
  unfold scan; rw [List.foldl_append]; rfl
theorem bump_len (cnt : List Int) (b : Int) (hb : 0 ≤ b) : ((bump cnt b).length : Int) = max (cnt.length : Int) (b + 1) := by
  unfold bump
  simp only [List.length_set]
  split
  · rw [List.length_append, List.length_replicate]; (first | lia | omega)
  · (first | lia | omega)
theorem bump_bd (cnt : List Int) (b M : Int) (hc : ∀ c ∈ cnt, 0 ≤ c ∧ c ≤ M) (hM : 0 ≤ M) : ∀ c ∈ bump cnt b, 0 ≤ c ∧ c ≤ M + 1 := by
  intro c hm
  unfold bump at hm
  have h1 : ∀ c ∈ (if b ≥ (cnt.length : Int) then cnt ++ List.replicate (b - cnt.length + 1).toNat 0 else cnt), 0 ≤ c ∧ c ≤ M := by
    intro c hc'
    split at hc'
    · rcases List.mem_append.mp hc' with h | h
      · exact hc c h
      · have e := (List.mem_replicate.mp h).2
        subst e
        exact ⟨Int.le_refl _, hM⟩
    · exact hc c hc'
  rcases List.mem_or_eq_of_mem_set hm with h | h
  · have := h1 c h; (first | lia | omega)
  · have := getD_bd h1 hM b.toNat
    (first | lia | omega)
structure Fine (st : St) (n : Nat) : Prop where
  hb : 0 ≤ st.b ∧ st.b ≤ n
  hn : 0 ≤ st.n ∧ st.n ≤ n
  hnt : 0 ≤ st.nt ∧ st.nt ≤ n
  hl : (st.cnt.length : Int) + st.b ≤ n ∨ (st.cnt.length : Int) ≤ n
  hc : ∀ c ∈ st.cnt, 0 ≤ c ∧ c ≤ (n : Int)
theorem fine_stp {st : St} {n : Nat} (h : Fine st n) (k : Nat) : Fine (stp st k) (n + 1) := by
  refine nmG fun gG9 kG9 => ?_
  obtain ⟨h1, h2, h3, h4, h5⟩ := h
  refine kG9 ?_
  clear kG9 gG9
  unfold stp
  split
  · exact ⟨by dsimp only; (first | lia | omega), by dsimp only; (first | lia | omega), by dsimp only; (first | lia | omega), .inr (by dsimp only; (first | lia | omega)), fun c hc => by have := h5 c hc; (first | lia | omega)⟩
  · refine ⟨by dsimp only; (first | lia | omega), by dsimp only; (first | lia | omega), by dsimp only; (first | lia | omega), .inr ?_, fun c hc => ?_⟩
    · dsimp only
      rw [bump_len _ _ h1.1]
      (first | lia | omega)
    · have := bump_bd _ _ _ h5 (by (first | lia | omega)) c hc
      (first | lia | omega)
theorem fine_scan (l : List Nat) : Fine (scan l) l.length := by
  suffices H : ∀ (l : List Nat) (st : St) (n : Nat), Fine st n → Fine (l.foldl stp st) (n + l.length) by
    have := H l ⟨[], 0, 0, 0⟩ 0 ⟨by simp, by simp, by simp, .inr (by simp), by simp⟩
    simpa [scan] using this
  intro l
  induction l with
  | nil => intro st n h; simpa using h
  | cons a r ih => intro st n h; rw [List.foldl_cons, List.length_cons, show n + (r.length + 1) = n + 1 + r.length by (first | lia | omega)]; exact ih _ _ (fine_stp h a)
noncomputable def isB (k : Nat) : Bool := k == 32 || k == 9
theorem tw_all {l : List Nat} (h : ∀ k ∈ l, k = 32 ∨ k = 9) : l.takeWhile isB = l := by
  induction l with
  | nil => rfl
  | cons a r ih =>
    have ha : isB a = true := by rcases h a (.head _) with rfl | rfl <;> rfl
    rw [List.takeWhile_cons, ha, if_pos rfl, ih fun k hk => h k (.tail _ hk)]
theorem tw_at : ∀ {l : List Nat} {i k : Nat}, l[i]? = some k → isB k = false → (∀ j ∈ l.take i, j = 32 ∨ j = 9) → l.takeWhile isB = l.take i
  | [], _, _, h, _, _ => by simp at h
  | a :: r, 0, k, h, hk, _ => by
    have : a = k := by simpa using h
    subst this
    rw [List.takeWhile_cons, hk]; rfl
  | a :: r, i + 1, k, h, hk, hb => by
    have ha : isB a = true := by rcases hb a (by simp) with rfl | rfl <;> rfl
    rw [List.takeWhile_cons, ha, if_pos rfl, List.take_succ_cons, tw_at (by simpa using h) hk fun j hj => hb j (by simp [hj])]
theorem k_sp {k : Nat} (h : ((⟨#[k]⟩ : Str) == PySem.Str.ofString " ") = true) : k = 32 := (str1_eq (s := " ") rfl).mp (beq_iff_eq.mp h)
theorem k_tb {k : Nat} (h : ((⟨#[k]⟩ : Str) == PySem.Str.ofString "\t") = true) : k = 9 := (str1_eq (s := "\t") rfl).mp (beq_iff_eq.mp h)
theorem k_nsp {k : Nat} (h : ((⟨#[k]⟩ : Str) == PySem.Str.ofString " ") = false) : k ≠ 32 := fun e => by
  rw [(beq_iff_eq (a := (⟨#[k]⟩ : Str))).mpr ((str1_eq (s := " ") rfl).mpr e)] at h; cases h
theorem k_ntb {k : Nat} (h : ((⟨#[k]⟩ : Str) == PySem.Str.ofString "\t") = false) : k ≠ 9 := fun e => by
  rw [(beq_iff_eq (a := (⟨#[k]⟩ : Str))).mpr ((str1_eq (s := "\t") rfl).mpr e)] at h; cases h
theorem take_snoc {l : List Nat} {i k : Nat} (h : l[i]? = some k) : l.take (i + 1) = l.take i ++ [k] := by simp [List.take_add_one, h]
structure Cs where
  (st : St) (tb tn tnt : Tok) (cl : Addr)
section
variable {w : World} {mean : ExcName → Option Value} {mg mb : Str → Option Value} {dp un : Nat} {gd : Option (List Code)} {cn : Str} {cs : Scope} {a : Addr} {ccd : Value} {cl : List (Str × Addr)} {outer : List Env} {A₀ : Around} {base h₀ : Heap} {L : Addr} {m : Str → Option Value} {s : Shared} {Q E : Value → Shared → Prop} {news : List (Addr × Obj)}
end
namespace Zws_ct
noncomputable def ctS (w : World) (mean : ExcName → Option Value) (mg : Str → Option Value) (mb : Str → Option Value) (dp : Nat) (un : Nat) (gd : Option (List Code)) (cn : Str) (cs : Scope) (a : Addr) (ccd : Value) (cl : List (Str × Addr)) (outer : List Env) (A₀ : Around) (base : Heap) (h₀ : Heap) (L : Addr) (m : Str → Option Value) (s : Shared) (Q : Value → Shared → Prop) (E : Value → Shared → Prop) (news : List (Addr × Obj)) (raw : Str) (tr : Tok) : Prop := Bx (
  ∀ (C : At w mean mg mb 2 dp un cs outer A₀ base h₀ L m news s.heap) (hlen : raw.length ≤ 50) (hret : ∀ (x : Addr) (W : WsD) (nn : List (Addr × Obj)) (h' : Heap) (tk' : Nat), Fr h₀ L h' m → News h₀ L h' nn → (∀ p ∈ news, p ∈ nn) → WsIn nn x W → W.raw = raw →     (⟨W.cnt, W.b, W.n, W.nt⟩ : St) = scan (raw.cps.toList.takeWhile isB) → Q (.ref x) { s with heap := h', toks := tk' }),
  wpAny (model PySem.Challenge.rw_xe0048_01.row.prog w) (ktrTop dp un gd cn cs L a ccd cl outer) (call (.ref 174) [.str raw tr]) Q E s)
theorem ne : Nonempty (V0 × ((Str) × (Tok))) := ne_V ⟨(default, default)⟩
noncomputable def ctc : V0 × ((Str) × (Tok)) := pk ne fun v => ctS v.1.w v.1.mean v.1.mg v.1.mb v.1.dp v.1.un v.1.gd v.1.cn v.1.cs v.1.a v.1.ccd v.1.cl v.1.outer v.1.A₀ v.1.base v.1.h₀ v.1.L v.1.m v.1.s v.1.Q v.1.E v.1.news v.2.1 v.2.2
noncomputable def w : World := ctc.1.w
noncomputable def mean : ExcName → Option Value := ctc.1.mean
noncomputable def mg : Str → Option Value := ctc.1.mg
noncomputable def mb : Str → Option Value := ctc.1.mb
noncomputable def dp : Nat := ctc.1.dp
noncomputable def un : Nat := ctc.1.un
noncomputable def gd : Option (List Code) := ctc.1.gd
noncomputable def cn : Str := ctc.1.cn
noncomputable def cs : Scope := ctc.1.cs
noncomputable def a : Addr := ctc.1.a
noncomputable def ccd : Value := ctc.1.ccd
noncomputable def cl : List (Str × Addr) := ctc.1.cl
noncomputable def outer : List Env := ctc.1.outer
noncomputable def A₀ : Around := ctc.1.A₀
noncomputable def base : Heap := ctc.1.base
noncomputable def h₀ : Heap := ctc.1.h₀
noncomputable def L : Addr := ctc.1.L
noncomputable def m : Str → Option Value := ctc.1.m
noncomputable def s : Shared := ctc.1.s
noncomputable def Q : Value → Shared → Prop := ctc.1.Q
noncomputable def E : Value → Shared → Prop := ctc.1.E
noncomputable def news : List (Addr × Obj) := ctc.1.news
noncomputable def raw : Str := ctc.2.1
noncomputable def tr : Tok := ctc.2.2
noncomputable def ctA : (ctR : Addr → Addr → Heap → Prop) ×' (∀ (C : At w mean mg mb 2 dp un cs outer A₀ base h₀ L m news s.heap) (hlen : raw.length ≤ 50) (hret : ∀ (x : Addr) (W : WsD) (nn : List (Addr × Obj)) (h' : Heap) (tk' : Nat), Fr h₀ L h' m → News h₀ L h' nn → (∀ p ∈ news, p ∈ nn) → WsIn nn x W → W.raw = raw →     (⟨W.cnt, W.b, W.n, W.nt⟩ : St) = scan (raw.cps.toList.takeWhile isB) → Q (.ref x) { s with heap := h', toks := tk' }), (∀ x dx h1, Bx (ctR x dx h1)) → wpAny (model PySem.Challenge.rw_xe0048_01.row.prog w) (ktrTop dp un gd cn cs L a ccd cl outer) (call (.ref 174) [.str raw tr]) Q E s) := ⟨_, by
  intro C hlen hret ctH
  k_with_none
  refine nmG fun gG9 kG9 => ?_
  obtain ⟨B, F, X, N, T, kf, hd, hu⟩ := C
  refine kG9 ?_
  clear kG9 gG9
  revert X
  k_fill
  intro X
  k_dflt (refine' call_cls ?k1 ?k2 ?k3 ?k4 ?k5 ?k6 ?_; (case k1 => k_asm); (case k2 => k_asm); (case k3 => k_asm); (case k4 => k_is); (case k5 => k_is); (case k6 => k_is); k_whole; exact fun x dx h1 => (ctH x dx h1).out)⟩
theorem onene : Nonempty (Addr × Addr × Heap) := ⟨(default, default, default)⟩
noncomputable def oned := pk onene fun v => Bx (ctA.1 v.1 v.2.1 v.2.2)
noncomputable def x : Addr := oned.1
noncomputable def dx : Addr := oned.2.1
noncomputable def h1 : Heap := oned.2.2
noncomputable def ctA2 : (ctR : Heap → Addr → Heap → Prop) ×' (∀ (C : At w mean mg mb 2 dp un cs outer A₀ base h₀ L m news s.heap) (hlen : raw.length ≤ 50) (hret : ∀ (x : Addr) (W : WsD) (nn : List (Addr × Obj)) (h' : Heap) (tk' : Nat), Fr h₀ L h' m → News h₀ L h' nn → (∀ p ∈ news, p ∈ nn) → WsIn nn x W → W.raw = raw →     (⟨W.cnt, W.b, W.n, W.nt⟩ : St) = scan (raw.cps.toList.takeWhile isB) → Q (.ref x) { s with heap := h', toks := tk' }), (∀ g0 L0 h0, Bx (ctR g0 L0 h0)) → Bx (ctA.1 x dx h1)) := ⟨_, by
  intro C hlen hret ctH
  refine ⟨?_⟩
  dsimp only [ctA]
  k_with_none
  refine nmG fun gG9 kG9 => ?_
  obtain ⟨B, F, X, N, T, kf, hd, hu⟩ := C
  refine kG9 ?_
  clear kG9 gG9
  revert X
  k_fill
  intro X
  intro F1 N1 l1 l2
  k_dflt (refine' code_def ?k1 ?k2 ?k3 ?k4 ?k5 ?kA ?kF ?kK ?k6 ?k7 ?k8 ?k9 ?kB ?_ ?c2 ?c3 ?c4 ?c5; (case kA => exact rfl); (case kF => exact rfl); (case kK => assumption); (case k1 => k_asm); (case k2 => k_asm); (case k3 => k_asm); (case k4 => k_asm); (case k5 => k_asm); (case k6 => k_is); (case k7 => k_is); (case k8 => ktr_room); (case k9 => exact BindsTo.of_eq rfl); (case c5 => decide); (case kB => exact locs rfl); (case c2 => exact rfl); (case c3 => exact rfl); (case c4 => exact rfl); k_whole; (intro g0 L0 h0; revert F1 N1 l1 l2; exact (ctH g0 L0 h0).out))⟩
theorem twone : Nonempty (Heap × Addr × Heap) := ⟨(default, default, default)⟩
noncomputable def twod := pk twone fun v => Bx (ctA2.1 v.1 v.2.1 v.2.2)
noncomputable def g0 : Heap := twod.1
noncomputable def L0 : Addr := twod.2.1
noncomputable def h0 : Heap := twod.2.2
noncomputable def ctB : (ctR : (Int) → (Tok) → (List (Addr × Obj)) → (Nat) → (Nat) → (Tok) → (St) → (Tok) → (Tok) → (Tok) → (Addr) → (Str → Option Value) → (List (Addr × Obj)) → (List (Addr × Obj)) → (Heap) → (Nat) → (List Value) → (Nat) → (List (Addr × Obj)) → Prop) ×' (∀ (C : At w mean mg mb 2 dp un cs outer A₀ base h₀ L m news s.heap) (hlen : raw.length ≤ 50) (hret : ∀ (x : Addr) (W : WsD) (nn : List (Addr × Obj)) (h' : Heap) (tk' : Nat), Fr h₀ L h' m → News h₀ L h' nn → (∀ p ∈ news, p ∈ nn) → WsIn nn x W → W.raw = raw →     (⟨W.cnt, W.b, W.n, W.nt⟩ : St) = scan (raw.cps.toList.takeWhile isB) → Q (.ref x) { s with heap := h', toks := tk' }), (∀ hr kr keep i k t st tb tn tnt cl u nn ok h tk vs e rest, Bx (ctR hr kr keep i k t st tb tn tnt cl u nn ok h tk vs e rest)) → Bx (ctA2.1 g0 L0 h0)) := ⟨_, by
  intro C hlen hret ctH
  refine ⟨?_⟩
  dsimp only [ctA2]
  k_with_none
  k_with "pyIter str" => (refine hold ?_)
  k_with "pyIter ref" => (refine hold ?_)
  k_with "newList" => ((k_here; k_dflt (refine' newList_K ?k1.«_@»._hyg ?k2.«_@»._hyg ?_; (case k1 => k_asm); (case k2 => k_asm); k_whole); intro al h'z9 F'z9 N'z9 hal))
  k_with "call type:tuple" => ((k_here; (with_reducible show wpAny _ _ (call (Value.type _) [Value.ref _]) _ _ _); k_dflt (refine' kde_tupleOf ?k1.«_@»._hyg ?k2.«_@»._hyg ?k3.«_@»._hyg ?k4.«_@»._hyg rfl ?_; (case k1 => k_asm); (case k2 => k_asm); (case k3 => exact News.isList (by k_asm) (by k_mem)); (case k4 => (rw [List.size_toArray]; have hz9z9 := IntsAre.length (by assumption); (first | lia | omega))); k_whole); intro D'z9 h'z9 F'z9 N'z9 l1z9; (try k_lt l1z9); (try k_sweep)))
  k_with "call builtin:len" => (((with_reducible show wpAny _ _ (call (Value.builtin "len") [Value.ref _]) _ _ _); refine mlen_list (News.isList (by with_reducible assumption) (by k_mem)) (by assumption) (by (first | lia | omega)) ?_))
  refine nmG fun gG9 kG9 => ?_
  obtain ⟨B, F, X, N, T, kf, hd, hu⟩ := C
  refine kG9 ?_
  clear kG9 gG9
  revert X
  k_fill
  intro X
  intro F1 N1 l1 l2
  intro FG' F' N' B' X' T'
  replace l2 := ltN l2
  have lx := l1
  (try dsimp only); (try k_lift B'); (try k_fold)
  k_steps
  unfold Hold
  (with_reducible rename News _ _ _ ((al, _) :: _) => NN)
  (with_reducible rename Fr _ _ _ _ => FF)
  refine nmG fun gG9 kG9 => ?_
  refine ex3 ((⟨_, _, _, NN, .tail _ (.head _), .tail _ (.tail _ (.head _)), fun p hp => .tail _ (.tail _ (.tail _ hp)), hal⟩ : ∃ keep : List (Addr × Obj), ∃ hr : Int, ∃ kr : Tok, News _ _ _ ((al, PySem.W.listOf #[] 0) :: keep) ∧ (x, instObj 174 dx) ∈ keep ∧ (dx, dictOf [⟨hr, .str "raw" kr, .str raw tr⟩] 1) ∈ keep ∧ (∀ p ∈ news, p ∈ keep) ∧ (∀ p ∈ keep, p.1 < al))) ?_
  intro keep hr kr y9w1
  refine an5 (y9w1) ?_
  intro NN kx kd kn kl
  clear y9w1
  refine kG9 ?_
  clear kG9 gG9
  (with_unfolding_all refine' mtextB keep (fun (c : Cs) => [(("self" : Str), .ref x), (("S" : Str), .str " " 422), (("T" : Str), .str "\t" 423), (("count" : Str), .ref c.cl), (("b" : Str), .int c.st.b c.tb), (("n" : Str), .int c.st.n c.tn), (("nt" : Str), .int c.st.nt c.tnt)])                          (fun i c n => c.st = scan (raw.cps.toList.take i) ∧ (∀ k ∈ raw.cps.toList.take i, k = 32 ∨ k = 9) ∧ (∀ p ∈ keep, p.1 ≠ c.cl) ∧ ∃ vs e, (c.cl, ({ cls := .type "list", data := .seq vs.toArray e } : Obj)) ∈ n ∧ IntsAre vs c.st.cnt)                        (fun c n => c.st = scan (raw.cps.toList.takeWhile isB) ∧ (∀ p ∈ keep, p.1 ≠ c.cl) ∧ ∃ vs e, (c.cl, ({ cls := .type "list", data := .seq vs.toArray e } : Obj)) ∈ n ∧ IntsAre vs c.st.cnt) ⟨⟨[], 0, 0, 0⟩, ?t1, ?t2, ?t3, al⟩ (by rfl) ?mo (fun p hp => .tail _ hp) FF NN ?hk ?hj ?turn ?jd ?done ?hx)
  case hk => kst_all
  case mo => exact fun _ _ _ _ hs ⟨e1, e2, e3, vs, e, h1, h2⟩ => ⟨e1, e2, e3, vs, e, hs _ h1 (by simp [NotIt]), h2⟩
  case hj => exact ⟨rfl, by simp, ne_of_l1 kl, [], 0, .head _, .nil⟩
  case hx => exact fun _ => rfl
  case jd =>
    intro c nn hz9
    refine nmG fun gG9 kG9 => ?_
    obtain ⟨e1, e2, e3, e4⟩ := hz9
    refine kG9 ?_
    clear kG9 gG9
    have e5 : raw.cps.toList.take raw.cps.size = raw.cps.toList := List.take_of_length_le (by simp)
    rw [e5] at e1 e2
    exact ⟨by rw [tw_all e2]; exact e1, e3, e4⟩
  case turn =>
    clear NN
    rintro i k t ⟨st, tb, tn, tnt, cl⟩ u nn ok h tk hik hko hok hok2 hz9
    refine nmG fun gG9 kG9 => ?_
    refine an4 (hz9) ?_
    intro e1 e2 e3 y9w1
    refine ex2 (y9w1) ?_
    intro vs e y9w2
    refine an2 (y9w2) ?_
    intro hmem hi
    clear y9w2 y9w1
    try clear hz9
    refine kG9 ?_
    clear kG9 gG9
    intro F N
    dsimp only [kstB] at F e1 e2 e3 hmem hi
    have okne := ok_ne N hmem (by simp [NotIt]) hok hok2 e3
    have hik' : raw.cps.toList[i]? = some k := by simpa using hik
    have hi50 : i < 50 := by
      have := (Array.getElem?_eq_some_iff.mp hik).1
      have hl : raw.cps.size ≤ 50 := hlen
      (first | lia | omega)
    have hfine : Fine st i := by
      have := fine_scan (raw.cps.toList.take i)
      rw [← e1] at this
      have hl : (raw.cps.toList.take i).length ≤ i := by simp; (first | lia | omega)
      exact ⟨by have := this.hb; (first | lia | omega), by have := this.hn; (first | lia | omega), by have := this.hnt; (first | lia | omega), by have := this.hl; (first | lia | omega), fun c hc => by have := this.hc c hc; (first | lia | omega)⟩
    refine nmG fun gG9 kG9 => ?_
    obtain ⟨f1, f2, f3, f4, f5⟩ := hfine
    obtain ⟨rest, N3, hrn, hrs⟩ := news_front N hmem
    refine kG9 ?_
    clear kG9 gG9
    clear N
    have hT : ∀ q : Nat, q = 32 ∨ q = 9 → k = q → (∀ j ∈ raw.cps.toList.take (i + 1), j = 32 ∨ j = 9) := by
      rintro q hq rfl j hj
      rw [take_snoc hik'] at hj
      rcases List.mem_append.mp hj with hj | hj
      · exact e2 j hj
      · rw [List.mem_singleton.mp hj]; exact hq
    (try dsimp only)
    revert hT; revert hrs; revert hrn; revert N3; revert f5; revert f4; revert f3; revert f2; revert f1; revert hi50; revert hik'; revert okne; revert F; revert hi; revert hmem; revert e3; revert e2; revert e1; revert hok; revert hko; revert kn; revert kd; revert kx; revert lx; revert l2; revert T'; revert X'; revert B'; revert FG'
    exact (ctH hr kr keep i k t st tb tn tnt cl u nn ok h tk vs e rest).out
  case done =>
    clear NN
    rintro ⟨st, tb, tn, tnt, cl⟩ u nn h tk hkn hz9
    refine nmG fun gG9 kG9 => ?_
    refine an3 (hz9) ?_
    intro e1 e3 y9w1
    refine ex2 (y9w1) ?_
    intro vs e y9w2
    refine an2 (y9w2) ?_
    intro hmem hi
    clear y9w2 y9w1
    try clear hz9
    refine kG9 ?_
    clear kG9 gG9
    intro F N
    dsimp only [kstB, envOf] at F N e1 e3 hmem hi
    have hfine : Fine st 50 := by
      have := fine_scan (raw.cps.toList.takeWhile isB)
      rw [← e1] at this
      have hl : (raw.cps.toList.takeWhile isB).length ≤ 50 := Nat.le_trans (List.IsPrefix.length_le (List.takeWhile_prefix _)) (by simpa [PySem.Str.length] using hlen)
      exact ⟨by have := this.hb; (first | lia | omega), by have := this.hn; (first | lia | omega), by have := this.hnt; (first | lia | omega), by have := this.hl; (first | lia | omega), fun c hc => by have := this.hc c hc; (first | lia | omega)⟩
    refine nmG fun gG9 kG9 => ?_
    obtain ⟨f1, f2, f3, f4, f5⟩ := hfine
    obtain ⟨rest, N3, hrn, hrs⟩ := news_front N (hkn _ kd)
    refine kG9 ?_
    clear kG9 gG9
    have kx' := hrs _ (hkn _ kx) (Nat.ne_of_gt l2)
    have kc' := hrs _ hmem (fun q => e3 _ kd q.symm)
    clear N
    k_steps
    (with_reducible rename News h₀ _ _ (_ :: _) => NL)
    have e9 : decide ((st.cnt.length : Int) ≤ 1) = decide (st.cnt.length ≤ 1) := by
      by_cases q : st.cnt.length ≤ 1 <;> simp [q] <;> (first | lia | omega)
    rw [e9] at NL
    refine hret x ⟨st.n, st.nt, st.b, st.cnt, raw, dx, _, _, _, _, _, _, _, _, _, _, _, _, _, _, _, _, vs, _, _, _⟩ _ _ _ (by assumption) NL (fun p hp => .tail _ (.tail _ (.tail _ (hrs p (hkn p (kn p hp)) (Nat.ne_of_lt (lx p hp)))))) ⟨.tail _ (.tail _ (.tail _ kx')), .tail _ (.tail _ (.head _)), .head _, .tail _ (.head _), hi, ?_, ?_, ?_, ?_⟩ rfl e1
    all_goals dsimp only
    · (first | lia | omega)
    · (first | lia | omega)
    · intro c hc
      have := f5 c hc
      (first | lia | omega)
    · (first | lia | omega)⟩
theorem ctBne : Nonempty ((Int) × (Tok) × (List (Addr × Obj)) × (Nat) × (Nat) × (Tok) × (St) × (Tok) × (Tok) × (Tok) × (Addr) × (Str → Option Value) × (List (Addr × Obj)) × (List (Addr × Obj)) × (Heap) × (Nat) × (List Value) × (Nat) × (List (Addr × Obj))) := ⟨(default, default, default, default, default, default, ⟨[], 0, 0, 0⟩, default, default, default, default, default, default, default, default, default, default, default, default)⟩
noncomputable def ctBd := pk ctBne fun v => Bx (ctB.1 v.1 v.2.1 v.2.2.1 v.2.2.2.1 v.2.2.2.2.1 v.2.2.2.2.2.1 v.2.2.2.2.2.2.1 v.2.2.2.2.2.2.2.1 v.2.2.2.2.2.2.2.2.1 v.2.2.2.2.2.2.2.2.2.1 v.2.2.2.2.2.2.2.2.2.2.1 v.2.2.2.2.2.2.2.2.2.2.2.1 v.2.2.2.2.2.2.2.2.2.2.2.2.1 v.2.2.2.2.2.2.2.2.2.2.2.2.2.1 v.2.2.2.2.2.2.2.2.2.2.2.2.2.2.1 v.2.2.2.2.2.2.2.2.2.2.2.2.2.2.2.1 v.2.2.2.2.2.2.2.2.2.2.2.2.2.2.2.2.1 v.2.2.2.2.2.2.2.2.2.2.2.2.2.2.2.2.2.1 v.2.2.2.2.2.2.2.2.2.2.2.2.2.2.2.2.2.2)
noncomputable def hrc : Int := ctBd.1
noncomputable def krc : Tok := ctBd.2.1
noncomputable def keepc : List (Addr × Obj) := ctBd.2.2.1
noncomputable def ic : Nat := ctBd.2.2.2.1
noncomputable def kc : Nat := ctBd.2.2.2.2.1
noncomputable def tc : Tok := ctBd.2.2.2.2.2.1
noncomputable def stc : St := ctBd.2.2.2.2.2.2.1
noncomputable def tbc : Tok := ctBd.2.2.2.2.2.2.2.1
noncomputable def tnc : Tok := ctBd.2.2.2.2.2.2.2.2.1
noncomputable def tntc : Tok := ctBd.2.2.2.2.2.2.2.2.2.1
noncomputable def clc : Addr := ctBd.2.2.2.2.2.2.2.2.2.2.1
noncomputable def uc : Str → Option Value := ctBd.2.2.2.2.2.2.2.2.2.2.2.1
noncomputable def nnc : List (Addr × Obj) := ctBd.2.2.2.2.2.2.2.2.2.2.2.2.1
noncomputable def okc : List (Addr × Obj) := ctBd.2.2.2.2.2.2.2.2.2.2.2.2.2.1
noncomputable def hc : Heap := ctBd.2.2.2.2.2.2.2.2.2.2.2.2.2.2.1
noncomputable def tkc : Nat := ctBd.2.2.2.2.2.2.2.2.2.2.2.2.2.2.2.1
noncomputable def vsc : List Value := ctBd.2.2.2.2.2.2.2.2.2.2.2.2.2.2.2.2.1
noncomputable def ec : Nat := ctBd.2.2.2.2.2.2.2.2.2.2.2.2.2.2.2.2.2.1
noncomputable def restc : List (Addr × Obj) := ctBd.2.2.2.2.2.2.2.2.2.2.2.2.2.2.2.2.2.2
theorem ctX1 (C : At w mean mg mb 2 dp un cs outer A₀ base h₀ L m news s.heap) (hlen : raw.length ≤ 50) (hret : ∀ (x : Addr) (W : WsD) (nn : List (Addr × Obj)) (h' : Heap) (tk' : Nat), Fr h₀ L h' m → News h₀ L h' nn → (∀ p ∈ news, p ∈ nn) → WsIn nn x W → W.raw = raw →     (⟨W.cnt, W.b, W.n, W.nt⟩ : St) = scan (raw.cps.toList.takeWhile isB) → Q (.ref x) { s with heap := h', toks := tk' }) : Bx (ctB.1 hrc krc keepc ic kc tc stc tbc tnc tntc clc uc nnc okc hc tkc vsc ec restc) := by
  refine ⟨?_⟩
  dsimp only [ctB]
  k_with_none
  k_with "pyIter str" => (refine hold ?_)
  k_with "pyIter ref" => (refine hold ?_)
  k_with "newList" => ((k_here; k_dflt (refine' newList_K ?k1.«_@»._hyg ?k2.«_@»._hyg ?_; (case k1 => k_asm); (case k2 => k_asm); k_whole); intro al h'z9 F'z9 N'z9 hal))
  k_with "call type:tuple" => ((k_here; (with_reducible show wpAny _ _ (call (Value.type _) [Value.ref _]) _ _ _); k_dflt (refine' kde_tupleOf ?k1.«_@»._hyg ?k2.«_@»._hyg ?k3.«_@»._hyg ?k4.«_@»._hyg rfl ?_; (case k1 => k_asm); (case k2 => k_asm); (case k3 => exact News.isList (by k_asm) (by k_mem)); (case k4 => (rw [List.size_toArray]; have hz9z9 := IntsAre.length (by assumption); (first | lia | omega))); k_whole); intro D'z9 h'z9 F'z9 N'z9 l1z9; (try k_lt l1z9); (try k_sweep)))
  k_with "call builtin:len" => (((with_reducible show wpAny _ _ (call (Value.builtin "len") [Value.ref _]) _ _ _); refine mlen_list (News.isList (by with_reducible assumption) (by k_mem)) (by assumption) (by (first | lia | omega)) ?_))
  refine nmG fun gG9 kG9 => ?_
  obtain ⟨B, F, X, N, T, kf, hd, hu⟩ := C
  refine kG9 ?_
  clear kG9 gG9
  revert X
  k_fill
  intro X
  intro FG' B' X' T' l2 lx kx kd kn hko hok e1 e2 e3 hmem hi F okne hik' hi50 f1 f2 f3 f4 f5 N3 hrn hrs hT
  k_steps
  · have hk := k_sp (by assumption)
    refine TP.next ⟨⟨stc.cnt, stc.b + 1, stc.n + 1, stc.nt⟩, _, _, _, _⟩ (by assumption) (by assumption) (fun p hp => .tail _ (hrs p (hok p hp) (okne p hp))) (by kst_all) ⟨?_, hT 32 (.inl rfl) hk, e3, vsc, ec, .head _, hi⟩
    rw [take_snoc hik', scan_snoc, ← e1, hk]; rfl
  · have hk := k_tb (by assumption)
    refine TP.next ⟨⟨_, 0, stc.n + 1, stc.nt + 1⟩, _, _, _, _⟩ (by assumption) (by assumption) (fun p hp => ?_) (by kst_all) ⟨?_, hT 9 (.inr rfl) hk, ?_, _, _, .head _, by assumption⟩
    · exact .tail _ (.tail _ (.tail _ (.tail _ (hrs p (hok p hp) (okne p hp)))))
    · rw [take_snoc hik', scan_snoc, ← e1, hk]
      unfold stp bump
      rw [if_neg (by decide), if_pos (by (first | lia | omega)), List.flatten_replicate_singleton]
    · intro p hp
      (with_reducible rename _ ∧ _ ∧ _ ∧ AllLt _ restc => l9)
      exact allLt_ne l9.2.2.2 p (hrs p (hok p (hko p hp)) (e3 p hp))
  · have hk := k_tb (by assumption)
    refine TP.next ⟨⟨_, 0, stc.n + 1, stc.nt + 1⟩, _, _, _, _⟩ (by assumption) (by assumption) (fun p hp => .tail _ (hrs p (hok p hp) (okne p hp))) (by kst_all) ⟨?_, hT 9 (.inr rfl) hk, e3, _, _, .head _, by assumption⟩
    rw [take_snoc hik', scan_snoc, ← e1, hk]
    unfold stp bump
    rw [if_neg (by decide), if_neg (by (first | lia | omega))]
  · have hk1 := k_nsp (by assumption)
    have hk2 := k_ntb (by assumption)
    refine TP.brk ⟨stc, _, _, _, _⟩ F N3 (fun p hp => .tail _ (hrs p (hok p hp) (okne p hp))) (by kst_all) ⟨?_, e3, vsc, ec, .head _, hi⟩
    rw [tw_at hik' (by simp [isB, hk1, hk2]) e2]
    exact e1
theorem ctBall (C : At w mean mg mb 2 dp un cs outer A₀ base h₀ L m news s.heap) (hlen : raw.length ≤ 50) (hret : ∀ (x : Addr) (W : WsD) (nn : List (Addr × Obj)) (h' : Heap) (tk' : Nat), Fr h₀ L h' m → News h₀ L h' nn → (∀ p ∈ news, p ∈ nn) → WsIn nn x W → W.raw = raw →     (⟨W.cnt, W.b, W.n, W.nt⟩ : St) = scan (raw.cps.toList.takeWhile isB) → Q (.ref x) { s with heap := h', toks := tk' }) : ∀ (hr : Int) (kr : Tok) (keep : List (Addr × Obj)) (i : Nat) (k : Nat) (t : Tok) (st : St) (tb : Tok) (tn : Tok) (tnt : Tok) (cl : Addr) (u : Str → Option Value) (nn : List (Addr × Obj)) (ok : List (Addr × Obj)) (h : Heap) (tk : Nat) (vs : List Value) (e : Nat) (rest : List (Addr × Obj)), Bx (ctB.1 hr kr keep i k t st tb tn tnt cl u nn ok h tk vs e rest) := fun hr kr keep i k t st tb tn tnt cl u nn ok h tk vs e rest => pk_all (ne := ctBne) (P := fun v => Bx (ctB.1 v.1 v.2.1 v.2.2.1 v.2.2.2.1 v.2.2.2.2.1 v.2.2.2.2.2.1 v.2.2.2.2.2.2.1 v.2.2.2.2.2.2.2.1 v.2.2.2.2.2.2.2.2.1 v.2.2.2.2.2.2.2.2.2.1 v.2.2.2.2.2.2.2.2.2.2.1 v.2.2.2.2.2.2.2.2.2.2.2.1 v.2.2.2.2.2.2.2.2.2.2.2.2.1 v.2.2.2.2.2.2.2.2.2.2.2.2.2.1 v.2.2.2.2.2.2.2.2.2.2.2.2.2.2.1 v.2.2.2.2.2.2.2.2.2.2.2.2.2.2.2.1 v.2.2.2.2.2.2.2.2.2.2.2.2.2.2.2.2.1 v.2.2.2.2.2.2.2.2.2.2.2.2.2.2.2.2.2.1 v.2.2.2.2.2.2.2.2.2.2.2.2.2.2.2.2.2.2)) (ctX1 C hlen hret) (hr, kr, keep, i, k, t, st, tb, tn, tnt, cl, u, nn, ok, h, tk, vs, e, rest)
theorem ctT : ctS w mean mg mb dp un gd cn cs a ccd cl outer A₀ base h₀ L m s Q E news raw tr := ⟨fun C hlen hret => ctA.2 C hlen hret (pk_all3 (ne := onene) (R := fun x dx h1 => Bx (ctA.1 x dx h1)) rfl rfl rfl (ctA2.2 C hlen hret (pk_all3 (ne := twone) (R := fun g0 L0 h0 => Bx (ctA2.1 g0 L0 h0)) rfl rfl rfl (ctB.2 C hlen hret (ctBall C hlen hret)))))⟩
theorem all : ∀ v : V0 × ((Str) × (Tok)), ctS v.1.w v.1.mean v.1.mg v.1.mb v.1.dp v.1.un v.1.gd v.1.cn v.1.cs v.1.a v.1.ccd v.1.cl v.1.outer v.1.A₀ v.1.base v.1.h₀ v.1.L v.1.m v.1.s v.1.Q v.1.E v.1.news v.2.1 v.2.2 := pk_all (ne := ne) (P := fun v => ctS v.1.w v.1.mean v.1.mg v.1.mb v.1.dp v.1.un v.1.gd v.1.cn v.1.cs v.1.a v.1.ccd v.1.cl v.1.outer v.1.A₀ v.1.base v.1.h₀ v.1.L v.1.m v.1.s v.1.Q v.1.E v.1.news v.2.1 v.2.2) ctT
end Zws_ct
section
variable {w : World} {mean : ExcName → Option Value} {mg mb : Str → Option Value} {dp un : Nat} {gd : Option (List Code)} {cn : Str} {cs : Scope} {a : Addr} {ccd : Value} {cl : List (Str × Addr)} {outer : List Env} {A₀ : Around} {base h₀ : Heap} {L : Addr} {m : Str → Option Value} {s : Shared} {Q E : Value → Shared → Prop} {news : List (Addr × Obj)}
theorem ws_ct  (C : At w mean mg mb 2 dp un cs outer A₀ base h₀ L m news s.heap) {raw : Str} {tr : Tok} (hlen : raw.length ≤ 50)
  (hret : ∀ (x : Addr) (W : WsD) (nn : List (Addr × Obj)) (h' : Heap) (tk' : Nat), Fr h₀ L h' m → News h₀ L h' nn → (∀ p ∈ news, p ∈ nn) → WsIn nn x W → W.raw = raw →
    (⟨W.cnt, W.b, W.n, W.nt⟩ : St) = scan (raw.cps.toList.takeWhile isB) → Q (.ref x) { s with heap := h', toks := tk' }) :
  wpAny (model PySem.Challenge.rw_xe0048_01.row.prog w) (ktrTop dp un gd cn cs L a ccd cl outer) (call (.ref 174) [.str raw tr]) Q E s := by
  exact (Zws_ct.all ⟨⟨w, mean, mg, mb, dp, un, gd, cn, cs, a, ccd, cl, outer, A₀, base, h₀, L, m, s, Q, E, news⟩, raw, tr⟩).out C hlen hret
end
end Mine
end
theorem Mine.rstB5 : True := by
  w_top off
  trivial
section
open PySem PySem.W PyProof.Rows PySem.Calls PySem.Spec
set_option Elab.async false
set_option maxRecDepth 100000
set_option maxHeartbeats 8000000
namespace Mine
local macro_rules | `(tactic| k_mem) => `(tactic| assumption)
local macro_rules | `(tactic| k_all) => `(tactic| first | assumption | exact ne_of_l1 (by assumption))
noncomputable def colF (size : Int) (l : List Nat) : Int := l.foldl (fun c k => if k = 32 then c + 1 else if k = 9 then c.fdiv size * size + size else c) 0
theorem colF_snoc (size : Int) (l : List Nat) (k : Nat) : colF size (l ++ [k]) = if k = 32 then colF size l + 1 else if k = 9 then (colF size l).fdiv size * size + size else colF size l := by
  unfold colF; rw [List.foldl_append]; rfl
noncomputable def colsF (l : List Nat) (n : Nat) : List Int := (List.range n).map fun (j : Nat) => colF (1 + j) l
theorem colsF_succ (l : List Nat) (n : Nat) : colsF l (n + 1) = colsF l n ++ [colF (1 + n) l] := by
  unfold colsF; rw [List.range_succ, List.map_append]; rfl
section
variable {w : World} {mean : ExcName → Option Value} {mg mb : Str → Option Value} {dp un : Nat} {gd : Option (List Code)} {cn : Str} {cs : Scope} {a : Addr} {ccd : Value} {cl : List (Str × Addr)} {outer : List Env} {A₀ : Around} {base h₀ : Heap} {L : Addr} {m : Str → Option Value} {s : Shared} {Q E : Value → Shared → Prop} {news : List (Addr × Obj)}
end
namespace Zcols_ct
noncomputable def ctS (w : World) (mean : ExcName → Option Value) (mg : Str → Option Value) (mb : Str → Option Value) (dp : Nat) (un : Nat) (gd : Option (List Code)) (cn : Str) (cs : Scope) (a : Addr) (ccd : Value) (cl : List (Str × Addr)) (outer : List Env) (A₀ : Around) (base : Heap) (h₀ : Heap) (L : Addr) (m : Str → Option Value) (s : Shared) (Q : Value → Shared → Prop) (E : Value → Shared → Prop) (news : List (Addr × Obj)) (row : Str) (tr : Tok) : Prop := Bx (
  ∀ (C : At w mean mg mb 1 dp un cs outer A₀ base h₀ L m news s.heap) (hlen : row.length ≤ 50) (hret : ∀ (al : Addr) (vs : List Value) (e : Nat) (nn : List (Addr × Obj)) (h' : Heap) (tk' : Nat), Fr h₀ L h' m → News h₀ L h' nn → (∀ p ∈ news, p ∈ nn) → (∀ p ∈ news, p.1 ≠ al) → (al, ({ cls := .type "list", data := .seq vs.toArray e } : Obj)) ∈ nn →     IntsAre vs (colsF row.cps.toList 6) → Q (.ref al) { s with heap := h', toks := tk' }),
  wpAny (model PySem.Challenge.rw_xe0048_01.row.prog w) (ktrTop dp un gd cn cs L a ccd cl outer) (call (.ref 230) [.str row tr]) Q E s)
theorem ne : Nonempty (V0 × ((Str) × (Tok))) := ne_V ⟨(default, default)⟩
noncomputable def ctc : V0 × ((Str) × (Tok)) := pk ne fun v => ctS v.1.w v.1.mean v.1.mg v.1.mb v.1.dp v.1.un v.1.gd v.1.cn v.1.cs v.1.a v.1.ccd v.1.cl v.1.outer v.1.A₀ v.1.base v.1.h₀ v.1.L v.1.m v.1.s v.1.Q v.1.E v.1.news v.2.1 v.2.2
noncomputable def w : World := ctc.1.w
noncomputable def mean : ExcName → Option Value := ctc.1.mean
noncomputable def mg : Str → Option Value := ctc.1.mg
noncomputable def mb : Str → Option Value := ctc.1.mb
noncomputable def dp : Nat := ctc.1.dp
noncomputable def un : Nat := ctc.1.un
noncomputable def gd : Option (List Code) := ctc.1.gd
noncomputable def cn : Str := ctc.1.cn
noncomputable def cs : Scope := ctc.1.cs
noncomputable def a : Addr := ctc.1.a
noncomputable def ccd : Value := ctc.1.ccd
noncomputable def cl : List (Str × Addr) := ctc.1.cl
noncomputable def outer : List Env := ctc.1.outer
noncomputable def A₀ : Around := ctc.1.A₀
noncomputable def base : Heap := ctc.1.base
noncomputable def h₀ : Heap := ctc.1.h₀
noncomputable def L : Addr := ctc.1.L
noncomputable def m : Str → Option Value := ctc.1.m
noncomputable def s : Shared := ctc.1.s
noncomputable def Q : Value → Shared → Prop := ctc.1.Q
noncomputable def E : Value → Shared → Prop := ctc.1.E
noncomputable def news : List (Addr × Obj) := ctc.1.news
noncomputable def row : Str := ctc.2.1
noncomputable def tr : Tok := ctc.2.2
noncomputable def ctA : (ctR : (Heap) → (Addr) → (Heap) → Prop) ×' (∀ (C : At w mean mg mb 1 dp un cs outer A₀ base h₀ L m news s.heap) (hlen : row.length ≤ 50) (hret : ∀ (al : Addr) (vs : List Value) (e : Nat) (nn : List (Addr × Obj)) (h' : Heap) (tk' : Nat), Fr h₀ L h' m → News h₀ L h' nn → (∀ p ∈ news, p ∈ nn) → (∀ p ∈ news, p.1 ≠ al) → (al, ({ cls := .type "list", data := .seq vs.toArray e } : Obj)) ∈ nn →     IntsAre vs (colsF row.cps.toList 6) → Q (.ref al) { s with heap := h', toks := tk' }), (∀ g0 L0 h0, Bx (ctR g0 L0 h0)) → wpAny (model PySem.Challenge.rw_xe0048_01.row.prog w) (ktrTop dp un gd cn cs L a ccd cl outer) (call (.ref 230) [.str row tr]) Q E s) := ⟨_, by
  intro C hlen hret ctH
  k_with_none
  refine nmG fun gG9 kG9 => ?_
  obtain ⟨B, F, X, N, T, kf, hd, hu⟩ := C
  refine kG9 ?_
  clear kG9 gG9
  revert X
  k_fill
  intro X
  refine wpAny_call ?_
  k_dflt (refine' code_def ?k1 ?k2 ?k3 ?k4 ?k5 ?kA ?kF ?kK ?k6 ?k7 ?k8 ?k9 ?kB ?_ ?c2 ?c3 ?c4 ?c5; (case kA => exact rfl); (case kF => exact rfl); (case kK => assumption); (case k1 => k_asm); (case k2 => k_asm); (case k3 => k_asm); (case k4 => k_asm); (case k5 => k_asm); (case k6 => k_is); (case k7 => k_is); (case k8 => ktr_room); (case k9 => exact BindsTo.of_eq rfl); (case c5 => decide); (case kB => exact locs rfl); (case c2 => exact rfl); (case c3 => exact rfl); (case c4 => exact rfl); k_whole; exact fun g0 L0 h0 => (ctH g0 L0 h0).out)⟩
theorem ned : Nonempty ((Heap) × (Addr) × (Heap)) := ⟨(default, default, default)⟩
noncomputable def ctd := pk ned fun v => Bx (ctA.1 v.1 v.2.1 v.2.2)
noncomputable def g0 : Heap := ctd.1
noncomputable def L0 : Addr := ctd.2.1
noncomputable def h0 : Heap := ctd.2.2
theorem ctB (C : At w mean mg mb 1 dp un cs outer A₀ base h₀ L m news s.heap) (hlen : row.length ≤ 50) (hret : ∀ (al : Addr) (vs : List Value) (e : Nat) (nn : List (Addr × Obj)) (h' : Heap) (tk' : Nat), Fr h₀ L h' m → News h₀ L h' nn → (∀ p ∈ news, p ∈ nn) → (∀ p ∈ news, p.1 ≠ al) → (al, ({ cls := .type "list", data := .seq vs.toArray e } : Obj)) ∈ nn →     IntsAre vs (colsF row.cps.toList 6) → Q (.ref al) { s with heap := h', toks := tk' }) : Bx (ctA.1 g0 L0 h0) := by
  refine ⟨?_⟩
  dsimp only [ctA]
  k_with_none
  k_with "pyIter str" => (refine hold ?_)
  k_with "pyIter ref" => (refine hold ?_)
  k_with "exec For Name Name cons nil" => ((k_here; (rename Fr _ _ _ _ => lF'z9); (with_unfolding_all refine' For_invVF lF'z9 ?k1.«_@»._hyg ?k2.«_@»._hyg ?_; (case k1 => exact rfl); (case k2 => exact rfl); k_whole)))
  k_with "newList" => ((k_here; k_dflt (refine' newList_K ?k1.«_@»._hyg ?k2.«_@»._hyg ?_; (case k1 => k_asm); (case k2 => k_asm); k_whole); intro al h'z9 F'z9 N'z9 hal))
  k_with "binaryOp Mult int int" => (refine mmul (by omega) (by omega) ?_)
  k_with "call builtin:list.append" => ((k_here; k_dflt (refine mappend (by with_reducible assumption) (by with_reducible assumption) (by k_mem) (by omega) ?_); intro h'z9 F'z9 N'z9))
  refine nmG fun gG9 kG9 => ?_
  obtain ⟨B, F, X, N, T, kf, hd, hu⟩ := C
  refine kG9 ?_
  clear kG9 gG9
  revert X
  k_fill
  intro X
  intro FG' F' N' B' X' T'
  (try dsimp only); (try k_lift B'); (try k_fold)
  k_steps
  unfold Hold
  (with_unfolding_all refine' mrange news (fun (_ : Unit) => [(("row" : Str), .str row tr), (("told" : Str), .ref al)]) (fun i _ n => ∃ vs e, (al, ({ cls := .type "list", data := .seq vs.toArray e } : Obj)) ∈ n ∧ IntsAre vs (colsF row.cps.toList i)) () (by rfl) (by assumption) (by decide) (by decide) (by rfl) ?mo (fun p hp => .tail _ hp) (by assumption) (by assumption) ?hk ?hj ?turn ?done ?hx)
  case hk => kst_all
  case mo => exact fun _ _ _ _ hs ⟨vs, e, h1, h2⟩ => ⟨vs, e, hs _ h1 (by simp [NotIt]), h2⟩
  case hj => exact ⟨[], 0, .head _, .nil⟩
  case hx => exact fun _ => rfl
  case turn =>
    intro i t c u nn ok h tk hlt hko hok hok2 hz9
    refine nmG fun gG9 kG9 => ?_
    obtain ⟨vs, e, hmem, hi⟩ := hz9
    refine kG9 ?_
    clear kG9 gG9
    intro F N
    dsimp only [kstB] at F
    have okne := ok_ne N hmem (by simp [NotIt]) hok hok2 (fun p hp => Nat.ne_of_lt (hal p hp))
    have hlen' : row.cps.toList.length ≤ 50 := by simpa [PySem.Str.length] using hlen
    have hvl : vs.length = (colsF row.cps.toList i).length := hi.length
    have hvl2 : (colsF row.cps.toList i).length = i := by simp [colsF]
    k_steps
    unfold Hold
    (with_unfolding_all refine' mtext nn (fun (c : Int × Tok) => [(("row" : Str), .str row tr), (("told" : Str), .ref al), (("size" : Str), .int (1 + i) t), (("column" : Str), .int c.1 c.2)]) (fun k c _ => c.1 = colF (1 + i) (row.cps.toList.take k) ∧ 0 ≤ c.1 ∧ c.1 ≤ 100 * (k : Int)) (0, ?tk02) (by rfl) ?mo2 (fun p hp => hp) (by assumption) (by assumption) ?hk2 ?hj2 ?turn2 ?done2 ?hx2)
    case hk2 => kst_all
    case mo2 => exact fun _ _ _ _ _ h => h
    case hj2 => exact ⟨rfl, Int.le_refl 0, by simp⟩
    case hx2 => exact fun _ => rfl
    case turn2 =>
      clear F N
      rintro j k tk2 ⟨col, tc⟩ u nn2 ok2 h tk hjk hko2 hok2' - hz9
      refine nmG fun gG9 kG9 => ?_
      obtain ⟨hJ, hJ0, hJ1⟩ := hz9
      refine kG9 ?_
      clear kG9 gG9
      intro F N
      dsimp only [kstB] at F hJ hJ0 hJ1
      have hjk' : row.cps.toList[j]? = some k := by simpa using hjk
      have hj50 : j < 50 := by
        have := (Array.getElem?_eq_some_iff.mp hjk).1
        have hl : row.cps.size ≤ 50 := hlen
        omega
      have hfd := fdiv_bd (a := col) (b := 1 + i) hJ0 (by omega)
      have hmd : col.fdiv (1 + i) * (1 + i) ≤ col := by
        rw [Int.fdiv_eq_ediv_of_nonneg _ (by omega)]
        exact Int.ediv_mul_le _ (by omega)
      have hm0 : 0 ≤ col.fdiv (1 + i) * (1 + i) := Int.mul_nonneg hfd.1 (by omega)
      k_steps
      · have hk := k_sp (by assumption)
        refine TP.next (_, _) (by assumption) (by assumption) (by assumption) (by kst_all) ⟨?_, by dsimp only; omega, by dsimp only; omega⟩
        rw [take_snoc hjk', colF_snoc, ← hJ, if_pos hk]
      · have hk1 := k_nsp (by assumption)
        have hk := k_tb (by assumption)
        refine TP.next (_, _) (by assumption) (by assumption) (by assumption) (by kst_all) ⟨?_, by dsimp only; omega, by dsimp only; omega⟩
        rw [take_snoc hjk', colF_snoc, ← hJ, if_neg hk1, if_pos hk]
      · have hk1 := k_nsp (by assumption)
        have hk := k_ntb (by assumption)
        refine TP.next (_, _) (by assumption) (by assumption) (by assumption) (by kst_all) ⟨?_, by dsimp only; omega, by dsimp only; omega⟩
        rw [take_snoc hjk', colF_snoc, ← hJ, if_neg hk1, if_neg hk]
    case done2 =>
      clear F N
      rintro ⟨col, tc⟩ u nn2 h tk hkn2 hz9
      refine nmG fun gG9 kG9 => ?_
      obtain ⟨hJ, hJ0, hJ1⟩ := hz9
      refine kG9 ?_
      clear kG9 gG9
      intro F N
      dsimp only [kstB, envOf] at F N hJ hJ0 hJ1
      replace hmem := hkn2 _ hmem
      k_steps
      refine TP.next () (by assumption) (by assumption) (fun p hp => upd_old (hkn2 p (hok p hp)) (okne p hp)) (by kst_all) ⟨_, _, upd_mem, ?_⟩
      rw [colsF_succ]
      have e5 : row.cps.toList.take row.cps.size = row.cps.toList := List.take_of_length_le (by simp)
      rw [e5] at hJ
      rw [← hJ]
      exact IntsAre.append hi (.cons _ _ .nil)
  case done =>
    intro c u nn h tk hkn hz9
    refine nmG fun gG9 kG9 => ?_
    obtain ⟨vs, e, hmem, htr⟩ := hz9
    refine kG9 ?_
    clear kG9 gG9
    intro F N
    dsimp only [kstB, envOf] at F N
    k_steps
    exact hret al vs e nn _ _ (by assumption) (by assumption) hkn (fun p hp => Nat.ne_of_lt (hal p hp)) hmem htr
theorem ctT : ctS w mean mg mb dp un gd cn cs a ccd cl outer A₀ base h₀ L m s Q E news row tr := ⟨fun C hlen hret => ctA.2 C hlen hret (pk_all3 (ne := ned) (R := fun g0 L0 h0 => Bx (ctA.1 g0 L0 h0)) rfl rfl rfl (ctB C hlen hret))⟩
theorem all : ∀ v : V0 × ((Str) × (Tok)), ctS v.1.w v.1.mean v.1.mg v.1.mb v.1.dp v.1.un v.1.gd v.1.cn v.1.cs v.1.a v.1.ccd v.1.cl v.1.outer v.1.A₀ v.1.base v.1.h₀ v.1.L v.1.m v.1.s v.1.Q v.1.E v.1.news v.2.1 v.2.2 := pk_all (ne := ne) (P := fun v => ctS v.1.w v.1.mean v.1.mg v.1.mb v.1.dp v.1.un v.1.gd v.1.cn v.1.cs v.1.a v.1.ccd v.1.cl v.1.outer v.1.A₀ v.1.base v.1.h₀ v.1.L v.1.m v.1.s v.1.Q v.1.E v.1.news v.2.1 v.2.2) ctT
end Zcols_ct
section
variable {w : World} {mean : ExcName → Option Value} {mg mb : Str → Option Value} {dp un : Nat} {gd : Option (List Code)} {cn : Str} {cs : Scope} {a : Addr} {ccd : Value} {cl : List (Str × Addr)} {outer : List Env} {A₀ : Around} {base h₀ : Heap} {L : Addr} {m : Str → Option Value} {s : Shared} {Q E : Value → Shared → Prop} {news : List (Addr × Obj)}
theorem cols_ct  (C : At w mean mg mb 1 dp un cs outer A₀ base h₀ L m news s.heap) {row : Str} {tr : Tok} (hlen : row.length ≤ 50)
  (hret : ∀ (al : Addr) (vs : List Value) (e : Nat) (nn : List (Addr × Obj)) (h' : Heap) (tk' : Nat), Fr h₀ L h' m → News h₀ L h' nn → (∀ p ∈ news, p ∈ nn) → (∀ p ∈ news, p.1 ≠ al) → (al, ({ cls := .type "list", data := .seq vs.toArray e } : Obj)) ∈ nn →
    IntsAre vs (colsF row.cps.toList 6) → Q (.ref al) { s with heap := h', toks := tk' }) :
  wpAny (model PySem.Challenge.rw_xe0048_01.row.prog w) (ktrTop dp un gd cn cs L a ccd cl outer) (call (.ref 230) [.str row tr]) Q E s := by
  exact (Zcols_ct.all ⟨⟨w, mean, mg, mb, dp, un, gd, cn, cs, a, ccd, cl, outer, A₀, base, h₀, L, m, s, Q, E, news⟩, row, tr⟩).out C hlen hret
end
end Mine
end
theorem Mine.rstM0 : True := by
  w_top off
  trivial
section
open PySem PySem.W PyProof.Rows PySem.Calls PySem.Spec
set_option Elab.async false
set_option maxRecDepth 100000
set_option maxHeartbeats 4000000
namespace Mine
noncomputable def mk (l : List Nat) : Str := ⟨l.toArray⟩
theorem mk_cps (l : List Nat) : (mk l).cps.toList = l := rfl
theorem mk_append (a b : List Nat) : mk a ++ mk b = mk (a ++ b) := PySem.Str.ext' (by simp [mk, PySem.Str.cps_append])
theorem mk_len (l : List Nat) : (mk l).length = l.length := by simp [mk, PySem.Str.length]
theorem mk_inj {a b : List Nat} (h : mk a = mk b) : a = b := by
  have := congrArg (fun x : Str => x.cps.toList) h
  exact this
theorem mk_of (x : Str) : mk x.cps.toList = x := PySem.Str.ext' (by simp [mk])
/-- runs of blanks ahead of tabs, and the blanks behind the last tab -/
noncomputable def enc (rs : List Nat) (b : Nat) : List Nat := (rs.flatMap fun r => List.replicate r 32 ++ [9]) ++ List.replicate b 32
theorem enc_cons (r : Nat) (rs : List Nat) (b : Nat) : enc (r :: rs) b = List.replicate r 32 ++ 9 :: enc rs b := by
  simp [enc]
theorem enc_nil (b : Nat) : enc [] b = List.replicate b 32 := by simp [enc]
noncomputable def bl (n : Nat) : List Nat := List.replicate n 32
noncomputable def tab : Str := mk [9]
theorem join_enc (rs : List Nat) (b : Nat) : PySem.Str.join tab ((rs ++ [b]).map fun n => mk (bl n)) = mk (enc rs b) := by
  induction rs with
  | nil => rw [enc_nil]; rfl
  | cons r rs ih =>
    have h : ∀ (x : Str) (l : List Str), l ≠ [] → PySem.Str.join tab (x :: l) = x ++ tab ++ PySem.Str.join tab l := by
      intro x l hl
      cases l with
      | nil => exact absurd rfl hl
      | cons y r => rfl
    rw [List.cons_append, List.map_cons, h _ _ (by simp), ih, enc_cons, tab, mk_append, mk_append]
    simp [bl]
noncomputable def jn (c : Nat) : List (List Nat) → List Nat
  | [] => []
  | [x] => x
  | x :: r => x ++ c :: jn c r
theorem jn_cons (c : Nat) (x : List Nat) {r : List (List Nat)} (h : r ≠ []) : jn c (x :: r) = x ++ c :: jn c r := by
  cases r with
  | nil => exact absurd rfl h
  | cons y r => rfl
theorem first_c {c : Nat} : ∀ {x y A B : List Nat}, c ∉ x → c ∉ y → x ++ c :: A = y ++ c :: B → x = y ∧ A = B
  | [], [], _, _, _, _, h => ⟨rfl, by simpa using h⟩
  | [], y :: ys, _, _, _, hy, h => by
    simp only [List.nil_append, List.cons_append, List.cons.injEq] at h
    exact absurd (h.1 ▸ List.Mem.head _) hy
  | x :: xs, [], _, _, hx, _, h => by
    simp only [List.nil_append, List.cons_append, List.cons.injEq] at h
    exact absurd (h.1 ▸ List.Mem.head _) hx
  | x :: xs, y :: ys, _, _, hx, hy, h => by
    simp only [List.cons_append, List.cons.injEq] at h
    obtain ⟨h1, h2⟩ := first_c (fun q => hx (.tail _ q)) (fun q => hy (.tail _ q)) h.2
    exact ⟨by rw [h.1, h1], h2⟩
theorem jn_uniq {c : Nat} : ∀ {ps qs : List (List Nat)}, ps ≠ [] → qs ≠ [] → (∀ p ∈ ps, c ∉ p) → (∀ q ∈ qs, c ∉ q) → jn c ps = jn c qs → ps = qs
  | [], _, h, _, _, _, _ => absurd rfl h
  | _ :: _, [], _, h, _, _, _ => absurd rfl h
  | [x], [y], _, _, _, _, h => by rw [show x = y from h]
  | [x], y :: z :: r, _, _, hp, _, h => by
    rw [jn_cons c y (by simp)] at h
    have : c ∈ x := by rw [show x = _ from h]; simp
    exact absurd this (hp x (.head _))
  | x :: z :: r, [y], _, _, _, hq, h => by
    rw [jn_cons c x (by simp)] at h
    have : c ∈ y := by rw [← show _ = y from h]; simp
    exact absurd this (hq y (.head _))
  | x :: a :: r, y :: b :: t, _, _, hp, hq, h => by
    rw [jn_cons c x (by simp), jn_cons c y (by simp)] at h
    obtain ⟨h1, h2⟩ := first_c (hp x (.head _)) (hq y (.head _)) h
    rw [h1, jn_uniq (by simp) (by simp) (fun p q => hp p (.tail _ q)) (fun p q => hq p (.tail _ q)) h2]
theorem join_jn (c : Nat) : ∀ (ps : List Str), (PySem.Str.join ⟨#[c]⟩ ps).cps.toList = jn c (ps.map fun p => p.cps.toList)
  | [] => rfl
  | [x] => rfl
  | x :: y :: r => by
    show (x ++ ⟨#[c]⟩ ++ PySem.Str.join ⟨#[c]⟩ (y :: r)).cps.toList = _
    have ih := join_jn c (y :: r)
    rw [List.map_cons, jn_cons c _ (by simp), ← ih]
    simp [PySem.Str.cps_append]
theorem split_enc (rs : List Nat) (b : Nat) : Txt.split (mk (enc rs b)) tab = (rs ++ [b]).map fun n => mk (bl n) := by
  have h1 := StrLaws.join_split (mk (enc rs b)) tab
  have h2 := StrLaws.split_free (mk (enc rs b)) 9
  have h3 := split_pos (mk (enc rs b)) tab
  have e : (Txt.split (mk (enc rs b)) tab).map (fun p => p.cps.toList) = ((rs ++ [b]).map fun n => mk (bl n)).map fun p => p.cps.toList := by
    refine jn_uniq (c := 9) ?_ (by simp) ?_ ?_ ?_
    · intro q
      have := congrArg List.length q
      simp at this
      rw [this] at h3
      simp at h3
    · intro p hp
      obtain ⟨q, hq, rfl⟩ := List.mem_map.mp hp
      exact h2 q hq
    · intro p hp
      refine nmG fun gG9 kG9 => ?_
      obtain ⟨q, hq, rfl⟩ := List.mem_map.mp hp
      obtain ⟨n, _, rfl⟩ := List.mem_map.mp hq
      refine kG9 ?_
      clear kG9 gG9
      simp [mk, bl, List.mem_replicate]
    · rw [← join_jn, ← join_jn]
      have h4 : PySem.Str.join ⟨#[9]⟩ (Txt.split (mk (enc rs b)) tab) = mk (enc rs b) := h1
      rw [h4]
      exact congrArg (fun x : Str => x.cps.toList) (join_enc rs b).symm
  have inj : ∀ (ps qs : List Str), ps.map (fun p => p.cps.toList) = qs.map (fun p => p.cps.toList) → ps = qs := by
    intro ps
    induction ps with
    | nil => intro qs h; cases qs with | nil => rfl | cons _ _ => simp at h
    | cons a r ih =>
      intro qs h
      cases qs with
      | nil => simp at h
      | cons b t =>
        simp only [List.map_cons, List.cons.injEq] at h
        rw [ih t h.2, PySem.Str.ext' (Array.toList_inj.mp h.1)]
  exact inj _ _ e
theorem txt_join (sep : Str) (ps : List Str) : Txt.join sep ps = PySem.Str.join sep ps := StrLaws.glued_eq_join sep ps
theorem enc_len_rev (rs : List Nat) (b : Nat) : (enc rs.reverse b).length = (enc rs b).length := by
  unfold enc
  simp only [List.length_append, List.length_flatMap, List.length_replicate, List.length_cons, List.length_nil]
  rw [List.map_reverse, List.sum_reverse]
end Mine
end
theorem Mine.rstL2 : True := by
  w_top off
  trivial
section
open PySem PySem.W PyProof.Rows PySem.Calls PySem.Spec
set_option Elab.async false
set_option maxRecDepth 100000
set_option maxHeartbeats 4000000
namespace Mine
section
variable {vs : List Value}
theorem sl_upto_neg : (slicePick vs.toArray none (some (-1)) none).toList = vs.take (vs.length - 1) := by
  have e : sliceBounds none (some (-1)) none vs.toArray.size = (((0 : Nat) : Int), ((vs.toArray.size - 1 : Nat) : Int), 1) := by
    simp only [sliceBounds, Option.getD_none, show (1 : Int) > 0 by decide, if_true, if_pos (show (-1 : Int) < 0 by decide)]
    congr 1
    congr 1
    (first | lia | omega)
  rw [kmk_pick_nat _ e]
  show (vs.drop 0).take (vs.toArray.size - 1 - 0) = _
  rw [List.drop_zero, Nat.sub_zero, List.size_toArray]
theorem sl_from_neg : (slicePick vs.toArray (some (-1)) none none).toList = vs.drop (vs.length - 1) := by
  have e : sliceBounds (some (-1)) none none vs.toArray.size = (((vs.toArray.size - 1 : Nat) : Int), ((vs.toArray.size : Nat) : Int), 1) := by
    simp only [sliceBounds, Option.getD_none, show (1 : Int) > 0 by decide, if_true, if_pos (show (-1 : Int) < 0 by decide)]
    congr 1
    (first | lia | omega)
  rw [kmk_pick_nat _ e]
  show (vs.drop (vs.toArray.size - 1)).take (vs.toArray.size - (vs.toArray.size - 1)) = _
  rw [List.size_toArray, List.take_of_length_le (by rw [List.length_drop]; (first | lia | omega))]
theorem sl_rev : (slicePick vs.toArray none none (some (-1))).toList = vs.reverse := by rw [krv_pick]
end
theorem strs_values : ∀ l : List (Str × Tok), StrsAre (strValues l) (l.map (·.1))
  | [] => .nil
  | (x, t) :: r => .cons x t (strs_values r)
theorem strs_rev {vs : List Value} {ss : List Str} (h : StrsAre vs ss) : StrsAre vs.reverse ss.reverse := by
  induction h with
  | nil => exact .nil
  | cons y t _ ih => rw [List.reverse_cons, List.reverse_cons]; exact ih.append' (.cons y t .nil)
section
variable {prog : Program} {w : World} {A : Around} {E : Value → Shared → Prop} {s : Shared} {h₀ : Heap} {L : Addr} {m : Str → Option Value} {nn : List (Addr × Obj)} {Q : Value → Shared → Prop}
theorem msplit {x y : Str} {t u : Tok} (F : Fr h₀ L s.heap m) (N : News h₀ L s.heap nn) (hy : (y.length == 0) = false) (hx : x.length ≤ 1000)
    (h : ∀ D vs h' k, Fr h₀ L h' m → News h₀ L h' ((D, ({ cls := .type "list", data := .seq vs.toArray } : Obj)) :: nn) → (∀ p ∈ nn, p.1 < D) → StrsAre vs (Txt.split x y) → vs.length ≤ x.length + 2 → Q (.ref D) { s with heap := h', toks := k }) :
    wpAny (model prog w) A (call (.builtin "str.split") [.str x t, .str y u]) Q E s :=
  splitN1 F N hy (fun l h' k e F' N' => h _ (strValues l) h' k F' N' (fun p hp => Heap.lt_size (N p hp).1) (e ▸ strs_values l) (by simpa [strValues] using len_le_of_split e)) (by rw [sizeLine_eq]; (first | lia | omega))
theorem madd {l b : Addr} {vs ws : List Value} (F : Fr h₀ L s.heap m) (N : News h₀ L s.heap nn) (hl : s.heap.IsList l vs.toArray) (hb : s.heap.IsList b ws.toArray) (hsz : vs.length + ws.length ≤ 1000)
    (h : ∀ D h', Fr h₀ L h' m → News h₀ L h' ((D, ({ cls := .type "list", data := .seq (vs ++ ws).toArray } : Obj)) :: nn) → (∀ p ∈ nn, p.1 < D) → Q (.ref D) { s with heap := h' }) :
    wpAny (model prog w) A (binaryOp .Add (.ref l) (.ref b)) Q E s :=
  add_lists F N hl hb (fun h' F' N' => h _ h' F' N' fun p hp => Heap.lt_size (N p hp).1) (by rw [sizeLine_eq]; (first | lia | omega))
theorem mjoin {D : Addr} {vs : List Value} {ys : List Str} {x : Str} {t : Tok} (hl : s.heap.IsList D vs.toArray) (hi : StrsAre vs ys) (hsep : x.length ≤ 64) (hok : (ys.map (·.length)).sum + ys.length * 64 ≤ 1000000)
    (h : ∀ t' k, Q (.str (Txt.join x ys) t') { s with toks := k }) : wpAny (model prog w) A (call (.builtin "str.join") [.str x t, .ref D]) Q E s :=
  join_listC hl hi hsep (by (first | lia | omega)) h
end
end Mine
end
theorem Mine.rstB6 : True := by
  w_top off
  trivial
section
open PySem PySem.W PyProof.Rows PySem.Calls PySem.Spec
set_option Elab.async false
set_option maxRecDepth 100000
set_option maxHeartbeats 8000000
namespace Mine
local macro_rules | `(tactic| k_mem) => `(tactic| assumption)
section
variable {w : World} {mean : ExcName → Option Value} {mg mb : Str → Option Value} {dp un : Nat} {gd : Option (List Code)} {cn : Str} {cs : Scope} {a : Addr} {ccd : Value} {cl : List (Str × Addr)} {outer : List Env} {A₀ : Around} {base h₀ : Heap} {L : Addr} {m : Str → Option Value} {s : Shared} {Q E : Value → Shared → Prop} {news : List (Addr × Obj)}
theorem turned_sz (rs : List Nat) (b : Nat) : (((rs.reverse ++ [b]).map fun n => mk (bl n)).map (·.length)).sum ≤ (enc rs b).length ∧ rs.length ≤ (enc rs b).length := by
  have h1 : ∀ rs : List Nat, ((rs.map fun n => (mk (bl n)).length).sum + rs.length) = (rs.map (· + (0 + 1))).sum := by
    intro rs
    induction rs with
    | nil => rfl
    | cons r t ih =>
      simp only [List.map_cons, List.sum_cons, List.length_cons, ← ih, mk_len, bl, List.length_replicate]
      (first | lia | omega)
  have h2 := h1 rs
  unfold enc
  simp only [List.map_map, List.map_append, List.sum_append, List.map_reverse, List.sum_reverse, List.map_cons, List.map_nil, List.sum_cons, List.sum_nil, List.length_append, List.length_flatMap, List.length_replicate, List.length_cons, List.length_nil, Function.comp_def, ← h2, mk_len, bl]
  (first | lia | omega)
theorem turned_ct (C : At w mean mg mb 1 dp un cs outer A₀ base h₀ L m news s.heap) {rs : List Nat} {b : Nat} {tr : Tok} (hlen : (enc rs b).length ≤ 50)
  (hret : ∀ (t : Tok) (h' : Heap) (tk' : Nat), Fr h₀ L h' m → News h₀ L h' news → Q (.str (mk (enc rs.reverse b)) t) { s with heap := h', toks := tk' }) :
  wpAny (model PySem.Challenge.rw_xe0048_01.row.prog w) (ktrTop dp un gd cn cs L a ccd cl outer) (call (.ref 206) [.str (mk (enc rs b)) tr]) Q E s := by
  k_with_none
  k_with "call builtin:str.split" => ((k_here; k_dflt (refine msplit (by k_asm) (by k_asm) (by rfl) (by (first | lia | omega)) ?_); intro D'z9 vs'z9 h'z9 k'z9 F'z9 N'z9 l1z9 hS'z9 hL'z9))
  k_with "subscriptTail Name Slice ref ref" => (refine hold ?_)
  k_with "subscriptTail Name Slice ref ref" => ((k_here; k_dflt (refine' kmk_slice3_lit ?F.«_@»._hyg ?N.«_@»._hyg ?l.«_@»._hyg ?p1.«_@»._hyg ?p2.«_@»._hyg ?p3.«_@»._hyg ?p4.«_@»._hyg ?e.«_@»._hyg ?_ ?s.«_@»._hyg ?t.«_@»._hyg ?z.«_@»._hyg; (case F => k_asm); (case N => k_asm); (case l => exact News.isList (by k_asm) (by k_mem)); (case p1 => first | exact IsPart.none | exact IsPart.int _ _); (case p2 => first | exact IsPart.none | exact IsPart.int _ _); (case p3 => first | exact IsPart.none | exact IsPart.int _ _); (case p4 => decide); (case e => first | exact sl_upto_neg | exact sl_from_neg | exact sl_rev); (case s => with_unfolding_all rfl); (case t => kmk_pure); (case z => (rw [List.size_toArray, sizeLine_eq]; (try simp only [List.length_take, List.length_drop, List.length_reverse]); (first | lia | omega)))); intro D'z9 h'z9 F'z9 N'z9 l1z9))
  k_with "binaryOp Add ref ref" => ((k_here; k_dflt (refine' madd ?F.«_@»._hyg ?N.«_@»._hyg ?l.«_@»._hyg ?r.«_@»._hyg ?z.«_@»._hyg ?_; (case F => k_asm); (case N => k_asm); (case l => exact News.isList (by k_asm) (by k_mem)); (case r => exact News.isList (by k_asm) (by k_mem)); (case z => ((try simp only [List.length_take, List.length_drop, List.length_reverse]); (first | lia | omega)))); intro D'z9 h'z9 F'z9 N'z9 l1z9))
  k_with "call builtin:str.join" => ((refine hold ?_))
  refine nmG fun gG9 kG9 => ?_
  obtain ⟨B, F, X, N, T, kf, hd, hu⟩ := C
  refine kG9 ?_
  clear kG9 gG9
  revert X
  k_fill
  intro X
  have hl : (mk (enc rs b)).length ≤ 50 := by rw [mk_len]; exact hlen
  refine wpAny_call ?_
  k_dflt cell_enter
  k_steps
  unfold Hold
  (with_reducible rename StrsAre _ _ => hS)
  have et : (PySem.Str.ofString "\t") = tab := by rfl
  rw [et, split_enc] at hS
  have hlen9 := hS.length
  simp only [List.length_map, List.length_append, List.length_cons, List.length_nil] at hlen9
  have hS2 := StrsAre.append' (strs_rev (hS.take' (rs.length))) (hS.drop' (rs.length))
  have e1 : (((rs ++ [b]).map fun n => mk (bl n)).take rs.length).reverse ++ ((rs ++ [b]).map fun n => mk (bl n)).drop rs.length = (rs.reverse ++ [b]).map fun n => mk (bl n) := by
    rw [List.map_append, List.take_append_of_le_length (by simp), List.drop_append_of_le_length (by simp), List.take_of_length_le (by simp), List.drop_of_length_le (by simp)]
    simp
  rw [e1] at hS2
  have e7 : rs.length = rs.length + (0 + 1) - 1 := by (first | lia | omega)
  have hS3 := hS2
  rw [e7, ← hlen9] at hS3
  refine mjoin (News.isList (by assumption) (.head _)) hS3 (by decide) ?_ ?_
  · have hs := turned_sz rs b
    have h8 : ((rs.reverse ++ [b]).map fun n => mk (bl n)).length = rs.length + 1 := by simp
    rw [h8]
    (first | lia | omega)
  · intro t' k
    rw [et, txt_join, join_enc]
    k_steps
    exact cb_retS hret rfl (by assumption) (cb_drop (by assumption) (fun p hp => .tail _ (.tail _ (.tail _ (.tail _ (.tail _ hp))))))
end
end Mine
end
theorem Mine.rstL3 : True := by
  w_top off
  trivial
section
open PySem PySem.W PyProof.Rows PySem.Calls PySem.Spec
set_option Elab.async false
set_option maxRecDepth 100000
set_option maxHeartbeats 4000000
namespace Mine
section
variable {prog : Program} {w : World} {A : Around} {E : Value → Shared → Prop} {s : Shared} {h₀ : Heap} {L : Addr} {m : Str → Option Value} {nn : List (Addr × Obj)}
theorem mstoreC {Q : Unit → Shared → Prop} {cn : Str} {cs : Scope} {a : Addr} {ccd : Value} {cl : List (Str × Addr)} {x : Str} {c : Addr} {o : Obj} {v₀ : Option Value} {v : Value} (F : Fr h₀ L s.heap m) (N : News h₀ L s.heap nn) (hc : cl.lookup x = some c) (hm : (c, o) ∈ nn) (hd : o.data = .cell v₀)
    (h : ∀ h' o', Fr h₀ L h' m → News h₀ L h' (upd nn c o') → o'.data = .cell (some v) → Q () { s with heap := h' })
    (hk : cs.kind = .function := by rfl) (hx : (envX cn cs L a ccd cl).kindOf x = some .cell := by rfl) : wpAny (model prog w) A (storeName (envX cn cs L a ccd cl) x v) Q E s := by
  have hmem := N _ hm
  refine wpAny_storeName_cell hk hx hc ⟨o, hmem.1, hd⟩ fun h' hv hs => ?_
  refine nmG fun gG9 kG9 => ?_
  obtain ⟨o', ho', hd'⟩ := hv
  refine kG9 ?_
  clear kG9 gG9
  exact h h' o' (F.change hs hmem.2.1 hmem.2.2) (news_upd N hm hs ho') hd'
theorem mitem_strs {Q : Value → Shared → Prop} {value slice : Expr} {l : Addr} {vs : List Value} {ys : List Str} {k : Int} {u : Tok} {e : Nat} (N : News h₀ L s.heap nn) (hm : (l, ({ cls := .type "list", data := .seq vs.toArray e } : Obj)) ∈ nn) (hi : StrsAre vs ys)
    (h0 : 0 ≤ k) (hk : k < ys.length) (hl : ys.length ≤ 1000) (h : ∀ t, Q (.str (ys.getD k.toNat Str.empty) t) s)
    (hs : subscripted slice false (.ref l) (.int k u) = operate [.ref l, .int k u] (getItem (.ref l) (.int k u)) := by with_unfolding_all rfl) :
    wpAny (model prog w) A (subscriptTail value slice (.ref l) (.int k u)) Q E s :=
  item_strsR (N.isList hm) hi h0 hk (by (first | lia | omega)) h hs
theorem mitem_strs_neg {Q : Value → Shared → Prop} {value slice : Expr} {l : Addr} {vs : List Value} {ys : List Str} {u : Tok} {e : Nat} (N : News h₀ L s.heap nn) (hm : (l, ({ cls := .type "list", data := .seq vs.toArray e } : Obj)) ∈ nn) (hi : StrsAre vs ys)
    (hk : 0 < ys.length) (hl : ys.length ≤ 1000) (h : ∀ t, Q (.str (ys.getD (ys.length - 1) Str.empty) t) s)
    (hs : subscripted slice false (.ref l) (.int (-1) u) = operate [.ref l, .int (-1) u] (getItem (.ref l) (.int (-1) u)) := by with_unfolding_all rfl) :
    wpAny (model prog w) A (subscriptTail value slice (.ref l) (.int (-1) u)) Q E s := by
  have e : ((-1 : Int) + ys.length).toNat = ys.length - 1 := by (first | lia | omega)
  exact item_strs_negR (N.isList hm) hi (by (first | lia | omega)) (by (first | lia | omega)) (by (first | lia | omega)) (fun t => e ▸ h t) hs
theorem mlen_strs {Q : Value → Shared → Prop} {l : Addr} {vs : List Value} {ys : List Str} {e : Nat} (N : News h₀ L s.heap nn) (hm : (l, ({ cls := .type "list", data := .seq vs.toArray e } : Obj)) ∈ nn) (hi : StrsAre vs ys) (hl : ys.length ≤ 1000) (h : Q (.int ys.length (s.toks + 1)) { s with toks := s.toks + 1 + 1 }) :
    wpAny (model prog w) A (call (.builtin "len") [.ref l]) Q E s := by
  have e1 : vs.toArray.size = ys.length := by rw [List.size_toArray]; exact hi.length
  exact len_list (N.isList hm) (by rw [e1]; (first | lia | omega)) (by rw [e1]; exact h)
theorem madds {Q : Value → Shared → Prop} {x y : Str} {t u : Tok} (hx : x.length ≤ 1000) (hy : y.length ≤ 1000) (h : ∀ t' k, Q (.str (x ++ y) t') { s with toks := k }) : wpAny (model prog w) A (binaryOp .Add (.str x t) (.str y u)) Q E s :=
  add_str h (by rw [sizeLine_eq]; (first | lia | omega))
theorem mitem_strsE {Q : Value → Shared → Prop} {value slice : Expr} {l : Addr} {vs : List Value} {ys : List Str} {k : Int} {u : Tok} {e : Nat} {y : Str} (N : News h₀ L s.heap nn) (hm : (l, ({ cls := .type "list", data := .seq vs.toArray e } : Obj)) ∈ nn) (hi : StrsAre vs ys)
    (h0 : 0 ≤ k) (hk : k < ys.length) (hl : ys.length ≤ 1000) (hy : ys.getD k.toNat Str.empty = y) (h : ∀ t, Q (.str y t) s)
    (hs : subscripted slice false (.ref l) (.int k u) = operate [.ref l, .int k u] (getItem (.ref l) (.int k u)) := by with_unfolding_all rfl) :
    wpAny (model prog w) A (subscriptTail value slice (.ref l) (.int k u)) Q E s :=
  mitem_strs N hm hi h0 hk hl (fun t => hy ▸ h t) hs
theorem mitem_strs_negE {Q : Value → Shared → Prop} {value slice : Expr} {l : Addr} {vs : List Value} {ys : List Str} {u : Tok} {e : Nat} {y : Str} (N : News h₀ L s.heap nn) (hm : (l, ({ cls := .type "list", data := .seq vs.toArray e } : Obj)) ∈ nn) (hi : StrsAre vs ys)
    (hk : 0 < ys.length) (hl : ys.length ≤ 1000) (hy : ys.getD (ys.length - 1) Str.empty = y) (h : ∀ t, Q (.str y t) s)
    (hs : subscripted slice false (.ref l) (.int (-1) u) = operate [.ref l, .int (-1) u] (getItem (.ref l) (.int (-1) u)) := by with_unfolding_all rfl) :
    wpAny (model prog w) A (subscriptTail value slice (.ref l) (.int (-1) u)) Q E s :=
  mitem_strs_neg N hm hi hk hl (fun t => hy ▸ h t) hs
end
end Mine
end
theorem Mine.rstL4 : True := by
  w_top off
  trivial
section
open PySem PySem.W PyProof.Rows PySem.Calls PySem.Spec
set_option Elab.async false
set_option maxRecDepth 100000
set_option maxHeartbeats 4000000
namespace Mine
open LCg LCt
section
variable {prog : Program} {w : World} {A : Around} {E : Value → Shared → Prop} {s : Shared} {h₀ : Heap} {L : Addr} {m : Str → Option Value} {env : Env} {ct elt : Expr} {x : Str} {scope : Scope} {cl : List (Str × Addr)} {P : Nat → Value → Prop} {S : List (Addr × Obj) → Prop} {Fin : List Value → List (Addr × Obj) → Prop} {FinS : Shared → List Value → List (Addr × Obj) → Prop} {news : List (Addr × Obj)} {s₁ : Shared}
/-- end of a turn, nothing new kept -/
theorem cend {I C D : Addr} {oI oC oD : Obj} {rest : Value → List (Addr × Obj) → Prop} {y : Value} {h' : Heap} {tk : Nat} {all nn : List (Addr × Obj)}
    (F : Fr h₀ L h' m) (N : News h₀ L h' all) (hI : (I, oI) ∈ all) (hC : (C, oC) ∈ all) (hD : (D, oD) ∈ all) (hs : ∀ p ∈ nn, p ∈ all) (off : Off3 I C D nn) (hS : S nn) (r : rest y nn) : CompEnd h₀ L m s₁ I oI C oC D oD S rest y { s₁ with heap := h', toks := tk } :=
  CompEnd.intro F N nn (fun p hp => by
    rcases mcs hp with rfl | hp
    · exact hI
    rcases mcs hp with rfl | hp
    · exact hC
    rcases mcs hp with rfl | hp
    · exact hD
    exact hs p hp) off hS r
theorem mrest {n : Nat} (keep : List (Addr × Obj)) (J : Nat → List Value → List (Addr × Obj) → Prop) (hk : ∀ p ∈ keep, p ∈ news) (hj : J 0 [] news)
    (turn : ∀ i v ys nn I oI C oC D m₂ h tk (E' : Value → Shared → Prop), i < n → P i v → (∀ p ∈ keep, p ∈ nn) → J i ys nn → NsObj oC m₂ → m₂ x = some v → Fr h₀ L h m → News h₀ L h ((I, oI) :: (C, oC) :: (D, lst ys) :: nn) → Off3 I C D nn → ((@Ne Nat I C) ∧ (@Ne Nat I D) ∧ (@Ne Nat C D)) →
      wpAny (model prog w) A (eval elt (compEnvC scope cl C env)) (CompEnd h₀ L m { s with heap := h, toks := tk } I oI C oC D (lst ys) S (fun y news' => (∀ p ∈ keep, p ∈ news') ∧ J (i + 1) (ys ++ [y]) news')) E' { s with heap := h, toks := tk })
    (done : ∀ ys nn, (∀ p ∈ keep, p ∈ nn) → J n ys nn → Fin ys nn) : CompRest prog w A h₀ L m env elt x scope cl s S P Fin n 0 [] news := by
  have key : ∀ (j i : Nat) (ys : List Value) (nn : List (Addr × Obj)), i + j = n → (∀ p ∈ keep, p ∈ nn) → J i ys nn → CompRest prog w A h₀ L m env elt x scope cl s S P Fin j i ys nn := by
    intro j
    induction j with
    | zero => intro i ys nn hi hkn hJ; exact done ys nn hkn ((show i = n by (first | lia | omega)) ▸ hJ)
    | succ j ih =>
      intro i ys nn hi hkn hJ
      refine CompRest.succ ?_
      intro v I oI C oC D m₂ h tk E' hv hC hx F N off ne
      refine wpAny_mono (turn i v ys nn I oI C oC D m₂ h tk E' (by (first | lia | omega)) hv hkn hJ hC hx F N off ne) (fun y s₂ hq => ?_) fun _ _ e => e
      refine nmG fun gG9 kG9 => ?_
      refine ex3 (hq) ?_
      intro h' tk' nw y9w1
      refine an7 (y9w1) ?_
      intro e F' N' off' hS hkn' hJ'
      clear y9w1
      try clear hq
      refine kG9 ?_
      clear kG9 gG9
      exact ⟨h', tk', nw, e, F', N', off', hS, ih (i + 1) _ _ (by (first | lia | omega)) hkn' hJ'⟩
  exact key n 0 [] news (by (first | lia | omega)) hk hj
theorem mrestT {n : Nat} (keep : List (Addr × Obj)) (J : Nat → List Value → List (Addr × Obj) → Prop) (hk : ∀ p ∈ keep, p ∈ news) (hj : J 0 [] news)
    (turn : ∀ i v ys nn I oI C oC D m₂ h tk (E' : Value → Shared → Prop), i < n → P i v → (∀ p ∈ keep, p ∈ nn) → J i ys nn → NsObj oC m₂ → m₂ x = some v → Fr h₀ L h m → News h₀ L h ((I, oI) :: (C, oC) :: (D, lst ys) :: nn) → Off3 I C D nn → ((@Ne Nat I C) ∧ (@Ne Nat I D) ∧ (@Ne Nat C D)) →
      wpAny (model prog w) A (isTrue ct (compEnvC scope cl C env) (eval ct (compEnvC scope cl C env))) (fun ok s' => if ok = true then
        wpAny (model prog w) A (eval elt (compEnvC scope cl C env)) (CompEnd h₀ L m { s with heap := h, toks := tk } I oI C oC D (lst ys) S (fun y news' => (∀ p ∈ keep, p ∈ news') ∧ J (i + 1) (ys ++ [y]) news')) E' s'
        else CompEnd h₀ L m { s with heap := h, toks := tk } I oI C oC D (lst ys) S (fun _ news' => (∀ p ∈ keep, p ∈ news') ∧ J (i + 1) ys news') Value.none s') E' { s with heap := h, toks := tk })
    (done : ∀ ys nn, (∀ p ∈ keep, p ∈ nn) → J n ys nn → Fin ys nn) : CompRestT prog w A h₀ L m env ct elt x scope cl s S P Fin n 0 [] news := by
  have key : ∀ (j i : Nat) (ys : List Value) (nn : List (Addr × Obj)), i + j = n → (∀ p ∈ keep, p ∈ nn) → J i ys nn → CompRestT prog w A h₀ L m env ct elt x scope cl s S P Fin j i ys nn := by
    intro j
    induction j with
    | zero => intro i ys nn hi hkn hJ; exact done ys nn hkn ((show i = n by (first | lia | omega)) ▸ hJ)
    | succ j ih =>
      intro i ys nn hi hkn hJ
      refine CompRestT.succ ?_
      intro v I oI C oC D m₂ h tk E' hv hC hx F N off ne
      refine wpAny_mono (turn i v ys nn I oI C oC D m₂ h tk E' (by (first | lia | omega)) hv hkn hJ hC hx F N off ne) (fun ok s₂ hq => ?_) fun _ _ e => e
      cases ok with
      | true =>
        simp only [if_true] at hq ⊢
        refine wpAny_mono hq (fun y s₃ hq => ?_) fun _ _ e => e
        refine nmG fun gG9 kG9 => ?_
        refine ex3 (hq) ?_
        intro h' tk' nw y9w1
        refine an7 (y9w1) ?_
        intro e F' N' off' hS hkn' hJ'
        clear y9w1
        try clear hq
        refine kG9 ?_
        clear kG9 gG9
        exact ⟨h', tk', nw, e, F', N', off', hS, ih (i + 1) _ _ (by (first | lia | omega)) hkn' hJ'⟩
      | false =>
        simp only [Bool.false_eq_true, if_false] at hq ⊢
        refine nmG fun gG9 kG9 => ?_
        refine ex3 (hq) ?_
        intro h' tk' nw y9w1
        refine an7 (y9w1) ?_
        intro e F' N' off' hS hkn' hJ'
        clear y9w1
        try clear hq
        refine kG9 ?_
        clear kG9 gG9
        exact ⟨h', tk', nw, e, F', N', off', hS, ih (i + 1) _ _ (by (first | lia | omega)) hkn' hJ'⟩
  exact key n 0 [] news (by (first | lia | omega)) hk hj
theorem rsize {a b : Int} {n : Nat} (ha : -1000000 ≤ a ∧ a ≤ 1000000) (hb : -1000000 ≤ b ∧ b ≤ 1000000) (hn : n = (b - a).toNat) : Builtin.Range.rangeSize a b 1 = (n : Int) ∧ Builtin.Range.small a b 1 = true := by
  have hsz : Builtin.Range.rangeSize a b 1 = (n : Int) := by
    unfold Builtin.Range.rangeSize
    subst hn
    simp only [gt_iff_lt, Int.zero_lt_one, if_true]
    split <;> first | (first | lia | omega) | (simp; (first | lia | omega))
  refine ⟨hsz, ?_⟩
  unfold Builtin.Range.small
  rw [hsz]
  simp only [Builtin.Range.rangeFitsLong, Bool.and_eq_true, decide_eq_true_eq, Bool.or_eq_true, beq_iff_eq]
  refine ⟨⟨⟨⟨?_, ?_⟩, ?_⟩, ?_⟩, .inr ?_⟩ <;> simp <;> (first | lia | omega)
theorem mcompR {r : Addr} {a b : Int} {t u v : Tok} (n : Nat) (keep : List (Addr × Obj)) (J : Nat → List Value → List (Addr × Obj) → Prop) (hh : A.handled = none) (F : Fr h₀ L s₁.heap m) (N : News h₀ L s₁.heap news) (hr : IsRange s₁.heap r a b 1 t u v)
    (ha : -1000000 ≤ a ∧ a ≤ 1000000) (hb : -1000000 ≤ b ∧ b ≤ 1000000) (hn : n = (b - a).toNat) (hk : ∀ p ∈ keep, p ∈ news) (hj : J 0 [] news)
    (turn : ∀ i t ys nn I oI C oC D m₂ h tk (E' : Value → Shared → Prop), i < n → (∀ p ∈ keep, p ∈ nn) → J i ys nn → NsObj oC m₂ → m₂ x = some (.int (a + (i : Int)) t) → Fr h₀ L h m → News h₀ L h ((I, oI) :: (C, oC) :: (D, lst ys) :: nn) → Off3 I C D nn → ((@Ne Nat I C) ∧ (@Ne Nat I D) ∧ (@Ne Nat C D)) →
      wpAny (model prog w) A (eval elt (compEnvC scope cl C env)) (CompEnd h₀ L m { s₁ with heap := h, toks := tk } I oI C oC D (lst ys) (fun _ => True) (fun y news' => (∀ p ∈ keep, p ∈ news') ∧ J (i + 1) (ys ++ [y]) news')) E' { s₁ with heap := h, toks := tk })
    (done : ∀ g ys nn, (∀ p ∈ keep, p ∈ nn) → J n ys nn → FinS { s₁ with heap := g } ys nn) : CompSrc prog w A h₀ L m env elt x scope cl FinS (.ref r) s₁ :=
  CompSrc.range hh F N hr (rsize ha hb hn).2 (rsize ha hb hn).1 (by rw [sizeLine_eq]; (first | lia | omega)) fun g =>
    mrest keep J hk hj (fun i v ys nn I oI C oC D m₂ h tk E' hi ⟨t, hv⟩ hkn hJ hC hx F N off ne => turn i t ys nn I oI C oC D m₂ h tk E' hi hkn hJ hC (hv ▸ hx) F N off ne) (done g)
theorem mcompRT {r : Addr} {a b : Int} {t u v : Tok} (n : Nat) (keep : List (Addr × Obj)) (J : Nat → List Value → List (Addr × Obj) → Prop) (hh : A.handled = none) (F : Fr h₀ L s₁.heap m) (N : News h₀ L s₁.heap news) (hr : IsRange s₁.heap r a b 1 t u v)
    (ha : -1000000 ≤ a ∧ a ≤ 1000000) (hb : -1000000 ≤ b ∧ b ≤ 1000000) (hn : n = (b - a).toNat) (hk : ∀ p ∈ keep, p ∈ news) (hj : J 0 [] news)
    (turn : ∀ i t ys nn I oI C oC D m₂ h tk (E' : Value → Shared → Prop), i < n → (∀ p ∈ keep, p ∈ nn) → J i ys nn → NsObj oC m₂ → m₂ x = some (.int (a + (i : Int)) t) → Fr h₀ L h m → News h₀ L h ((I, oI) :: (C, oC) :: (D, lst ys) :: nn) → Off3 I C D nn → ((@Ne Nat I C) ∧ (@Ne Nat I D) ∧ (@Ne Nat C D)) →
      wpAny (model prog w) A (isTrue ct (compEnvC scope cl C env) (eval ct (compEnvC scope cl C env))) (fun ok s' => if ok = true then
        wpAny (model prog w) A (eval elt (compEnvC scope cl C env)) (CompEnd h₀ L m { s₁ with heap := h, toks := tk } I oI C oC D (lst ys) (fun _ => True) (fun y news' => (∀ p ∈ keep, p ∈ news') ∧ J (i + 1) (ys ++ [y]) news')) E' s'
        else CompEnd h₀ L m { s₁ with heap := h, toks := tk } I oI C oC D (lst ys) (fun _ => True) (fun _ news' => (∀ p ∈ keep, p ∈ news') ∧ J (i + 1) ys news') Value.none s') E' { s₁ with heap := h, toks := tk })
    (done : ∀ g ys nn, (∀ p ∈ keep, p ∈ nn) → J n ys nn → FinS { s₁ with heap := g } ys nn) : CompSrcT prog w A h₀ L m env ct elt x scope cl FinS (.ref r) s₁ :=
  CompSrcT.range hh F N hr (rsize ha hb hn).2 (rsize ha hb hn).1 (by rw [sizeLine_eq]; (first | lia | omega)) fun g =>
    mrestT keep J hk hj (fun i v ys nn I oI C oC D m₂ h tk E' hi ⟨t, hv⟩ hkn hJ hC hx F N off ne => turn i t ys nn I oI C oC D m₂ h tk E' hi hkn hJ hC (hv ▸ hx) F N off ne) (done g)
theorem mcompL {ax : Addr} {vs : List Value} {e : Nat} (keep : List (Addr × Obj)) (J : Nat → List Value → List (Addr × Obj) → Prop) (hh : A.handled = none) (F : Fr h₀ L s₁.heap m) (N : News h₀ L s₁.heap news) (hm : (ax, ({ cls := .type "list", data := .seq vs.toArray e } : Obj)) ∈ news) (hl : vs.length ≤ 1000)
    (hk : ∀ p ∈ keep, p ∈ news) (hj : J 0 [] news)
    (turn : ∀ i v ys nn I oI C oC D m₂ h tk (E' : Value → Shared → Prop), vs[i]? = some v → (∀ p ∈ keep, p ∈ nn) → (ax, ({ cls := .type "list", data := .seq vs.toArray e } : Obj)) ∈ nn → J i ys nn → NsObj oC m₂ → m₂ x = some v → Fr h₀ L h m → News h₀ L h ((I, oI) :: (C, oC) :: (D, lst ys) :: nn) → Off3 I C D nn → ((@Ne Nat I C) ∧ (@Ne Nat I D) ∧ (@Ne Nat C D)) →
      wpAny (model prog w) A (eval elt (compEnvC scope cl C env)) (CompEnd h₀ L m { s₁ with heap := h, toks := tk } I oI C oC D (lst ys) (fun news' => (ax, ({ cls := .type "list", data := .seq vs.toArray e } : Obj)) ∈ news') (fun y news' => (∀ p ∈ keep, p ∈ news') ∧ J (i + 1) (ys ++ [y]) news')) E' { s₁ with heap := h, toks := tk })
    (done : ∀ g ys nn, (∀ p ∈ keep, p ∈ nn) → J vs.length ys nn → FinS { s₁ with heap := g } ys nn) : CompSrc prog w A h₀ L m env elt x scope cl FinS (.ref ax) s₁ :=
  CompSrc.ledger hh F N hm (by rw [sizeLine_eq, List.size_toArray]; (first | lia | omega)) fun g =>
    mrest (n := vs.toArray.size) ((ax, ({ cls := .type "list", data := .seq vs.toArray e } : Obj)) :: keep) J (fun p hp => (List.mem_cons.mp hp).elim (fun h => h ▸ hm) (hk p)) hj
      (fun i v ys nn I oI C oC D m₂ h tk E' hi hv hkn hJ hC hx F N off ne => wpAny_mono (turn i v ys nn I oI C oC D m₂ h tk E' (by simpa using hv) (fun p hp => hkn p (.tail _ hp)) (hkn _ (.head _)) hJ hC hx F N off ne)
        (fun y s₂ ⟨h', tk', nw, e', F', N', off', hS, hkn', hJ'⟩ => ⟨h', tk', nw, e', F', N', off', .inr ⟨_, hS, rfl, _, rfl⟩, fun p hp => (List.mem_cons.mp hp).elim (fun h => h ▸ hS) (hkn' p), hJ'⟩) fun _ _ e => e)
      (fun ys nn hkn hJ => done g ys nn (fun p hp => hkn p (.tail _ hp)) (by simpa using hJ))
theorem mcompLT {ax : Addr} {vs : List Value} {e : Nat} (keep : List (Addr × Obj)) (J : Nat → List Value → List (Addr × Obj) → Prop) (hh : A.handled = none) (F : Fr h₀ L s₁.heap m) (N : News h₀ L s₁.heap news) (hm : (ax, ({ cls := .type "list", data := .seq vs.toArray e } : Obj)) ∈ news) (hl : vs.length ≤ 1000)
    (hk : ∀ p ∈ keep, p ∈ news) (hj : J 0 [] news)
    (turn : ∀ i v ys nn I oI C oC D m₂ h tk (E' : Value → Shared → Prop), vs[i]? = some v → (∀ p ∈ keep, p ∈ nn) → (ax, ({ cls := .type "list", data := .seq vs.toArray e } : Obj)) ∈ nn → J i ys nn → NsObj oC m₂ → m₂ x = some v → Fr h₀ L h m → News h₀ L h ((I, oI) :: (C, oC) :: (D, lst ys) :: nn) → Off3 I C D nn → ((@Ne Nat I C) ∧ (@Ne Nat I D) ∧ (@Ne Nat C D)) →
      wpAny (model prog w) A (isTrue ct (compEnvC scope cl C env) (eval ct (compEnvC scope cl C env))) (fun ok s' => if ok = true then
        wpAny (model prog w) A (eval elt (compEnvC scope cl C env)) (CompEnd h₀ L m { s₁ with heap := h, toks := tk } I oI C oC D (lst ys) (fun news' => (ax, ({ cls := .type "list", data := .seq vs.toArray e } : Obj)) ∈ news') (fun y news' => (∀ p ∈ keep, p ∈ news') ∧ J (i + 1) (ys ++ [y]) news')) E' s'
        else CompEnd h₀ L m { s₁ with heap := h, toks := tk } I oI C oC D (lst ys) (fun news' => (ax, ({ cls := .type "list", data := .seq vs.toArray e } : Obj)) ∈ news') (fun _ news' => (∀ p ∈ keep, p ∈ news') ∧ J (i + 1) ys news') Value.none s') E' { s₁ with heap := h, toks := tk })
    (done : ∀ g ys nn, (∀ p ∈ keep, p ∈ nn) → J vs.length ys nn → FinS { s₁ with heap := g } ys nn) : CompSrcT prog w A h₀ L m env ct elt x scope cl FinS (.ref ax) s₁ :=
  CompSrcT.ledger hh F N hm (by rw [sizeLine_eq, List.size_toArray]; (first | lia | omega)) fun g =>
    mrestT (n := vs.toArray.size) ((ax, ({ cls := .type "list", data := .seq vs.toArray e } : Obj)) :: keep) J (fun p hp => (List.mem_cons.mp hp).elim (fun h => h ▸ hm) (hk p)) hj
      (fun i v ys nn I oI C oC D m₂ h tk E' hi hv hkn hJ hC hx F N off ne => wpAny_mono (turn i v ys nn I oI C oC D m₂ h tk E' (by simpa using hv) (fun p hp => hkn p (.tail _ hp)) (hkn _ (.head _)) hJ hC hx F N off ne)
        (fun ok s₂ hq => by
          cases ok with
          | true =>
            simp only [if_true] at hq ⊢
            exact wpAny_mono hq (fun y s₂ ⟨h', tk', nw, e', F', N', off', hS, hkn', hJ'⟩ => ⟨h', tk', nw, e', F', N', off', .inr ⟨_, hS, rfl, _, rfl⟩, fun p hp => (List.mem_cons.mp hp).elim (fun h => h ▸ hS) (hkn' p), hJ'⟩) fun _ _ e => e
          | false =>
            simp only [Bool.false_eq_true, if_false] at hq ⊢
            refine nmG fun gG9 kG9 => ?_
            refine ex3 (hq) ?_
            intro h' tk' nw y9w1
            refine an7 (y9w1) ?_
            intro e' F' N' off' hS hkn' hJ'
            clear y9w1
            try clear hq
            refine kG9 ?_
            clear kG9 gG9
            exact ⟨h', tk', nw, e', F', N', off', .inr ⟨_, hS, rfl, _, rfl⟩, fun p hp => (List.mem_cons.mp hp).elim (fun h => h ▸ hS) (hkn' p), hJ'⟩) fun _ _ e => e)
      (fun ys nn hkn hJ => done g ys nn (fun p hp => hkn p (.tail _ hp)) (by simpa using hJ))
theorem comp_H {iter : Expr} {px : Pos} {pos : Pos} {Q : Value → Shared → Prop} (F₀ : Fr h₀ L s.heap m)
    (hclos : closureFor scope env = pure cl) (hcell : ∀ y ∈ scope.names, y.2 ≠ .cell) (hkind : scope.kind = .function)
    (hnames : ∀ y ∈ scope.names, y.2 = .local → scope.names.lookup y.1 = some .local) (hx : scope.names.lookup x = some .local)
    (h : wpAny (model prog w) A (eval iter env) (fun xv s₁ => Hold (CompSrc prog w A h₀ L m env elt x scope cl (fun s₂ => FinE h₀ L m s₂ Q) xv s₁)) E s)
    (hs : ∀ x, foldedSetIterable iter env x = pure x := by intro _; rfl) :
    wpAny (model prog w) A (eval (.ListComp elt [⟨.Name x px, iter, [], 0⟩] scope pos) env) Q E s := ListComp_U F₀ hclos hcell hkind hnames hx h hs
theorem compT_H {iter : Expr} {px : Pos} {pos : Pos} {Q : Value → Shared → Prop} (F₀ : Fr h₀ L s.heap m)
    (hclos : closureFor scope env = pure cl) (hcell : ∀ y ∈ scope.names, y.2 ≠ .cell) (hkind : scope.kind = .function)
    (hnames : ∀ y ∈ scope.names, y.2 = .local → scope.names.lookup y.1 = some .local) (hx : scope.names.lookup x = some .local)
    (h : wpAny (model prog w) A (eval iter env) (fun xv s₁ => Hold (CompSrcT prog w A h₀ L m env ct elt x scope cl (fun s₂ => FinE h₀ L m s₂ Q) xv s₁)) E s)
    (hs : ∀ x, foldedSetIterable iter env x = pure x := by intro _; rfl) :
    wpAny (model prog w) A (eval (.ListComp elt [⟨.Name x px, iter, [ct], 0⟩] scope pos) env) Q E s := ListComp_T F₀ hclos hcell hkind hnames hx h hs
theorem acomp_H {iter : Expr} {y : Str} {px py : Pos} {pos spos : Pos} {Q : Flow → Shared → Prop} (F₀ : Fr h₀ L s.heap m) (hLe : env.locals = L)
    (hsw : swapsWith (.ListComp elt [⟨.Name x px, iter, [], 0⟩] scope pos) (some (.Name y py)) spos.line env = pure true)
    (hclos : closureFor scope env = pure cl) (hcell : ∀ z ∈ scope.names, z.2 ≠ .cell) (hkind : scope.kind = .function)
    (hnames : ∀ z ∈ scope.names, z.2 = .local → scope.names.lookup z.1 = some .local) (hx : scope.names.lookup x = some .local)
    (hy : env.kindOf y = some .local) (hp : (env.scope.kind == .class || (env.scope.kind == .module && env.locals != env.globals)) = false)
    (h : wpAny (model prog w) A (eval iter env) (fun xv s₁ => Hold (CompSrc prog w A h₀ L m env elt x scope cl (fun s₂ => FinA h₀ L m s₂ y Q) xv s₁)) E s)
    (hs : ∀ x, foldedSetIterable iter env x = pure x := by intro _; rfl) :
    wpAny (model prog w) A (exec (.Assign [.Name y py] (.ListComp elt [⟨.Name x px, iter, [], 0⟩] scope pos) spos) env) Q E s := Assign_ListComp_U F₀ hLe hsw hclos hcell hkind hnames hx hy hp h hs
theorem acompT_H {iter : Expr} {y : Str} {px py : Pos} {pos spos : Pos} {Q : Flow → Shared → Prop} (F₀ : Fr h₀ L s.heap m) (hLe : env.locals = L)
    (hsw : swapsWith (.ListComp elt [⟨.Name x px, iter, [ct], 0⟩] scope pos) (some (.Name y py)) spos.line env = pure true)
    (hclos : closureFor scope env = pure cl) (hcell : ∀ z ∈ scope.names, z.2 ≠ .cell) (hkind : scope.kind = .function)
    (hnames : ∀ z ∈ scope.names, z.2 = .local → scope.names.lookup z.1 = some .local) (hx : scope.names.lookup x = some .local)
    (hy : env.kindOf y = some .local) (hp : (env.scope.kind == .class || (env.scope.kind == .module && env.locals != env.globals)) = false)
    (h : wpAny (model prog w) A (eval iter env) (fun xv s₁ => Hold (CompSrcT prog w A h₀ L m env ct elt x scope cl (fun s₂ => FinA h₀ L m s₂ y Q) xv s₁)) E s)
    (hs : ∀ x, foldedSetIterable iter env x = pure x := by intro _; rfl) :
    wpAny (model prog w) A (exec (.Assign [.Name y py] (.ListComp elt [⟨.Name x px, iter, [ct], 0⟩] scope pos) spos) env) Q E s := Assign_ListComp_T F₀ hLe hsw hclos hcell hkind hnames hx hy hp h hs
theorem off1_ne {D : Addr} : ∀ {l : List (Addr × Obj)}, Off1 D l → ∀ p ∈ l, p.1 ≠ D
  | [], _, _, h => nomatch h
  | _ :: _, x, p, h => by
    rcases mcs h with rfl | h
    · exact x.1
    · exact off1_ne x.2 p h
end
end Mine
end
theorem Mine.rstB7 : True := by
  w_top off
  trivial
section
open PySem PySem.W PyProof.Rows PySem.Calls PySem.Spec
set_option Elab.async false
set_option maxRecDepth 100000
set_option maxHeartbeats 8000000
namespace Mine
local macro_rules | `(tactic| k_mem) => `(tactic| first | assumption | exact List.Mem.head _ | (refine List.Mem.tail _ ?_; k_mem))
local macro_rules | `(tactic| k_all) => `(tactic| first | assumption | exact ne_of_l1 (by assumption))
structure Kp (P : Prop) : Prop where
  k : P
theorem nameIt {vs : List Value} {ds : List Int} (_ : IntsAre vs ds) : ∃ x, x = vs := ⟨_, rfl⟩
noncomputable def drawsF (xs : List Int) : List Int := (xs.take 4).map (fun x => x.fmod (10 ^ 6)) ++ [4, 0, 5, 3].drop (xs.take 4).length
theorem drawsF_len (xs : List Int) : (drawsF xs).length = 4 := by
  unfold drawsF
  simp only [List.length_append, List.length_map, List.length_drop, List.length_take, List.length_cons, List.length_nil]
  (first | lia | omega)
theorem drawsF_bd (xs : List Int) : ∀ x ∈ drawsF xs, 0 ≤ x ∧ x < 1000000 := by
  intro x hx
  rcases List.mem_append.mp hx with h | h
  · obtain ⟨y, _, rfl⟩ := List.mem_map.mp h
    have e : (10 : Int) ^ 6 = 1000000 := by decide
    rw [e]
    exact ⟨Int.fmod_nonneg_of_pos _ (by (first | lia | omega)), Int.fmod_lt_of_pos _ (by (first | lia | omega))⟩
  · have h2 : x ∈ [4, 0, 5, 3] := List.mem_of_mem_drop h
    simp at h2
    (first | lia | omega)
noncomputable def enc1 (p : List Nat × Nat) : Str := mk (enc p.1 p.2)
noncomputable def inc : List Nat × Nat → List Nat × Nat
  | ([], b) => ([], b + 1)
  | (r :: rs, b) => ((r + 1) :: rs, b)
theorem enc1_sp (p : List Nat × Nat) : enc1 p ++ PySem.Str.ofString " " = enc1 (p.1, p.2 + 1) := by
  have e : PySem.Str.ofString " " = mk [32] := rfl
  rw [e]; unfold enc1; rw [mk_append]; congr 1
  unfold enc; rw [List.append_assoc, List.replicate_succ']
theorem enc1_tb (p : List Nat × Nat) : enc1 p ++ PySem.Str.ofString "\t" = enc1 (p.1 ++ [p.2], 0) := by
  have e : PySem.Str.ofString "\t" = mk [9] := rfl
  rw [e]; unfold enc1; rw [mk_append]; congr 1
  unfold enc; simp
theorem enc1_st (p : List Nat × Nat) : enc1 p ++ PySem.Str.ofString " \t" = enc1 (p.1 ++ [p.2 + 1], 0) := by
  have e : PySem.Str.ofString " \t" = mk [32, 9] := rfl
  rw [e]; unfold enc1; rw [mk_append]; congr 1
  unfold enc; simp [List.replicate_succ']
theorem enc1_inc (p : List Nat × Nat) : PySem.Str.ofString " " ++ enc1 p = enc1 (inc p) := by
  have e : PySem.Str.ofString " " = mk [32] := rfl
  rw [e]; unfold enc1; rw [mk_append]; congr 1
  obtain ⟨rs, b⟩ := p
  cases rs <;> simp [inc, enc, List.replicate_succ]
structure Ok1 (i : Nat) (p : List Nat × Nat) : Prop where
  r : ∀ r ∈ p.1, r ≤ 1 + i
  b : p.2 ≤ 1 + i
  l : (enc p.1 p.2).length ≤ 3 + 2 * i
  e : 1 ≤ (enc p.1 p.2).length
structure LOk (i : Nat) (ps : List (List Nat × Nat)) : Prop where
  n : ps.length = i + 1
  a : ∀ p ∈ ps, Ok1 i p
theorem Ok1.up {i : Nat} {p : List Nat × Nat} (h : Ok1 i p) : Ok1 (i + 1) p := ⟨fun r hr => by have := h.r r hr; (first | lia | omega), by have := h.b; (first | lia | omega), by have := h.l; (first | lia | omega), h.e⟩
theorem LOk.snoc {i : Nat} {ps : List (List Nat × Nat)} (h : LOk i ps) {q : List Nat × Nat} (hq : Ok1 (i + 1) q) : LOk (i + 1) (ps ++ [q]) :=
  ⟨by rw [List.length_append, h.n]; rfl, fun p hp => by
    rcases List.mem_append.mp hp with hp | hp
    · exact (h.a p hp).up
    · rw [List.mem_singleton.mp hp]; exact hq⟩
theorem enc_len (rs : List Nat) (b : Nat) : (enc rs b).length = (rs.map (· + 1)).sum + b := by
  unfold enc
  simp [List.length_flatMap]
theorem Ok1.sp {i : Nat} {p : List Nat × Nat} (h : Ok1 i p) : Ok1 (i + 1) (p.1, p.2 + 1) :=
  ⟨fun r hr => by have := h.r r hr; (first | lia | omega), by have := h.b; dsimp only; (first | lia | omega), by have := h.l; rw [enc_len] at this ⊢; dsimp only; (first | lia | omega), by rw [enc_len]; dsimp only; (first | lia | omega)⟩
theorem Ok1.tb {i : Nat} {p : List Nat × Nat} (h : Ok1 i p) : Ok1 (i + 1) (p.1 ++ [p.2], 0) :=
  ⟨fun r hr => by
    rcases List.mem_append.mp hr with hr | hr
    · have := h.r r hr; (first | lia | omega)
    · rw [List.mem_singleton.mp hr]; have := h.b; (first | lia | omega), by dsimp only; (first | lia | omega), by have := h.l; rw [enc_len] at this ⊢; simp; (first | lia | omega), by rw [enc_len]; simp; (first | lia | omega)⟩
theorem Ok1.st {i : Nat} {p : List Nat × Nat} (h : Ok1 i p) : Ok1 (i + 1) (p.1 ++ [p.2 + 1], 0) :=
  ⟨fun r hr => by
    rcases List.mem_append.mp hr with hr | hr
    · have := h.r r hr; (first | lia | omega)
    · rw [List.mem_singleton.mp hr]; have := h.b; (first | lia | omega), by dsimp only; (first | lia | omega), by have := h.l; rw [enc_len] at this ⊢; simp; (first | lia | omega), by rw [enc_len]; simp; (first | lia | omega)⟩
theorem Ok1.inc {i : Nat} {p : List Nat × Nat} (h : Ok1 i p) : Ok1 (i + 1) (inc p) := by
  refine nmG fun gG9 kG9 => ?_
  obtain ⟨rs, b⟩ := p
  obtain ⟨h1, h2, h3, h4⟩ := h
  refine kG9 ?_
  clear kG9 gG9
  rw [enc_len] at h3
  cases rs with
  | nil => exact ⟨by simp [Mine.inc], by simp [Mine.inc] at h2 ⊢; (first | lia | omega), by rw [enc_len]; simp [Mine.inc] at h3 ⊢; (first | lia | omega), by rw [enc_len]; simp [Mine.inc] <;> (first | lia | omega)⟩
  | cons r rs =>
    refine ⟨fun z hz => ?_, by simp [Mine.inc] at h2 ⊢; (first | lia | omega), by rw [enc_len]; simp [Mine.inc] at h3 ⊢; (first | lia | omega), by rw [enc_len]; simp [Mine.inc] <;> (first | lia | omega)⟩
    rcases mcs hz with rfl | hz
    · have := h1 r (.head _); (first | lia | omega)
    · have := h1 z (.tail _ hz); (first | lia | omega)
theorem Ok1.rev {i : Nat} {p : List Nat × Nat} (h : Ok1 i p) : Ok1 (i + 1) (p.1.reverse, p.2) :=
  ⟨fun r hr => by have := h.r r (List.mem_reverse.mp hr); (first | lia | omega), by have := h.b; dsimp only; (first | lia | omega), by have := h.l; dsimp only; rw [enc_len_rev]; (first | lia | omega), by dsimp only; rw [enc_len_rev]; exact h.e⟩
theorem LOk.get {i : Nat} {ps : List (List Nat × Nat)} (h : LOk i ps) {k : Nat} (hk : k < i + 1) : ∃ p, (ps.map enc1).getD k PySem.Str.empty = enc1 p ∧ ps[k]? = some p ∧ Ok1 i p := by
  have hk' : k < ps.length := by rw [h.n]; exact hk
  refine ⟨ps[k], ?_, List.getElem?_eq_getElem hk', h.a _ (List.getElem_mem hk')⟩
  simp [List.getD_eq_getElem?_getD, hk']
theorem ints_at {vs : List Value} {ds : List Int} (h : IntsAre vs ds) {i : Nat} {v : Value} (hv : vs[i]? = some v) : ∃ x t, v = .int x t ∧ ds[i]? = some x := by
  have hl := h.length
  have hi : i < vs.length := (List.getElem?_eq_some_iff.mp hv).1
  obtain ⟨t, ht⟩ := h.get i ds[i] (List.getElem?_eq_getElem (by (first | lia | omega)))
  rw [hv] at ht
  exact ⟨_, t, Option.some.inj ht, List.getElem?_eq_getElem (by (first | lia | omega))⟩
theorem ok_ne' {h₀ h : Heap} {L l D : Addr} {nn ok keep : List (Addr × Obj)} {o : Obj} (N : News h₀ L h nn) (hm : (l, o) ∈ nn) (ho : NotIt o) (hok : ∀ p ∈ ok, p ∈ nn) (hok2 : ∀ p ∈ ok, p ∈ keep ∨ ¬ NotIt p.2 ∨ p.1 = D) (hk : ∀ p ∈ keep, p.1 ≠ l) (hD : D ≠ l) : ∀ p ∈ ok, p.1 ≠ l := by
  intro p hp
  rcases hok2 p hp with q | q | q
  · exact hk p q
  · rintro rfl
    have e := (N _ (hok p hp)).1.symm.trans (N _ hm).1
    exact q ((Option.some.inj e).symm ▸ ho)
  · rw [q]; exact hD
theorem piece_ok {i : Nat} {p : List Nat × Nat} (h : Ok1 i p) {k : Int} (h0 : 0 ≤ k) (h1 : k < 3) : ∃ pc, ([PySem.Str.ofString " ", PySem.Str.ofString "\t", PySem.Str.ofString " \t"].getD k.toNat PySem.Str.empty) = pc ∧ pc.length ≤ 1000 ∧ ∀ {i : Nat} {p : List Nat × Nat}, Ok1 i p → ∃ q, enc1 p ++ pc = enc1 q ∧ Ok1 (i + 1) q := by
  have : k = 0 ∨ k = 1 ∨ k = 2 := by (first | lia | omega)
  rcases this with rfl | rfl | rfl
  · exact ⟨_, rfl, by decide, fun h => ⟨_, enc1_sp _, h.sp⟩⟩
  · exact ⟨_, rfl, by decide, fun h => ⟨_, enc1_tb _, h.tb⟩⟩
  · exact ⟨_, rfl, by decide, fun h => ⟨_, enc1_st _, h.st⟩⟩
noncomputable def rowsF (ps : List (List Nat × Nat)) : List Str := PySem.Str.ofString "local" :: (List.range 5).map fun (k : Nat) => (ps.map enc1).getD k PySem.Str.empty ++ (⟨#[97 + k]⟩ : Str)
theorem abcde_at {i : Nat} (hi : i < 5) : Txt.item (PySem.Str.ofString "abcde") (0 + (i : Int)) = (⟨#[97 + i]⟩ : Str) := by
  have hh : i = 0 ∨ i = 1 ∨ i = 2 ∨ i = 3 ∨ i = 4 := by (first | lia | omega)
  rcases hh with rfl | rfl | rfl | rfl | rfl <;> decide
theorem Ok1.len {i : Nat} {p : List Nat × Nat} (h : Ok1 i p) (hi : i < 4) : (enc p.1 p.2).length ≤ 50 ∧ (enc1 p).length ≤ 1000 := by
  have := h.l
  refine ⟨by (first | lia | omega), ?_⟩
  unfold enc1
  rw [mk_len]
  (first | lia | omega)
section
variable {w : World} {mean : ExcName → Option Value} {mg mb : Str → Option Value} {dp un : Nat} {gd : Option (List Code)} {cn : Str} {cs : Scope} {a : Addr} {ccd : Value} {cl : List (Str × Addr)} {outer : List Env} {A₀ : Around} {base h₀ : Heap} {L : Addr} {m : Str → Option Value} {s : Shared} {Q E : Value → Shared → Prop} {news : List (Addr × Obj)}
end
namespace Zpage_ct
noncomputable def ctS (w : World) (mean : ExcName → Option Value) (mg : Str → Option Value) (mb : Str → Option Value) (dp : Nat) (un : Nat) (gd : Option (List Code)) (cn : Str) (cs : Scope) (a : Addr) (ccd : Value) (cl : List (Str × Addr)) (outer : List Env) (A₀ : Around) (base : Heap) (h₀ : Heap) (L : Addr) (m : Str → Option Value) (s : Shared) (Q : Value → Shared → Prop) (E : Value → Shared → Prop) (news : List (Addr × Obj)) (sl : Addr) (xs : List Int) (ws : List Value) : Prop := Bx (
  ∀ (C : At w mean mg mb 2 dp un cs outer A₀ base h₀ L m news s.heap) (hL : h₀.IsList sl ws.toArray) (hI : IntsAre ws xs) (hlen : xs.length ≤ 63) (hret : ∀ (al : Addr) (vs : List Value) (e : Nat) (ps : List (List Nat × Nat)) (nn : List (Addr × Obj)) (h' : Heap) (tk' : Nat), Fr h₀ L h' m → News h₀ L h' nn → (∀ p ∈ news, p ∈ nn) → (∀ p ∈ news, p.1 ≠ al) → (al, ({ cls := .type "list", data := .seq vs.toArray e } : Obj)) ∈ nn →     StrsAre vs (rowsF ps) → LOk 4 ps → Q (.ref al) { s with heap := h', toks := tk' }),
  wpAny (model PySem.Challenge.rw_xe0048_01.row.prog w) (ktrTop dp un gd cn cs L a ccd cl outer) (call (.ref 211) [.ref sl]) Q E s)
theorem ne : Nonempty (V0 × ((Addr) × (List Int) × (List Value))) := ne_V ⟨(default, default, default)⟩
noncomputable def ctc : V0 × ((Addr) × (List Int) × (List Value)) := pk ne fun v => ctS v.1.w v.1.mean v.1.mg v.1.mb v.1.dp v.1.un v.1.gd v.1.cn v.1.cs v.1.a v.1.ccd v.1.cl v.1.outer v.1.A₀ v.1.base v.1.h₀ v.1.L v.1.m v.1.s v.1.Q v.1.E v.1.news v.2.1 v.2.2.1 v.2.2.2
noncomputable def w : World := ctc.1.w
noncomputable def mean : ExcName → Option Value := ctc.1.mean
noncomputable def mg : Str → Option Value := ctc.1.mg
noncomputable def mb : Str → Option Value := ctc.1.mb
noncomputable def dp : Nat := ctc.1.dp
noncomputable def un : Nat := ctc.1.un
noncomputable def gd : Option (List Code) := ctc.1.gd
noncomputable def cn : Str := ctc.1.cn
noncomputable def cs : Scope := ctc.1.cs
noncomputable def a : Addr := ctc.1.a
noncomputable def ccd : Value := ctc.1.ccd
noncomputable def cl : List (Str × Addr) := ctc.1.cl
noncomputable def outer : List Env := ctc.1.outer
noncomputable def A₀ : Around := ctc.1.A₀
noncomputable def base : Heap := ctc.1.base
noncomputable def h₀ : Heap := ctc.1.h₀
noncomputable def L : Addr := ctc.1.L
noncomputable def m : Str → Option Value := ctc.1.m
noncomputable def s : Shared := ctc.1.s
noncomputable def Q : Value → Shared → Prop := ctc.1.Q
noncomputable def E : Value → Shared → Prop := ctc.1.E
noncomputable def news : List (Addr × Obj) := ctc.1.news
noncomputable def sl : Addr := ctc.2.1
noncomputable def xs : List Int := ctc.2.2.1
noncomputable def ws : List Value := ctc.2.2.2
noncomputable def ctA : (ctR : (Heap) → (Addr) → (Heap) → (Nat) → Prop) ×' (∀ (C : At w mean mg mb 2 dp un cs outer A₀ base h₀ L m news s.heap) (hL : h₀.IsList sl ws.toArray) (hI : IntsAre ws xs) (hlen : xs.length ≤ 63) (hret : ∀ (al : Addr) (vs : List Value) (e : Nat) (ps : List (List Nat × Nat)) (nn : List (Addr × Obj)) (h' : Heap) (tk' : Nat), Fr h₀ L h' m → News h₀ L h' nn → (∀ p ∈ news, p ∈ nn) → (∀ p ∈ news, p.1 ≠ al) → (al, ({ cls := .type "list", data := .seq vs.toArray e } : Obj)) ∈ nn →     StrsAre vs (rowsF ps) → LOk 4 ps → Q (.ref al) { s with heap := h', toks := tk' }), (∀ g0 L0 h0 k0, Bx (ctR g0 L0 h0 k0)) → wpAny (model PySem.Challenge.rw_xe0048_01.row.prog w) (ktrTop dp un gd cn cs L a ccd cl outer) (call (.ref 211) [.ref sl]) Q E s) := ⟨_, by
  intro C hL hI hlen hret ctH
  k_with_none
  refine nmG fun gG9 kG9 => ?_
  obtain ⟨B, F, X, N, T, kf, hd, hu⟩ := C
  refine kG9 ?_
  clear kG9 gG9
  revert X
  k_fill
  intro X
  refine wpAny_call ?_
  k_dflt (refine' code_defC ?k1 ?k2 ?k3 ?k4 ?k5 ?kA ?kF ?kK ?k6 ?k7 ?k8 ?k9 ?kB ?kD ?_ ?c2 ?c3 ?c4; (case kA => exact rfl); (case kF => exact rfl); (case kK => assumption); (case k1 => k_asm); (case k2 => k_asm); (case k3 => k_asm); (case k4 => k_asm); (case k5 => k_asm); (case k6 => k_is); (case k7 => k_is); (case k8 => ktr_room); (case k9 => exact BindsTo.of_eq rfl); (case kB => exact rfl); (case kD => decide +kernel); (case c2 => exact rfl); (case c3 => exact rfl); (case c4 => exact rfl); k_whole; exact fun g0 L0 h0 k0 => (ctH g0 L0 h0 k0).out)⟩
theorem ned : Nonempty ((Heap) × (Addr) × (Heap) × (Nat)) := ⟨(default, default, default, default)⟩
noncomputable def ctd := pk ned fun v => Bx (ctA.1 v.1 v.2.1 v.2.2.1 v.2.2.2)
noncomputable def g0 : Heap := ctd.1
noncomputable def L0 : Addr := ctd.2.1
noncomputable def h0 : Heap := ctd.2.2.1
noncomputable def k0 : Nat := ctd.2.2.2
noncomputable def ctB : (ctR : (List Value) → (List Value) → (Addr) → (Addr) → (Obj) → (Nat) → (Str → Option Value) → (List (Addr × Obj)) → (List (Addr × Obj)) → (Heap) → (Nat) → (List Value) → (Nat) → (List (List Nat × Nat)) → (Int) → (Tok) → (List Nat × Nat) → (List Nat × Nat) → (Str) → Prop) ×' (∀ (C : At w mean mg mb 2 dp un cs outer A₀ base h₀ L m news s.heap) (hL : h₀.IsList sl ws.toArray) (hI : IntsAre ws xs) (hlen : xs.length ≤ 63) (hret : ∀ (al : Addr) (vs : List Value) (e : Nat) (ps : List (List Nat × Nat)) (nn : List (Addr × Obj)) (h' : Heap) (tk' : Nat), Fr h₀ L h' m → News h₀ L h' nn → (∀ p ∈ news, p ∈ nn) → (∀ p ∈ news, p.1 ≠ al) → (al, ({ cls := .type "list", data := .seq vs.toArray e } : Obj)) ∈ nn →     StrsAre vs (rowsF ps) → LOk 4 ps → Q (.ref al) { s with heap := h', toks := tk' }), (∀ ys wB D al oc i u nn ok h tk vs e ps x tx p1 p2 pc, Bx (ctR ys wB D al oc i u nn ok h tk vs e ps x tx p1 p2 pc)) → Bx (ctA.1 g0 L0 h0 k0)) := ⟨_, by
  intro C hL hI hlen hret ctH
  refine ⟨?_⟩
  dsimp only [ctA]
  k_with_none
  k_with "subscriptTail Name Slice ref ref" => (refine hold ?_)
  k_with "subscriptTail Name Slice ref ref" => ((k_here; k_dflt (refine' kmk_slice_ints ?F.«_@»._hyg ?N.«_@»._hyg ?l.«_@»._hyg ?p.«_@»._hyg ?q.«_@»._hyg ?i.«_@»._hyg ?m.«_@»._hyg ?c.«_@»._hyg ?_ ?s.«_@»._hyg ?t.«_@»._hyg ?z.«_@»._hyg; (case F => k_asm); (case N => k_asm); (case l => first | exact News.isList (by k_asm) (.head _) | assumption | exact Fr.lst (by k_asm) (by with_reducible assumption)); (case p => kmk_part); (case q => kmk_part); (case i => first | assumption | exact .cons _ _ (.cons _ _ (.cons _ _ (.cons _ _ .nil)))); (case m => first | exact kmk_upto (by assumption) (by decide) | exact kmk_from (.cons _ _ (.cons _ _ (.cons _ _ (.cons _ _ .nil)))) (Int.natCast_nonneg _)); (case c => kmk_len); (case s => with_unfolding_all rfl); (case t => kmk_pure); (case z => first | exact Nat.le_of_ble_eq_true rfl | (exact kmk_sz (by assumption) (by rw [sizeLine_eq]; (first | lia | omega))))); intro D'z9 ws'z9 h'z9 F'z9 N'z9 l1z9 hI'z9 hC'z9 hL'z9))
  k_with "binaryOp Add ref ref" => (refine hold ?_)
  k_with "eval ListComp" => ((k_here; k_dflt (refine comp_H (F₀ := by k_asm) (by with_unfolding_all rfl) (by decide) (by rfl) (by decide) (by rfl) ?_)))
  k_with "newList" => ((k_here; k_dflt (refine' newList_K ?k1.«_@»._hyg ?k2.«_@»._hyg ?_; (case k1 => k_asm); (case k2 => k_asm); k_whole); intro al h'z9 F'z9 N'z9 hal))
  k_with "call builtin:len" => (((with_reducible show wpAny _ _ (call (Value.builtin "len") [Value.ref _]) _ _ _); refine mlen_strs (by with_reducible assumption) (by k_mem) (by assumption) (by (first | lia | omega)) ?_))
  k_with "subscriptTail Name UnaryOp ref int" => ((k_here; k_dflt (refine' mitem_strs_negE ?c1.«_@»._hyg ?c2.«_@»._hyg ?c3.«_@»._hyg ?c4.«_@»._hyg ?c5.«_@»._hyg ?c6.«_@»._hyg ?_; (case c1 => k_asm); (case c2 => k_mem); (case c3 => assumption); (case c4 => (first | lia | omega)); (case c5 => (first | lia | omega)); (case c6 => assumption)); intro tz9))
  k_with "subscriptTail" => ((first | ((with_reducible show wpAny _ _ (subscriptTail _ _ (Value.ref _) (Value.int _ _)) _ _ _); (k_dflt (refine' mitem_strsE ?c1.«_@»._hyg ?c2.«_@»._hyg ?c3.«_@»._hyg ?c4.«_@»._hyg ?c5.«_@»._hyg ?c6.«_@»._hyg ?c6b.«_@»._hyg ?_ ?c8.«_@»._hyg; (case c1 => k_asm); (case c2 => k_mem); (case c3 => first | exact .cons _ _ (.cons _ _ (.cons _ _ .nil)) | assumption); (case c4 => (first | lia | omega)); (case c5 => ((try simp only [List.length_cons, List.length_nil]); (first | lia | omega))); (case c6 => ((try simp only [List.length_cons, List.length_nil]); (first | lia | omega))); (case c6b => assumption); (case c8 => with_unfolding_all rfl))); intro tz9) | fail "no"))
  k_with "binaryOp Add str str" => ((refine madds (by first | assumption | decide) (by first | assumption | decide) ?_; intro _ _))
  k_with "call ref" => (((with_reducible show wpAny _ _ (call (Value.ref 206) _) _ _ _); k_dflt (refine' turned_ct ⟨?k1.«_@»._hyg, ?k2.«_@»._hyg, ?k3.«_@»._hyg, ?k4.«_@»._hyg, ?k5.«_@»._hyg, ?k6.«_@»._hyg, ?k7.«_@»._hyg, ?k8.«_@»._hyg⟩ ?kL.«_@»._hyg ?_; (case kL => assumption); (case k1 => k_asm); (case k2 => k_asm); (case k3 => k_in); (case k4 => k_asm); (case k5 => k_asm); (case k6 => first | exact rfl | assumption); (case k7 => ktr_room); (case k8 => ktr_units); intro t'z9 h'z9 tk'z9 F'z9 N'z9)))
  k_with "call builtin:list.append" => (refine hold ?_)
  k_with "pyIter ref" => (refine hold ?_)
  refine nmG fun gG9 kG9 => ?_
  obtain ⟨B, F, X, N, T, kf, hd, hu⟩ := C
  refine kG9 ?_
  clear kG9 gG9
  revert X
  k_fill
  intro X
  intro cells' FG' F' N' Y' B' X' T' lnews
  k_cells Y'
  (try simp only [List.cons_append, List.nil_append] at N')
  (try dsimp only)
  (with_reducible rename Fr h₀ L _ _ => FG); have hLg := FG.lst hL
  k_steps
  unfold Hold
  (with_reducible rename IntsAre ys _ => hA)
  (with_reducible rename IntsAre _ (List.drop _ [4, 0, 5, 3]) => hB)
  obtain ⟨wB, eB⟩ := nameIt hB
  subst eB
  have hD := IntsAre.append hA hB
  have hA1 := hA.length
  have hB1 := hB.length
  have eD : (List.map (fun k' => Int.fmod k' (10 ^ Int.toNat 6)) (List.take (Int.toNat 4) xs) ++ List.drop (((List.map (fun k' => Int.fmod k' (10 ^ Int.toNat 6)) (List.take (Int.toNat 4) xs)).length : Int)).toNat [4, 0, 5, 3]) = drawsF xs := by
    unfold drawsF
    rw [List.length_map]
    rfl
  rw [eD] at hD
  clear eD
  simp only [List.length_map, List.length_take, List.length_drop, List.length_cons, List.length_nil] at hA1 hB1
  clear hA
  refine madd (by assumption) (by assumption) (News.isList (by assumption) (.tail _ (.tail _ (.head _)))) (News.isList (by assumption) (.head _)) (by (first | lia | omega)) ?_
  clear hB
  have hDk := Kp.mk hD
  clear hD
  have hdl := drawsF_len xs
  have hdb := drawsF_bd xs
  intro D h2 F2 N2 l2
  k_steps
  (with_reducible rename (_ : Obj).data = Data.cell _ => hc0)
  (with_reducible rename News _ _ _ ((al, _) :: _) => NL)
  have mD := NL _ (.tail _ (.head _))
  have kD := l2 _ (.tail _ (.tail _ (.tail _ (.tail _ (.head _)))))
  have kA := hal _ (.tail _ (.tail _ (.tail _ (.tail _ (.tail _ (.head _))))))
  have kA2 := hal _ (.head _)
  k_dflt (refine' mstoreC ?F ?N ?c ?k ?d ?_ ?a ?b; (case a => rfl); (case b => rfl); (case F => k_asm); (case N => exact NL); (case c => rfl); (case k => exact .tail _ (.tail _ (.tail _ (.tail _ (.tail _ (.tail _ (.head _))))))); (case d => exact hc0))
  intro h3 oc F3 N3 hc1
  dsimp only at kD kA kA2
  k_steps
  unfold Hold
  (with_unfolding_all refine' mlist ((_, oc) :: (D, ({ cls := .type "list", data := .seq (ys ++ wB).toArray } : Obj)) :: news) (fun (_ : Unit) => [(("draws" : Str), .ref D)]) (fun i _ n => ∃ vs e ps, (al, ({ cls := .type "list", data := .seq vs.toArray e } : Obj)) ∈ n ∧ StrsAre vs (ps.map enc1) ∧ LOk i ps) () (by rfl) (NL.isList (.tail _ (.head _)) |> fun _ => N3.isList (upd_old (.tail _ (.head _)) (Nat.ne_of_gt kD))) ?hlL ?mo ?kp (by assumption) (by assumption) ?hk ?hj ?turn ?done ?hx)
  case hk => kst_all
  case hx => exact fun _ => rfl
  case hlL => exact mD.2.1
  case kp =>
    intro p hp
    rcases mcs hp with rfl | hp
    · exact upd_mem
    rcases mcs hp with rfl | hp
    · exact upd_old (.tail _ (.head _)) (Nat.ne_of_gt kD)
    · exact upd_old (.tail _ (.tail _ (.tail _ (.tail _ (.tail _ (.tail _ (.tail _ hp))))))) (Nat.ne_of_lt (Nat.lt_succ_of_lt (lnews p hp)))
  case hj => exact ⟨_, _, [([1, 0], 0)], upd_old (.head _) (Nat.ne_of_gt kA), .cons _ _ .nil, rfl, by simp; exact ⟨by simp, by simp, by simp [enc], by simp [enc]⟩⟩
  case mo => exact fun _ _ _ _ hs ⟨vs, e, ps, h1, h2⟩ => ⟨vs, e, ps, hs _ h1 (by simp [NotIt]), h2⟩
  case turn =>
    intro i v c u nn ok h tk hv hko hok hok2 hz9
    refine nmG fun gG9 kG9 => ?_
    refine ex3 (hz9) ?_
    intro vs e ps y9w1
    refine an3 (y9w1) ?_
    intro hmem hS hO
    clear y9w1
    try clear hz9
    refine kG9 ?_
    clear kG9 gG9
    intro F N
    refine nmG fun gG9 kG9 => ?_
    obtain ⟨x, tx, rfl, hx⟩ := ints_at hDk.k (by simpa using hv)
    refine kG9 ?_
    clear kG9 gG9
    have hxb := hdb x (List.mem_of_getElem? hx)
    dsimp only [kstB] at F
    have okne := ok_ne' N hmem (by simp [NotIt]) hok hok2 (fun p hp => by
      rcases mcs hp with rfl | hp
      · exact Nat.ne_of_lt kA
      rcases mcs hp with rfl | hp
      · exact Nat.ne_of_lt kA2
      · exact Nat.ne_of_lt (hal p (.tail _ (.tail _ (.tail _ (.tail _ (.tail _ (.tail _ hp)))))))) (Nat.ne_of_lt kA2)
    have mC := hok _ (hko _ (.head _))
    have hi4 : i < 4 := by
      have := (List.getElem?_eq_some_iff.mp hx).1
      (first | lia | omega)
    have hn : (ps.map enc1).length = i + 1 := by rw [List.length_map, hO.n]
    have hb1 : 0 ≤ Int.fmod (Int.fdiv x 4) ((ps.map enc1).length : Int) ∧ Int.fmod (Int.fdiv x 4) ((ps.map enc1).length : Int) < ((ps.map enc1).length : Int) := ⟨Int.fmod_nonneg_of_pos _ (by (first | lia | omega)), Int.fmod_lt_of_pos _ (by (first | lia | omega))⟩
    have hb2 : 0 ≤ Int.fmod (Int.fdiv (Int.fdiv x 4) ((ps.map enc1).length : Int)) 3 ∧ Int.fmod (Int.fdiv (Int.fdiv x 4) ((ps.map enc1).length : Int)) 3 < 3 := ⟨Int.fmod_nonneg_of_pos _ (by (first | lia | omega)), Int.fmod_lt_of_pos _ (by (first | lia | omega))⟩
    clear hDk hx NL N3
    refine nmG fun gG9 kG9 => ?_
    obtain ⟨p1, e1, -, o1⟩ := hO.get (k := (Int.fmod (Int.fdiv x 4) ((ps.map enc1).length : Int)).toNat) (by (first | lia | omega))
    obtain ⟨p2, e2, -, o2⟩ := hO.get (k := (ps.map enc1).length - 1) (by (first | lia | omega))
    obtain ⟨pc, e3, l3, fpc⟩ := piece_ok o1 hb2.1 hb2.2
    obtain ⟨a1, a2⟩ := o1.len hi4
    obtain ⟨a3, a4⟩ := o2.len hi4
    refine kG9 ?_
    clear kG9 gG9
    (try dsimp only)
    revert a4; revert a3; revert a2; revert a1; revert fpc; revert l3; revert e3; revert o2; revert e2; revert o1; revert e1; revert hb2; revert hb1; revert hn; revert hi4; revert mC; revert okne; revert hxb; revert F; revert N; revert hO; revert hS; revert hmem; revert hok; revert hc1; revert kA2; revert kA; revert kD; revert lnews; revert T'; revert X'; revert B'; revert FG
    exact (ctH ys wB D al oc i u nn ok h tk vs e ps x tx p1 p2 pc).out
  case done =>
    intro c u nn h tk hkn hz9
    refine nmG fun gG9 kG9 => ?_
    refine ex3 (hz9) ?_
    intro vs e ps y9w1
    refine an3 (y9w1) ?_
    intro hmem hS hO
    clear y9w1
    try clear hz9
    refine kG9 ?_
    clear kG9 gG9
    intro F N
    have mC := hkn _ (.head _)
    have hsz : (ys ++ wB).toArray.size = 4 := by rw [List.size_toArray, hDk.k.length, hdl]
    rw [hsz] at hO
    have hpl : (ps.map enc1).length = 5 := by rw [List.length_map, hO.n]
    clear N3 NL
    dsimp only [kstB, envOf] at F N
    dsimp only
    k_steps
    unfold Hold
    (with_unfolding_all refine' mcompR 5 _ (fun i ys n => StrsAre ys ((List.range i).map fun (k : Nat) => (ps.map enc1).getD k PySem.Str.empty ++ (⟨#[97 + k]⟩ : Str))) (by rfl) (by k_asm) (by k_asm) (by assumption) (by decide) (by decide) (by decide) (fun _ hp => hp) .nil ?turn ?done)
    case turn =>
      clear F N
      rintro i t ys nn I oI C oC D m₂ h tk E' hi hkn2 hS2 hC hx F N off ne
      have hh : i = 0 ∨ i = 1 ∨ i = 2 ∨ i = 3 ∨ i = 4 := by (first | lia | omega)
      replace hmem := hkn2 _ (.tail _ hmem)
      replace mC := hkn2 _ (.tail _ mC)
      refine nmG fun gG9 kG9 => ?_
      obtain ⟨p, ep, -, op⟩ := hO.get (k := (0 + (i : Int)).toNat) (by (first | lia | omega))
      refine kG9 ?_
      clear kG9 gG9
      have hpl2 : (enc1 p).length ≤ 1000 := by have := op.l; unfold enc1; rw [mk_len]; (first | lia | omega)
      k_steps
      refine cend (by assumption) (by assumption) (.head _) (.tail _ (.head _)) (.tail _ (.tail _ (.head _))) (fun p hp => .tail _ (.tail _ (.tail _ hp))) off trivial ⟨hkn2, ?_⟩
      rw [List.range_succ, List.map_append, List.map_singleton, abcde_at hi, ← ep, show (0 + (i : Int)).toNat = i by (first | lia | omega)]
      exact hS2.append' (.cons _ _ .nil)
    case done =>
      clear F N
      intro g ys nn hkn2 hS2 D h tk F N off1
      have hvl2 := hS2.length
      simp only [List.length_map, List.length_range] at hvl2
      refine madd F N (News.isList N (.tail _ (hkn2 _ (.head _)))) (News.isList N (List.Mem.head _)) (by simp only [List.length_cons, List.length_nil]; (first | lia | omega)) ?_
      intro D2 h2 F2 N2 l2
      k_steps
      have hnk : ∀ p ∈ news, p ∈ nn := fun p hp => hkn2 _ (.tail _ (hkn _ (.tail _ (.tail _ hp))))
      exact hret D2 _ _ ps _ _ _ (by assumption) (by assumption) (fun p hp => .tail _ (.tail _ (hnk p hp))) (fun p hp => Nat.ne_of_lt (l2 _ (.tail _ (hnk p hp)))) (.head _) (.cons _ _ hS2) hO⟩
theorem ctBne : Nonempty ((List Value) × (List Value) × (Addr) × (Addr) × (Obj) × (Nat) × (Str → Option Value) × (List (Addr × Obj)) × (List (Addr × Obj)) × (Heap) × (Nat) × (List Value) × (Nat) × (List (List Nat × Nat)) × (Int) × (Tok) × (List Nat × Nat) × (List Nat × Nat) × (Str)) := ⟨(default, default, default, default, default, default, default, default, default, default, default, default, default, default, default, default, default, default, default)⟩
noncomputable def ctBd := pk ctBne fun v => Bx (ctB.1 v.1 v.2.1 v.2.2.1 v.2.2.2.1 v.2.2.2.2.1 v.2.2.2.2.2.1 v.2.2.2.2.2.2.1 v.2.2.2.2.2.2.2.1 v.2.2.2.2.2.2.2.2.1 v.2.2.2.2.2.2.2.2.2.1 v.2.2.2.2.2.2.2.2.2.2.1 v.2.2.2.2.2.2.2.2.2.2.2.1 v.2.2.2.2.2.2.2.2.2.2.2.2.1 v.2.2.2.2.2.2.2.2.2.2.2.2.2.1 v.2.2.2.2.2.2.2.2.2.2.2.2.2.2.1 v.2.2.2.2.2.2.2.2.2.2.2.2.2.2.2.1 v.2.2.2.2.2.2.2.2.2.2.2.2.2.2.2.2.1 v.2.2.2.2.2.2.2.2.2.2.2.2.2.2.2.2.2.1 v.2.2.2.2.2.2.2.2.2.2.2.2.2.2.2.2.2.2)
noncomputable def ysc : List Value := ctBd.1
noncomputable def wBc : List Value := ctBd.2.1
noncomputable def Dc : Addr := ctBd.2.2.1
noncomputable def alc : Addr := ctBd.2.2.2.1
noncomputable def occ : Obj := ctBd.2.2.2.2.1
noncomputable def ic : Nat := ctBd.2.2.2.2.2.1
noncomputable def uc : Str → Option Value := ctBd.2.2.2.2.2.2.1
noncomputable def nnc : List (Addr × Obj) := ctBd.2.2.2.2.2.2.2.1
noncomputable def okc : List (Addr × Obj) := ctBd.2.2.2.2.2.2.2.2.1
noncomputable def hc : Heap := ctBd.2.2.2.2.2.2.2.2.2.1
noncomputable def tkc : Nat := ctBd.2.2.2.2.2.2.2.2.2.2.1
noncomputable def vsc : List Value := ctBd.2.2.2.2.2.2.2.2.2.2.2.1
noncomputable def ec : Nat := ctBd.2.2.2.2.2.2.2.2.2.2.2.2.1
noncomputable def psc : List (List Nat × Nat) := ctBd.2.2.2.2.2.2.2.2.2.2.2.2.2.1
noncomputable def xc : Int := ctBd.2.2.2.2.2.2.2.2.2.2.2.2.2.2.1
noncomputable def txc : Tok := ctBd.2.2.2.2.2.2.2.2.2.2.2.2.2.2.2.1
noncomputable def p1c : List Nat × Nat := ctBd.2.2.2.2.2.2.2.2.2.2.2.2.2.2.2.2.1
noncomputable def p2c : List Nat × Nat := ctBd.2.2.2.2.2.2.2.2.2.2.2.2.2.2.2.2.2.1
noncomputable def pcc : Str := ctBd.2.2.2.2.2.2.2.2.2.2.2.2.2.2.2.2.2.2
theorem ctX1 (C : At w mean mg mb 2 dp un cs outer A₀ base h₀ L m news s.heap) (hL : h₀.IsList sl ws.toArray) (hI : IntsAre ws xs) (hlen : xs.length ≤ 63) (hret : ∀ (al : Addr) (vs : List Value) (e : Nat) (ps : List (List Nat × Nat)) (nn : List (Addr × Obj)) (h' : Heap) (tk' : Nat), Fr h₀ L h' m → News h₀ L h' nn → (∀ p ∈ news, p ∈ nn) → (∀ p ∈ news, p.1 ≠ al) → (al, ({ cls := .type "list", data := .seq vs.toArray e } : Obj)) ∈ nn →     StrsAre vs (rowsF ps) → LOk 4 ps → Q (.ref al) { s with heap := h', toks := tk' }) : Bx (ctB.1 ysc wBc Dc alc occ ic uc nnc okc hc tkc vsc ec psc xc txc p1c p2c pcc) := by
  refine ⟨?_⟩
  dsimp only [ctB]
  k_with_none
  k_with "subscriptTail Name Slice ref ref" => (refine hold ?_)
  k_with "subscriptTail Name Slice ref ref" => ((k_here; k_dflt (refine' kmk_slice_ints ?F.«_@»._hyg ?N.«_@»._hyg ?l.«_@»._hyg ?p.«_@»._hyg ?q.«_@»._hyg ?i.«_@»._hyg ?m.«_@»._hyg ?c.«_@»._hyg ?_ ?s.«_@»._hyg ?t.«_@»._hyg ?z.«_@»._hyg; (case F => k_asm); (case N => k_asm); (case l => first | exact News.isList (by k_asm) (.head _) | assumption | exact Fr.lst (by k_asm) (by with_reducible assumption)); (case p => kmk_part); (case q => kmk_part); (case i => first | assumption | exact .cons _ _ (.cons _ _ (.cons _ _ (.cons _ _ .nil)))); (case m => first | exact kmk_upto (by assumption) (by decide) | exact kmk_from (.cons _ _ (.cons _ _ (.cons _ _ (.cons _ _ .nil)))) (Int.natCast_nonneg _)); (case c => kmk_len); (case s => with_unfolding_all rfl); (case t => kmk_pure); (case z => first | exact Nat.le_of_ble_eq_true rfl | (exact kmk_sz (by assumption) (by rw [sizeLine_eq]; (first | lia | omega))))); intro D'z9 ws'z9 h'z9 F'z9 N'z9 l1z9 hI'z9 hC'z9 hL'z9))
  k_with "binaryOp Add ref ref" => (refine hold ?_)
  k_with "eval ListComp" => ((k_here; k_dflt (refine comp_H (F₀ := by k_asm) (by with_unfolding_all rfl) (by decide) (by rfl) (by decide) (by rfl) ?_)))
  k_with "newList" => ((k_here; k_dflt (refine' newList_K ?k1.«_@»._hyg ?k2.«_@»._hyg ?_; (case k1 => k_asm); (case k2 => k_asm); k_whole); intro al h'z9 F'z9 N'z9 hal))
  k_with "call builtin:len" => (((with_reducible show wpAny _ _ (call (Value.builtin "len") [Value.ref _]) _ _ _); refine mlen_strs (by with_reducible assumption) (by k_mem) (by assumption) (by (first | lia | omega)) ?_))
  k_with "subscriptTail Name UnaryOp ref int" => ((k_here; k_dflt (refine' mitem_strs_negE ?c1.«_@»._hyg ?c2.«_@»._hyg ?c3.«_@»._hyg ?c4.«_@»._hyg ?c5.«_@»._hyg ?c6.«_@»._hyg ?_; (case c1 => k_asm); (case c2 => k_mem); (case c3 => assumption); (case c4 => (first | lia | omega)); (case c5 => (first | lia | omega)); (case c6 => assumption)); intro tz9))
  k_with "subscriptTail" => ((first | ((with_reducible show wpAny _ _ (subscriptTail _ _ (Value.ref _) (Value.int _ _)) _ _ _); (k_dflt (refine' mitem_strsE ?c1.«_@»._hyg ?c2.«_@»._hyg ?c3.«_@»._hyg ?c4.«_@»._hyg ?c5.«_@»._hyg ?c6.«_@»._hyg ?c6b.«_@»._hyg ?_ ?c8.«_@»._hyg; (case c1 => k_asm); (case c2 => k_mem); (case c3 => first | exact .cons _ _ (.cons _ _ (.cons _ _ .nil)) | assumption); (case c4 => (first | lia | omega)); (case c5 => ((try simp only [List.length_cons, List.length_nil]); (first | lia | omega))); (case c6 => ((try simp only [List.length_cons, List.length_nil]); (first | lia | omega))); (case c6b => assumption); (case c8 => with_unfolding_all rfl))); intro tz9) | fail "no"))
  k_with "binaryOp Add str str" => ((refine madds (by first | assumption | decide) (by first | assumption | decide) ?_; intro _ _))
  k_with "call ref" => (((with_reducible show wpAny _ _ (call (Value.ref 206) _) _ _ _); k_dflt (refine' turned_ct ⟨?k1.«_@»._hyg, ?k2.«_@»._hyg, ?k3.«_@»._hyg, ?k4.«_@»._hyg, ?k5.«_@»._hyg, ?k6.«_@»._hyg, ?k7.«_@»._hyg, ?k8.«_@»._hyg⟩ ?kL.«_@»._hyg ?_; (case kL => assumption); (case k1 => k_asm); (case k2 => k_asm); (case k3 => k_in); (case k4 => k_asm); (case k5 => k_asm); (case k6 => first | exact rfl | assumption); (case k7 => ktr_room); (case k8 => ktr_units); intro t'z9 h'z9 tk'z9 F'z9 N'z9)))
  k_with "call builtin:list.append" => (refine hold ?_)
  k_with "pyIter ref" => (refine hold ?_)
  refine nmG fun gG9 kG9 => ?_
  obtain ⟨B, F, X, N, T, kf, hd, hu⟩ := C
  refine kG9 ?_
  clear kG9 gG9
  revert X
  k_fill
  intro X
  intro FG B' X' T' lnews kD kA kA2 hc1 hok hmem hS hO N F hxb okne mC hi4 hn hb1 hb2 e1 o1 e2 o2 e3 l3 fpc a1 a2 a3 a4
  have hvl := hS.length
  k_steps
  all_goals unfold Hold
  all_goals (refine mappend (by k_asm) (by k_asm) (.tail _ hmem) (by rw [hvl]; (first | lia | omega)) ?_; intro h2 F2 N2; dsimp only; k_steps)
  · refine nmG fun gG9 kG9 => ?_
    obtain ⟨q, eq, oq⟩ := fpc o2
    refine kG9 ?_
    clear kG9 gG9
    refine TP.next () F2 N2 (fun p hp => upd_old (.tail _ (hok p hp)) (okne p hp)) (by kst_all) ⟨_, _, psc ++ [q], upd_mem, ?_, hO.snoc oq⟩
    rw [List.map_append, eq]
    exact hS.append' (.cons _ _ .nil)
  · refine TP.next () F2 N2 (fun p hp => upd_old (.tail _ (hok p hp)) (okne p hp)) (by kst_all) ⟨_, _, psc ++ [(p1c.1.reverse, p1c.2)], upd_mem, ?_, hO.snoc o1.rev⟩
    rw [List.map_append]
    exact hS.append' (.cons _ _ .nil)
  · refine nmG fun gG9 kG9 => ?_
    obtain ⟨q, eq, oq⟩ := fpc o1
    refine kG9 ?_
    clear kG9 gG9
    refine TP.next () F2 N2 (fun p hp => upd_old (.tail _ (hok p hp)) (okne p hp)) (by kst_all) ⟨_, _, psc ++ [q], upd_mem, ?_, hO.snoc oq⟩
    rw [List.map_append, eq]
    exact hS.append' (.cons _ _ .nil)
  · refine TP.next () F2 N2 (fun p hp => upd_old (.tail _ (hok p hp)) (okne p hp)) (by kst_all) ⟨_, _, psc ++ [inc p1c], upd_mem, ?_, hO.snoc o1.inc⟩
    rw [List.map_append, enc1_inc]
    exact hS.append' (.cons _ _ .nil)
theorem ctBall (C : At w mean mg mb 2 dp un cs outer A₀ base h₀ L m news s.heap) (hL : h₀.IsList sl ws.toArray) (hI : IntsAre ws xs) (hlen : xs.length ≤ 63) (hret : ∀ (al : Addr) (vs : List Value) (e : Nat) (ps : List (List Nat × Nat)) (nn : List (Addr × Obj)) (h' : Heap) (tk' : Nat), Fr h₀ L h' m → News h₀ L h' nn → (∀ p ∈ news, p ∈ nn) → (∀ p ∈ news, p.1 ≠ al) → (al, ({ cls := .type "list", data := .seq vs.toArray e } : Obj)) ∈ nn →     StrsAre vs (rowsF ps) → LOk 4 ps → Q (.ref al) { s with heap := h', toks := tk' }) : ∀ (ys : List Value) (wB : List Value) (D : Addr) (al : Addr) (oc : Obj) (i : Nat) (u : Str → Option Value) (nn : List (Addr × Obj)) (ok : List (Addr × Obj)) (h : Heap) (tk : Nat) (vs : List Value) (e : Nat) (ps : List (List Nat × Nat)) (x : Int) (tx : Tok) (p1 : List Nat × Nat) (p2 : List Nat × Nat) (pc : Str), Bx (ctB.1 ys wB D al oc i u nn ok h tk vs e ps x tx p1 p2 pc) := fun ys wB D al oc i u nn ok h tk vs e ps x tx p1 p2 pc => pk_all (ne := ctBne) (P := fun v => Bx (ctB.1 v.1 v.2.1 v.2.2.1 v.2.2.2.1 v.2.2.2.2.1 v.2.2.2.2.2.1 v.2.2.2.2.2.2.1 v.2.2.2.2.2.2.2.1 v.2.2.2.2.2.2.2.2.1 v.2.2.2.2.2.2.2.2.2.1 v.2.2.2.2.2.2.2.2.2.2.1 v.2.2.2.2.2.2.2.2.2.2.2.1 v.2.2.2.2.2.2.2.2.2.2.2.2.1 v.2.2.2.2.2.2.2.2.2.2.2.2.2.1 v.2.2.2.2.2.2.2.2.2.2.2.2.2.2.1 v.2.2.2.2.2.2.2.2.2.2.2.2.2.2.2.1 v.2.2.2.2.2.2.2.2.2.2.2.2.2.2.2.2.1 v.2.2.2.2.2.2.2.2.2.2.2.2.2.2.2.2.2.1 v.2.2.2.2.2.2.2.2.2.2.2.2.2.2.2.2.2.2)) (ctX1 C hL hI hlen hret) (ys, wB, D, al, oc, i, u, nn, ok, h, tk, vs, e, ps, x, tx, p1, p2, pc)
theorem ctT : ctS w mean mg mb dp un gd cn cs a ccd cl outer A₀ base h₀ L m s Q E news sl xs ws := ⟨fun C hL hI hlen hret => ctA.2 C hL hI hlen hret (pk_all4 (ne := ned) (R := fun g0 L0 h0 k0 => Bx (ctA.1 g0 L0 h0 k0)) rfl rfl rfl rfl (ctB.2 C hL hI hlen hret (ctBall C hL hI hlen hret)))⟩
theorem all : ∀ v : V0 × ((Addr) × (List Int) × (List Value)), ctS v.1.w v.1.mean v.1.mg v.1.mb v.1.dp v.1.un v.1.gd v.1.cn v.1.cs v.1.a v.1.ccd v.1.cl v.1.outer v.1.A₀ v.1.base v.1.h₀ v.1.L v.1.m v.1.s v.1.Q v.1.E v.1.news v.2.1 v.2.2.1 v.2.2.2 := pk_all (ne := ne) (P := fun v => ctS v.1.w v.1.mean v.1.mg v.1.mb v.1.dp v.1.un v.1.gd v.1.cn v.1.cs v.1.a v.1.ccd v.1.cl v.1.outer v.1.A₀ v.1.base v.1.h₀ v.1.L v.1.m v.1.s v.1.Q v.1.E v.1.news v.2.1 v.2.2.1 v.2.2.2) ctT
end Zpage_ct
section
variable {w : World} {mean : ExcName → Option Value} {mg mb : Str → Option Value} {dp un : Nat} {gd : Option (List Code)} {cn : Str} {cs : Scope} {a : Addr} {ccd : Value} {cl : List (Str × Addr)} {outer : List Env} {A₀ : Around} {base h₀ : Heap} {L : Addr} {m : Str → Option Value} {s : Shared} {Q E : Value → Shared → Prop} {news : List (Addr × Obj)}
theorem page_ct  (C : At w mean mg mb 2 dp un cs outer A₀ base h₀ L m news s.heap) {sl : Addr} {xs : List Int} {ws : List Value} (hL : h₀.IsList sl ws.toArray) (hI : IntsAre ws xs) (hlen : xs.length ≤ 63)
  (hret : ∀ (al : Addr) (vs : List Value) (e : Nat) (ps : List (List Nat × Nat)) (nn : List (Addr × Obj)) (h' : Heap) (tk' : Nat), Fr h₀ L h' m → News h₀ L h' nn → (∀ p ∈ news, p ∈ nn) → (∀ p ∈ news, p.1 ≠ al) → (al, ({ cls := .type "list", data := .seq vs.toArray e } : Obj)) ∈ nn →
    StrsAre vs (rowsF ps) → LOk 4 ps → Q (.ref al) { s with heap := h', toks := tk' }) :
  wpAny (model PySem.Challenge.rw_xe0048_01.row.prog w) (ktrTop dp un gd cn cs L a ccd cl outer) (call (.ref 211) [.ref sl]) Q E s := by
  exact (Zpage_ct.all ⟨⟨w, mean, mg, mb, dp, un, gd, cn, cs, a, ccd, cl, outer, A₀, base, h₀, L, m, s, Q, E, news⟩, sl, xs, ws⟩).out C hL hI hlen hret
end
end Mine
end
theorem Mine.rstL5 : True := by
  w_top off
  trivial
section
open PySem PySem.W PyProof.Rows PySem.Calls PySem.Spec
set_option Elab.async false
set_option maxRecDepth 100000
set_option maxHeartbeats 4000000
namespace Mine
theorem tslice_init (l : List Nat) (c : Nat) : Txt.slice (mk (l ++ [c])) none (some (-1)) = mk l := by
  have h := StrLaws.sliceText_to_neg (x := mk (l ++ [c])) (j := -1) (by (first | lia | omega)) (by rw [mk_len]; simp; (first | lia | omega))
  refine Eq.trans (show Txt.slice _ _ _ = StrLaws.sliceText _ _ _ from rfl) (h.trans ?_)
  show (⟨_⟩ : Str) = ⟨_⟩
  congr 1
  rw [mk_cps, mk_len]
  congr 1
  have e : (-1 + ((l ++ [c]).length : Int) - 0).toNat = l.length := by simp; (first | lia | omega)
  rw [e]
  simp
theorem tslice_from (l : List Nat) {k : Nat} (hk : k ≤ l.length) : Txt.slice (mk l) (some (k : Int)) none = mk (l.drop k) := by
  have h := StrLaws.sliceText_from (x := mk l) (i := (k : Int)) ⟨by (first | lia | omega), by rw [mk_cps]; (first | lia | omega)⟩
  refine Eq.trans (show Txt.slice _ _ _ = StrLaws.sliceText _ _ _ from rfl) (h.trans ?_)
  show (⟨_⟩ : Str) = ⟨_⟩
  congr 1
  rw [mk_cps]
  congr 1
  rw [Int.toNat_natCast, List.take_of_length_le (by rw [List.length_drop]; (first | lia | omega))]
theorem takeG {α : Type} {l : List α} {i : Nat} {k : α} (h : l[i]? = some k) : l.take (i + 1) = l.take i ++ [k] := by simp [List.take_add_one, h]
theorem join_len (sep : Str) : ∀ ys : List Str, (PySem.Str.join sep ys).length ≤ (ys.map (·.length)).sum + ys.length * sep.length
  | [] => by simp [PySem.Str.join, PySem.Str.length, PySem.Str.empty]
  | [x] => by simp [PySem.Str.join]
  | x :: y :: r => by
    have h := join_len sep (y :: r)
    show (x ++ sep ++ PySem.Str.join sep (y :: r)).length ≤ _
    simp only [PySem.Str.length, PySem.Str.cps_append, Array.size_append, List.map_cons, List.sum_cons, List.length_cons] at h ⊢
    have e : (r.length + 1 + 1) * sep.cps.size = (r.length + 1) * sep.cps.size + sep.cps.size := by rw [Nat.add_mul, Nat.one_mul]
    (first | lia | omega)
theorem fold_max {ns : List Nat} {mx : Nat} (h1 : mx ∈ ns) (h2 : ∀ a ∈ ns, a ≤ mx) : ns.foldl max 0 = mx := by
  have h3 : ∀ (l : List Nat) (a : Nat), a ≤ mx → (∀ x ∈ l, x ≤ mx) → l.foldl max a ≤ mx := by
    intro l
    induction l with
    | nil => intro a ha _; exact ha
    | cons b r ih => intro a ha hl; exact ih _ (Nat.max_le.mpr ⟨ha, hl b (.head _)⟩) fun x hx => hl x (.tail _ hx)
  have h4 : ∀ (l : List Nat) (a : Nat), a ≤ l.foldl max a := by
    intro l
    induction l with
    | nil => intro a; exact Nat.le_refl _
    | cons b r ih => intro a; exact Nat.le_trans (Nat.le_max_left _ _) (ih _)
  have h5 : ∀ (l : List Nat) (a : Nat), mx ∈ l → mx ≤ l.foldl max a := by
    intro l
    induction l with
    | nil => intro a h; exact nomatch h
    | cons b r ih =>
      intro a h
      rcases mcs h with rfl | h
      · exact Nat.le_trans (Nat.le_max_right _ _) (h4 r _)
      · exact ih _ h
  exact Nat.le_antisymm (h3 ns 0 (Nat.zero_le _) h2) (h5 ns 0 h1)
noncomputable def its (z : Int) : Str := PySem.Str.ofString (toString z)
theorem its_len {z : Int} (h : 0 ≤ z) (h2 : z ≤ 6) : (its z).length = 1 := by
  have : z = 0 ∨ z = 1 ∨ z = 2 ∨ z = 3 ∨ z = 4 ∨ z = 5 ∨ z = 6 := by (first | lia | omega)
  rcases this with rfl | rfl | rfl | rfl | rfl | rfl | rfl <;> decide +kernel
noncomputable def wordsF (zs : List Int) : Str := ((PySem.Str.ofString "at tab size" ++ (if zs.length > 1 then PySem.Str.ofString "s" else PySem.Str.ofString "")) ++ PySem.Str.ofString " ") ++ Txt.join (PySem.Str.ofString ", ") (zs.map its)
theorem its_sum {zs : List Int} (h : ∀ z ∈ zs, 1 ≤ z ∧ z ≤ 6) : ((zs.map its).map (·.length)).sum = zs.length := by
  induction zs with
  | nil => rfl
  | cons z r ih =>
    have h1 := h z (.head _)
    simp only [List.map_cons, List.sum_cons, List.length_cons]
    rw [its_len (by (first | lia | omega)) h1.2, ih fun y hy => h y (.tail _ hy)]
    (first | lia | omega)
section
variable {prog : Program} {w : World} {A : Around} {E : Value → Shared → Prop} {s : Shared} {h₀ : Heap} {L : Addr} {m : Str → Option Value} {nn : List (Addr × Obj)}
theorem mslice_init {Q : Value → Shared → Prop} {value slice : Expr} {y : Str} {c : Nat} {t uj : Tok} (F : Fr h₀ L s.heap m) (N : News h₀ L s.heap nn) (hl : y.length ≤ 1000)
    (h : ∀ h' t' k, Fr h₀ L h' m → News h₀ L h' nn → Q (.str y t') { s with heap := h', toks := k })
    (hs : subscripted slice false (.str (y ++ (⟨#[c]⟩ : Str)) t) (.ref s.heap.objs.size) = operate [.ref s.heap.objs.size, .str (y ++ (⟨#[c]⟩ : Str)) t] (getItem (.str (y ++ (⟨#[c]⟩ : Str)) t) (.ref s.heap.objs.size)) := by with_unfolding_all rfl)
    (ht : ∀ r, letTemporaryGo value (.str (y ++ (⟨#[c]⟩ : Str)) t) r = pure () := by intro _; with_unfolding_all rfl) :
    wpAny (model prog w) A (subscriptTail value slice (.str (y ++ (⟨#[c]⟩ : Str)) t) (.ref s.heap.objs.size)) Q E { s with heap := s.heap.push { cls := .type "slice", data := .fields #[.none, .int (-1) uj, .none] } } := by
  have e : Txt.slice (y ++ (⟨#[c]⟩ : Str)) none (some (-1)) = y := by
    have e1 : y ++ (⟨#[c]⟩ : Str) = mk (y.cps.toList ++ [c]) := by
      have : (⟨#[c]⟩ : Str) = mk [c] := rfl
      rw [this, ← mk_append, mk_of]
    rw [e1, tslice_init, mk_of]
  refine slice_strN_ns F N (fun h' t' k F' N' => by rw [e]; exact h h' t' k F' N') hs ht ?_
  rw [sizeLine_eq]
  have : (y ++ (⟨#[c]⟩ : Str)).length = y.length + 1 := by simp [PySem.Str.length, PySem.Str.cps_append]
  (first | lia | omega)
theorem mitem_ints {Q : Value → Shared → Prop} {value slice : Expr} {l : Addr} {vs : List Value} {ys : List Int} {k : Int} {u : Tok} {e : Nat} (N : News h₀ L s.heap nn) (hm : (l, ({ cls := .type "list", data := .seq vs.toArray e } : Obj)) ∈ nn) (hi : IntsAre vs ys)
    (h0 : 0 ≤ k) (hk : k < ys.length) (hl : ys.length ≤ 1000) (h : ∀ t, Q (.int (ys.getD k.toNat 0) t) s)
    (hs : subscripted slice false (.ref l) (.int k u) = operate [.ref l, .int k u] (getItem (.ref l) (.int k u)) := by with_unfolding_all rfl) :
    wpAny (model prog w) A (subscriptTail value slice (.ref l) (.int k u)) Q E s := by
  obtain ⟨t', e⟩ := getD_val hi (k := k.toNat) (by (first | lia | omega))
  have hL := N.isList hm
  exact tail_any hL.typeIs slot_list_getitem.lookup (wpAny_getItem_list hL h0 (by (first | lia | omega)) (by simpa using e) (h t')) hs
theorem mstr {Q : Value → Shared → Prop} {z : Int} {t : Tok} (h0 : 0 ≤ z) (h1 : z ≤ 1000) (h : ∀ t' k, Q (.str (its z) t') { s with toks := k }) : wpAny (model prog w) A (call (.type "str") [.int z t]) Q E s :=
  str_of_int_fit (N := 2000) (by split <;> (first | lia | omega)) (by decide) fun _ => h _ _
end
end Mine
end
theorem Mine.rstB8 : True := by
  w_top off
  trivial
section
open PySem PySem.W PyProof.Rows PySem.Calls PySem.Spec
set_option Elab.async false
set_option maxRecDepth 100000
set_option maxHeartbeats 8000000
namespace Mine
local macro_rules | `(tactic| k_mem) => `(tactic| first | assumption | exact List.Mem.head _ | (refine List.Mem.tail _ ?_; k_mem))
section
variable {w : World} {mean : ExcName → Option Value} {mg mb : Str → Option Value} {dp un : Nat} {gd : Option (List Code)} {cn : Str} {cs : Scope} {a : Addr} {ccd : Value} {cl : List (Str × Addr)} {outer : List Env} {A₀ : Around} {base h₀ : Heap} {L : Addr} {m : Str → Option Value} {s : Shared} {Q E : Value → Shared → Prop} {news : List (Addr × Obj)}
noncomputable def sizesF (hi lo : List Int) (n : Nat) : List Int := ((List.range n).filter fun k => decide (hi.getD k 0 ≥ lo.getD k 0)).map fun (k : Nat) => (k : Int) + 1
theorem filt_succ {α : Type} (p : Nat → Bool) (f : Nat → α) (n : Nat) : ((List.range (n + 1)).filter p).map f = ((List.range n).filter p).map f ++ (if p n = true then [f n] else []) := by
  rw [List.range_succ, List.filter_append, List.map_append]
  congr 1
  cases h : p n <;> simp [h]
theorem sizesF_succ (hi lo : List Int) (n : Nat) : sizesF hi lo (n + 1) = sizesF hi lo n ++ (if hi.getD n 0 ≥ lo.getD n 0 then [(n : Int) + 1] else []) := by
  unfold sizesF
  rw [filt_succ]
  congr 1
  by_cases h : hi.getD n 0 ≥ lo.getD n 0
  · rw [if_pos h, if_pos (decide_eq_true h)]
  · rw [if_neg h, if_neg (by rw [decide_eq_true_eq]; exact h)]
theorem sizesF_len (hi lo : List Int) (n : Nat) : (sizesF hi lo n).length ≤ n := by
  unfold sizesF
  rw [List.length_map]
  exact Nat.le_trans (List.length_filter_le _ _) (by simp)
theorem sizesF_bd (hi lo : List Int) (n : Nat) : ∀ k ∈ sizesF hi lo n, 1 ≤ k ∧ k ≤ n := by
  intro k hk
  unfold sizesF at hk
  obtain ⟨j, hj, rfl⟩ := List.mem_map.mp hk
  have := List.mem_range.mp (List.mem_filter.mp hj).1
  (first | lia | omega)
theorem strs_at {vs : List Value} {ds : List Str} (h : StrsAre vs ds) {i : Nat} {v : Value} (hv : vs[i]? = some v) : ∃ x t, v = .str x t ∧ ds[i]? = some x := by
  have hl := h.length
  have hi : i < vs.length := (List.getElem?_eq_some_iff.mp hv).1
  obtain ⟨t, ht⟩ := h.get i ds[i] (List.getElem?_eq_getElem (by (first | lia | omega)))
  rw [hv] at ht
  exact ⟨_, t, Option.some.inj ht, List.getElem?_eq_getElem (by (first | lia | omega))⟩
theorem Ok1.len4 {p : List Nat × Nat} (h : Ok1 4 p) : (enc1 p).length ≤ 1000 := by
  have := h.l
  unfold enc1
  rw [mk_len]
  (first | lia | omega)
end
namespace Zwords_ct
noncomputable def ctS (w : World) (mean : ExcName → Option Value) (mg : Str → Option Value) (mb : Str → Option Value) (dp : Nat) (un : Nat) (gd : Option (List Code)) (cn : Str) (cs : Scope) (a : Addr) (ccd : Value) (cl : List (Str × Addr)) (outer : List Env) (A₀ : Around) (base : Heap) (h₀ : Heap) (L : Addr) (m : Str → Option Value) (s : Shared) (Q : Value → Shared → Prop) (E : Value → Shared → Prop) (news : List (Addr × Obj)) (p1 : List Nat × Nat) (p2 : List Nat × Nat) (c1 : Nat) (c2 : Nat) (t1 : Tok) (t2 : Tok) (ha : Addr) (la : Addr) (hv : List Value) (lv : List Value) (he : Nat) (le : Nat) (hi : List Int) (lo : List Int) : Prop := Bx (
  ∀ (C : At w mean mg mb 1 dp un cs outer A₀ base h₀ L m news s.heap) (o1 : Ok1 4 p1) (o2 : Ok1 4 p2) (mh : (ha, ({ cls := .type "list", data := .seq hv.toArray he } : Obj)) ∈ news) (ml : (la, ({ cls := .type "list", data := .seq lv.toArray le } : Obj)) ∈ news) (ih : IntsAre hv hi) (il : IntsAre lv lo) (hhl : hi.length = 6) (hll : lo.length = 6) (hret : ∀ (t : Tok) (nn : List (Addr × Obj)) (h' : Heap) (tk' : Nat), Fr h₀ L h' m → News h₀ L h' nn → (∀ p ∈ news, p ∈ nn) → Q (.str (wordsF (sizesF hi lo ((p1.1 ++ [p1.2] ++ (p2.1 ++ [p2.2])).foldl max 0 + 1))) t) { s with heap := h', toks := tk' }),
  wpAny (model PySem.Challenge.rw_xe0048_01.row.prog w) (ktrTop dp un gd cn cs L a ccd cl outer) (call (.ref 235) [.str (enc1 p1 ++ (⟨#[c1]⟩ : Str)) t1, .str (enc1 p2 ++ (⟨#[c2]⟩ : Str)) t2, .ref ha, .ref la]) Q E s)
theorem ne : Nonempty (V0 × ((List Nat × Nat) × (List Nat × Nat) × (Nat) × (Nat) × (Tok) × (Tok) × (Addr) × (Addr) × (List Value) × (List Value) × (Nat) × (Nat) × (List Int) × (List Int))) := ne_V ⟨(default, default, default, default, default, default, default, default, default, default, default, default, default, default)⟩
noncomputable def ctc : V0 × ((List Nat × Nat) × (List Nat × Nat) × (Nat) × (Nat) × (Tok) × (Tok) × (Addr) × (Addr) × (List Value) × (List Value) × (Nat) × (Nat) × (List Int) × (List Int)) := pk ne fun v => ctS v.1.w v.1.mean v.1.mg v.1.mb v.1.dp v.1.un v.1.gd v.1.cn v.1.cs v.1.a v.1.ccd v.1.cl v.1.outer v.1.A₀ v.1.base v.1.h₀ v.1.L v.1.m v.1.s v.1.Q v.1.E v.1.news v.2.1 v.2.2.1 v.2.2.2.1 v.2.2.2.2.1 v.2.2.2.2.2.1 v.2.2.2.2.2.2.1 v.2.2.2.2.2.2.2.1 v.2.2.2.2.2.2.2.2.1 v.2.2.2.2.2.2.2.2.2.1 v.2.2.2.2.2.2.2.2.2.2.1 v.2.2.2.2.2.2.2.2.2.2.2.1 v.2.2.2.2.2.2.2.2.2.2.2.2.1 v.2.2.2.2.2.2.2.2.2.2.2.2.2.1 v.2.2.2.2.2.2.2.2.2.2.2.2.2.2
noncomputable def w : World := ctc.1.w
noncomputable def mean : ExcName → Option Value := ctc.1.mean
noncomputable def mg : Str → Option Value := ctc.1.mg
noncomputable def mb : Str → Option Value := ctc.1.mb
noncomputable def dp : Nat := ctc.1.dp
noncomputable def un : Nat := ctc.1.un
noncomputable def gd : Option (List Code) := ctc.1.gd
noncomputable def cn : Str := ctc.1.cn
noncomputable def cs : Scope := ctc.1.cs
noncomputable def a : Addr := ctc.1.a
noncomputable def ccd : Value := ctc.1.ccd
noncomputable def cl : List (Str × Addr) := ctc.1.cl
noncomputable def outer : List Env := ctc.1.outer
noncomputable def A₀ : Around := ctc.1.A₀
noncomputable def base : Heap := ctc.1.base
noncomputable def h₀ : Heap := ctc.1.h₀
noncomputable def L : Addr := ctc.1.L
noncomputable def m : Str → Option Value := ctc.1.m
noncomputable def s : Shared := ctc.1.s
noncomputable def Q : Value → Shared → Prop := ctc.1.Q
noncomputable def E : Value → Shared → Prop := ctc.1.E
noncomputable def news : List (Addr × Obj) := ctc.1.news
noncomputable def p1 : List Nat × Nat := ctc.2.1
noncomputable def p2 : List Nat × Nat := ctc.2.2.1
noncomputable def c1 : Nat := ctc.2.2.2.1
noncomputable def c2 : Nat := ctc.2.2.2.2.1
noncomputable def t1 : Tok := ctc.2.2.2.2.2.1
noncomputable def t2 : Tok := ctc.2.2.2.2.2.2.1
noncomputable def ha : Addr := ctc.2.2.2.2.2.2.2.1
noncomputable def la : Addr := ctc.2.2.2.2.2.2.2.2.1
noncomputable def hv : List Value := ctc.2.2.2.2.2.2.2.2.2.1
noncomputable def lv : List Value := ctc.2.2.2.2.2.2.2.2.2.2.1
noncomputable def he : Nat := ctc.2.2.2.2.2.2.2.2.2.2.2.1
noncomputable def le : Nat := ctc.2.2.2.2.2.2.2.2.2.2.2.2.1
noncomputable def hi : List Int := ctc.2.2.2.2.2.2.2.2.2.2.2.2.2.1
noncomputable def lo : List Int := ctc.2.2.2.2.2.2.2.2.2.2.2.2.2.2
noncomputable def ctA : (ctR : (Heap) → (Addr) → (Heap) → (Nat) → Prop) ×' (∀ (C : At w mean mg mb 1 dp un cs outer A₀ base h₀ L m news s.heap) (o1 : Ok1 4 p1) (o2 : Ok1 4 p2) (mh : (ha, ({ cls := .type "list", data := .seq hv.toArray he } : Obj)) ∈ news) (ml : (la, ({ cls := .type "list", data := .seq lv.toArray le } : Obj)) ∈ news) (ih : IntsAre hv hi) (il : IntsAre lv lo) (hhl : hi.length = 6) (hll : lo.length = 6) (hret : ∀ (t : Tok) (nn : List (Addr × Obj)) (h' : Heap) (tk' : Nat), Fr h₀ L h' m → News h₀ L h' nn → (∀ p ∈ news, p ∈ nn) → Q (.str (wordsF (sizesF hi lo ((p1.1 ++ [p1.2] ++ (p2.1 ++ [p2.2])).foldl max 0 + 1))) t) { s with heap := h', toks := tk' }), (∀ g0 L0 h0 k0, Bx (ctR g0 L0 h0 k0)) → wpAny (model PySem.Challenge.rw_xe0048_01.row.prog w) (ktrTop dp un gd cn cs L a ccd cl outer) (call (.ref 235) [.str (enc1 p1 ++ (⟨#[c1]⟩ : Str)) t1, .str (enc1 p2 ++ (⟨#[c2]⟩ : Str)) t2, .ref ha, .ref la]) Q E s) := ⟨_, by
  intro C o1 o2 mh ml ih il hhl hll hret ctH
  k_with_none
  refine nmG fun gG9 kG9 => ?_
  obtain ⟨B, F, X, N, T, kf, hd, hu⟩ := C
  refine kG9 ?_
  clear kG9 gG9
  revert X
  k_fill
  intro X
  refine wpAny_call ?_
  k_dflt (refine' code_defC ?k1 ?k2 ?k3 ?k4 ?k5 ?kA ?kF ?kK ?k6 ?k7 ?k8 ?k9 ?kB ?kD ?_ ?c2 ?c3 ?c4; (case kA => exact rfl); (case kF => exact rfl); (case kK => assumption); (case k1 => k_asm); (case k2 => k_asm); (case k3 => k_asm); (case k4 => k_asm); (case k5 => k_asm); (case k6 => k_is); (case k7 => k_is); (case k8 => ktr_room); (case k9 => exact BindsTo.of_eq rfl); (case kB => exact rfl); (case kD => decide +kernel); (case c2 => exact rfl); (case c3 => exact rfl); (case c4 => exact rfl); k_whole; exact fun g0 L0 h0 k0 => (ctH g0 L0 h0 k0).out)⟩
theorem ned : Nonempty ((Heap) × (Addr) × (Heap) × (Nat)) := ⟨(default, default, default, default)⟩
noncomputable def ctd := pk ned fun v => Bx (ctA.1 v.1 v.2.1 v.2.2.1 v.2.2.2)
noncomputable def g0 : Heap := ctd.1
noncomputable def L0 : Addr := ctd.2.1
noncomputable def h0 : Heap := ctd.2.2.1
noncomputable def k0 : Nat := ctd.2.2.2
theorem ctB (C : At w mean mg mb 1 dp un cs outer A₀ base h₀ L m news s.heap) (o1 : Ok1 4 p1) (o2 : Ok1 4 p2) (mh : (ha, ({ cls := .type "list", data := .seq hv.toArray he } : Obj)) ∈ news) (ml : (la, ({ cls := .type "list", data := .seq lv.toArray le } : Obj)) ∈ news) (ih : IntsAre hv hi) (il : IntsAre lv lo) (hhl : hi.length = 6) (hll : lo.length = 6) (hret : ∀ (t : Tok) (nn : List (Addr × Obj)) (h' : Heap) (tk' : Nat), Fr h₀ L h' m → News h₀ L h' nn → (∀ p ∈ news, p ∈ nn) → Q (.str (wordsF (sizesF hi lo ((p1.1 ++ [p1.2] ++ (p2.1 ++ [p2.2])).foldl max 0 + 1))) t) { s with heap := h', toks := tk' }) : Bx (ctA.1 g0 L0 h0 k0) := by
  refine ⟨?_⟩
  dsimp only [ctA]
  k_with_none
  k_with "subscriptTail Name Slice str ref" => (refine hold ?_)
  k_with "subscriptTail Name Slice str ref" => ((k_here; k_dflt (refine' mslice_init ?F.«_@»._hyg ?N.«_@»._hyg ?l.«_@»._hyg ?_ ?s.«_@»._hyg ?t.«_@»._hyg; (case F => k_asm); (case N => k_asm); (case l => assumption); (case s => with_unfolding_all rfl); (case t => kmk_pure)); intro h'z9 t'z9 k'z9 F'z9 N'z9))
  k_with "call builtin:len" => (((with_reducible show wpAny _ _ (call (Value.builtin "len") [Value.ref _]) _ _ _); refine mlen_list (News.isList (by with_reducible assumption) (by k_mem)) (by assumption) (by (first | lia | omega)) ?_))
  k_with "binaryOp Add str str" => ((refine madds (by first | assumption | decide) (by first | assumption | decide) ?_; intro _ _))
  k_with "call type:str" => ((refine mstr (by (first | lia | omega)) (by (first | lia | omega)) ?_; intro tz9 kz9))
  k_with "call builtin:str.join" => ((refine hold ?_))
  k_with "call builtin:max" => ((k_here; k_dflt (refine' max_list_N ?c0.«_@»._hyg ?c1.«_@»._hyg ?c2.«_@»._hyg ?c3.«_@»._hyg ?c4.«_@»._hyg ?c5.«_@»._hyg ?_; (case c0 => rfl); (case c1 => k_asm); (case c2 => k_asm); (case c3 => exact News.isList (by k_asm) (by k_mem)); (case c4 => assumption); (case c5 => (simp only [List.length_map]; (first | lia | omega)))); intro h'z9 Mz9 t'z9 tk'z9 F'z9 N'z9 hM1z9 hM2z9))
  k_with "subscriptTail" => (((with_reducible show wpAny _ _ (subscriptTail _ _ (Value.ref _) (Value.int _ _)) _ _ _); (k_dflt (refine' mitem_ints ?c1.«_@»._hyg ?c2.«_@»._hyg ?c3.«_@»._hyg ?c4.«_@»._hyg ?c5.«_@»._hyg ?c6.«_@»._hyg ?_ ?c8.«_@»._hyg; (case c1 => k_asm); (case c2 => k_mem); (case c3 => assumption); (case c4 => (first | lia | omega)); (case c5 => (first | lia | omega)); (case c6 => (first | lia | omega)); (case c8 => with_unfolding_all rfl))); intro tz9))
  k_with "call builtin:str.split" => ((k_here; k_dflt (refine msplit (by k_asm) (by k_asm) (by rfl) (by (first | lia | omega)) ?_); intro D'z9 vs'z9 h'z9 k'z9 F'z9 N'z9 l1z9 hS'z9 hL'z9))
  k_with "binaryOp Add ref ref" => (refine hold ?_)
  k_with "eval ListComp" => ((k_here; (with_reducible show wpAny _ _ (eval (PySem.Expr.ListComp _ [⟨_, _, [], _⟩] _ _) _) _ _ _); k_dflt (refine comp_H (F₀ := by k_asm) (by with_unfolding_all rfl) (by decide) (by rfl) (by decide) (by rfl) ?_)))
  k_with "eval ListComp" => ((k_here; (with_reducible show wpAny _ _ (eval (PySem.Expr.ListComp _ [⟨_, _, [_], _⟩] _ _) _) _ _ _); k_dflt (refine compT_H (F₀ := by k_asm) (by with_unfolding_all rfl) (by decide) (by rfl) (by decide) (by rfl) ?_)))
  k_with "exec Assign cons ListComp" => ((k_here; (with_reducible show wpAny _ _ (exec (PySem.Stmt.Assign _ (PySem.Expr.ListComp _ [⟨_, _, [], _⟩] _ _) _) _) _ _ _); k_dflt (refine acomp_H (F₀ := by k_asm) (by rfl) (by with_unfolding_all rfl) (by with_unfolding_all rfl) (by decide) (by rfl) (by decide) (by rfl) (by rfl) (by rfl) ?_)))
  k_with "exec Assign cons ListComp" => ((k_here; (with_reducible show wpAny _ _ (exec (PySem.Stmt.Assign _ (PySem.Expr.ListComp _ [⟨_, _, [_], _⟩] _ _) _) _) _ _ _); k_dflt (refine acompT_H (F₀ := by k_asm) (by rfl) (by with_unfolding_all rfl) (by with_unfolding_all rfl) (by decide) (by rfl) (by decide) (by rfl) (by rfl) (by rfl) ?_)))
  refine nmG fun gG9 kG9 => ?_
  obtain ⟨B, F, X, N, T, kf, hd, hu⟩ := C
  refine kG9 ?_
  clear kG9 gG9
  revert X
  k_fill
  intro X
  have q1 := o1.len4
  have q2 := o2.len4
  intro cells' FG' F' N' Y' B' X' T' lnews
  k_cells Y'
  (try simp only [List.cons_append, List.nil_append] at N')
  (try dsimp only)
  k_steps
  unfold Hold
  (with_reducible rename StrsAre _ (Txt.split (enc1 p1) _) => hS1)
  (with_reducible rename StrsAre _ (Txt.split (enc1 p2) _) => hS2)
  have et : (PySem.Str.ofString "\t") = tab := by rfl
  unfold enc1 at hS1 hS2
  rw [et, split_enc] at hS1 hS2
  have hv1 := hS1.length
  have hv2 := hS2.length
  have hl1 : p1.1.length ≤ 20 := by have h9 := (turned_sz p1.1 p1.2).2; have := o1.l; (first | lia | omega)
  have hl2 : p2.1.length ≤ 20 := by have h9 := (turned_sz p2.1 p2.2).2; have := o2.l; (first | lia | omega)
  simp only [List.length_map, List.length_append, List.length_cons, List.length_nil] at hv1 hv2
  have hS := hS1.append' hS2
  rw [← List.map_append] at hS
  have hbn : ∀ n ∈ (p1.1 ++ [p1.2]) ++ (p2.1 ++ [p2.2]), n ≤ 5 := by
    intro n hn
    simp only [List.mem_append, List.mem_singleton] at hn
    rcases hn with (h | rfl) | (h | rfl)
    · have := o1.r n h; (first | lia | omega)
    · have := o1.b; (first | lia | omega)
    · have := o2.r n h; (first | lia | omega)
    · have := o2.b; (first | lia | omega)
  have hnl : ((p1.1 ++ [p1.2]) ++ (p2.1 ++ [p2.2])).length ≤ 100 := by simp; (first | lia | omega)
  generalize hns : (p1.1 ++ [p1.2]) ++ (p2.1 ++ [p2.2]) = ns at hS hbn hnl
  clear hS1 hS2
  refine madd (by assumption) (by assumption) (News.isList (by assumption) (.tail _ (.head _))) (News.isList (by assumption) (.head _)) (by (first | lia | omega)) ?_
  intro D h2 F2 N2 l2
  have hSk := Kp.mk hS
  clear hS
  have hvl := hSk.k.length
  rw [List.length_map] at hvl
  k_steps
  unfold Hold
  (with_unfolding_all refine' mcompL _ (fun i ys n => IntsAre ys ((ns.take i).map fun (n : Nat) => (n : Int))) (by rfl) (by k_asm) (by k_asm) (.head _) (by (first | lia | omega)) (fun _ hp => hp) .nil ?turn ?done)
  case turn =>
    rintro i v ys nn I oI C oC D m₂ h tk E' hv hkn hax hi9 hC hx F N off ne
    refine nmG fun gG9 kG9 => ?_
    obtain ⟨x, t, rfl, hx9⟩ := strs_at hSk.k hv
    refine kG9 ?_
    clear kG9 gG9
    have hz := hx9
    rw [List.getElem?_map] at hz
    cases hq : ns[i]? with
    | none => rw [hq] at hz; cases hz
    | some n =>
      rw [hq] at hz
      have hz := (Option.some.inj hz).symm
      subst hz
      have hn5 := hbn n (List.mem_of_getElem? hq)
      have hlen : (mk (bl n)).length = n := by rw [mk_len]; simp [bl]
      k_steps
      refine cend (by assumption) (by assumption) (.head _) (.tail _ (.head _)) (.tail _ (.tail _ (.head _))) (fun p hp => .tail _ (.tail _ (.tail _ hp))) off hax ⟨hkn, ?_⟩
      rw [take_snoc hq, List.map_append]
      dsimp only
      rw [hlen]
      exact hi9.append (.cons _ _ .nil)
  case done =>
    intro g ys nn hkn hi9 D2 h tk F N off1
    rw [hvl, List.take_length] at hi9
    have hnpos : 0 < ns.length := by rw [← hns]; simp; (first | lia | omega)
    have kh : (ha, ({ cls := .type "list", data := .seq hv.toArray he } : Obj)) ∈ nn := hkn _ (.tail _ (.tail _ (.tail _ (.tail _ (.tail _ mh)))))
    have kl : (la, ({ cls := .type "list", data := .seq lv.toArray le } : Obj)) ∈ nn := hkn _ (.tail _ (.tail _ (.tail _ (.tail _ (.tail _ ml)))))
    k_steps
    unfold Hold
    (with_reducible rename _ ∈ List.map _ ns => hM1)
    (with_reducible rename ∀ a ∈ List.map _ ns, a ≤ _ => hM2)
    refine nmG fun gG9 kG9 => ?_
    obtain ⟨mx, hmx, hM⟩ := List.mem_map.mp hM1
    refine kG9 ?_
    clear kG9 gG9
    subst hM
    have hmx5 := hbn mx hmx
    have hfm : ns.foldl max 0 = mx := fold_max hmx fun a ha => by
      have := hM2 (a : Int) (List.mem_map.mpr ⟨a, ha, rfl⟩)
      (first | lia | omega)
    rw [hns] at hret
    (with_unfolding_all refine' mcompRT (mx + 1) ((D2, LCg.lst ys) :: nn) (fun i ys n => IntsAre ys (sizesF hi lo i)) ?hh ?F ?N ?hr ?ha ?hb ?hn ?hk ?hj ?turn ?done)
    case hh => rfl
    case F => k_asm
    case N => k_asm
    case hr => assumption
    case ha => decide
    case hb => (first | lia | omega)
    case hn => (first | lia | omega)
    case hk => exact (fun _ hp => hp)
    case hj => exact .nil
    case turn =>
      rintro i t ys nn2 I oI C oC D m₂ h tk E' hi6 hkn2 hi2 hC hx F N off ne
      have mc1 := hkn2 _ (.tail _ (hkn _ (.tail _ (.tail _ (.tail _ (.head _))))))
      have mc2 := hkn2 _ (.tail _ (hkn _ (.tail _ (.tail _ (.tail _ (.tail _ (.head _)))))))
      replace kh := hkn2 _ (.tail _ kh)
      replace kl := hkn2 _ (.tail _ kl)
      have ei : (0 + (i : Int)).toNat = i := by (first | lia | omega)
      k_steps
      · (with_reducible rename (_ : Int) ≤ _ => hc9)
        rw [ei] at hc9
        refine cend (by assumption) (by assumption) (.head _) (.tail _ (.head _)) (.tail _ (.tail _ (.head _))) (fun p hp => .tail _ (.tail _ (.tail _ hp))) off trivial ⟨hkn2, ?_⟩
        rw [sizesF_succ, if_pos hc9, show (0 + (i : Int)) = (i : Int) by (first | lia | omega)]
        exact hi2.append (.cons _ _ .nil)
      · (with_reducible rename ¬ (_ : Int) ≤ _ => hc9)
        rw [ei] at hc9
        refine cend (by assumption) (by assumption) (.head _) (.tail _ (.head _)) (.tail _ (.tail _ (.head _))) (fun p hp => .tail _ (.tail _ (.tail _ hp))) off trivial ⟨hkn2, ?_⟩
        rw [sizesF_succ, if_neg hc9, List.append_nil]
        exact hi2
    case done =>
      intro g ys2 nn2 hkn2 hi2 D3 h tk F N off1
      have hzl := sizesF_len hi lo (mx + 1)
      have hzb := sizesF_bd hi lo (mx + 1)
      generalize hzz : sizesF hi lo (mx + 1) = zs at hi2 hzl hzb
      have hvl3 := hi2.length
      k_steps
      all_goals unfold Hold
      · (with_unfolding_all refine' mcompL _ (fun i ys n => StrsAre ys ((zs.take i).map its)) (by rfl) (by k_asm) (by k_asm) (.head _) (by (first | lia | omega)) (fun _ hp => hp) .nil ?turn ?done)
        case turn =>
          rintro i v ys nn I oI C oC D m₂ h tk E' hv hkn hax hi9 hC hx F N off ne
          refine nmG fun gG9 kG9 => ?_
          obtain ⟨z, t, rfl, hx9⟩ := ints_at hi2 hv
          refine kG9 ?_
          clear kG9 gG9
          have hzb1 := hzb z (List.mem_of_getElem? hx9)
          k_steps
          refine cend (by assumption) (by assumption) (.head _) (.tail _ (.head _)) (.tail _ (.tail _ (.head _))) (fun p hp => .tail _ (.tail _ (.tail _ hp))) off hax ⟨hkn, ?_⟩
          rw [takeG hx9, List.map_append]
          exact hi9.append' (.cons _ _ .nil)
        case done =>
          intro g ys nn3 hkn3 hS4 D4 h tk F N off1
          rw [hvl3, List.take_length] at hS4
          have hz6 : ∀ z ∈ zs, 1 ≤ z ∧ z ≤ 6 := fun z hz => by have := hzb z hz; (first | lia | omega)
          have hJ : (Txt.join (PySem.Str.ofString ", ") (zs.map its)).length ≤ 1000 := by
            rw [txt_join]
            refine Nat.le_trans (join_len _ _) ?_
            rw [its_sum hz6, List.length_map, show (PySem.Str.ofString ", ").length = 2 by decide]
            (first | lia | omega)
          k_steps
          unfold Hold 
          refine mjoin (News.isList N (List.Mem.head _)) hS4 (by decide) (by rw [its_sum fun z hz => by have := hzb z hz; (first | lia | omega), List.length_map]; (first | lia | omega)) ?_
          intro t' k
          k_steps
          have eW : wordsF zs = ((PySem.Str.ofString "at tab size" ++ PySem.Str.ofString "s") ++ PySem.Str.ofString " ") ++ Txt.join (PySem.Str.ofString ", ") (zs.map its) := by unfold wordsF; rw [if_pos (by (first | lia | omega))]
          rw [hfm] at hret
          rw [hzz, eW] at hret
          exact hret _ _ _ _ (by assumption) (by assumption) (fun p hp => .tail _ (hkn3 _ (.tail _ (hkn2 _ (.tail _ (hkn _ (.tail _ (.tail _ (.tail _ (.tail _ (.tail _ hp)))))))))))
      · (with_unfolding_all refine' mcompL _ (fun i ys n => StrsAre ys ((zs.take i).map its)) (by rfl) (by k_asm) (by k_asm) (.head _) (by (first | lia | omega)) (fun _ hp => hp) .nil ?turn ?done)
        case turn =>
          rintro i v ys nn I oI C oC D m₂ h tk E' hv hkn hax hi9 hC hx F N off ne
          refine nmG fun gG9 kG9 => ?_
          obtain ⟨z, t, rfl, hx9⟩ := ints_at hi2 hv
          refine kG9 ?_
          clear kG9 gG9
          have hzb1 := hzb z (List.mem_of_getElem? hx9)
          k_steps
          refine cend (by assumption) (by assumption) (.head _) (.tail _ (.head _)) (.tail _ (.tail _ (.head _))) (fun p hp => .tail _ (.tail _ (.tail _ hp))) off hax ⟨hkn, ?_⟩
          rw [takeG hx9, List.map_append]
          exact hi9.append' (.cons _ _ .nil)
        case done =>
          intro g ys nn3 hkn3 hS4 D4 h tk F N off1
          rw [hvl3, List.take_length] at hS4
          have hz6 : ∀ z ∈ zs, 1 ≤ z ∧ z ≤ 6 := fun z hz => by have := hzb z hz; (first | lia | omega)
          have hJ : (Txt.join (PySem.Str.ofString ", ") (zs.map its)).length ≤ 1000 := by
            rw [txt_join]
            refine Nat.le_trans (join_len _ _) ?_
            rw [its_sum hz6, List.length_map, show (PySem.Str.ofString ", ").length = 2 by decide]
            (first | lia | omega)
          k_steps
          unfold Hold 
          refine mjoin (News.isList N (List.Mem.head _)) hS4 (by decide) (by rw [its_sum fun z hz => by have := hzb z hz; (first | lia | omega), List.length_map]; (first | lia | omega)) ?_
          intro t' k
          k_steps
          have eW : wordsF zs = ((PySem.Str.ofString "at tab size" ++ PySem.Str.ofString "") ++ PySem.Str.ofString " ") ++ Txt.join (PySem.Str.ofString ", ") (zs.map its) := by unfold wordsF; rw [if_neg (by (first | lia | omega))]
          rw [hfm] at hret
          rw [hzz, eW] at hret
          exact hret _ _ _ _ (by assumption) (by assumption) (fun p hp => .tail _ (hkn3 _ (.tail _ (hkn2 _ (.tail _ (hkn _ (.tail _ (.tail _ (.tail _ (.tail _ (.tail _ hp)))))))))))
theorem ctT : ctS w mean mg mb dp un gd cn cs a ccd cl outer A₀ base h₀ L m s Q E news p1 p2 c1 c2 t1 t2 ha la hv lv he le hi lo := ⟨fun C o1 o2 mh ml ih il hhl hll hret => ctA.2 C o1 o2 mh ml ih il hhl hll hret (pk_all4 (ne := ned) (R := fun g0 L0 h0 k0 => Bx (ctA.1 g0 L0 h0 k0)) rfl rfl rfl rfl (ctB C o1 o2 mh ml ih il hhl hll hret))⟩
theorem all : ∀ v : V0 × ((List Nat × Nat) × (List Nat × Nat) × (Nat) × (Nat) × (Tok) × (Tok) × (Addr) × (Addr) × (List Value) × (List Value) × (Nat) × (Nat) × (List Int) × (List Int)), ctS v.1.w v.1.mean v.1.mg v.1.mb v.1.dp v.1.un v.1.gd v.1.cn v.1.cs v.1.a v.1.ccd v.1.cl v.1.outer v.1.A₀ v.1.base v.1.h₀ v.1.L v.1.m v.1.s v.1.Q v.1.E v.1.news v.2.1 v.2.2.1 v.2.2.2.1 v.2.2.2.2.1 v.2.2.2.2.2.1 v.2.2.2.2.2.2.1 v.2.2.2.2.2.2.2.1 v.2.2.2.2.2.2.2.2.1 v.2.2.2.2.2.2.2.2.2.1 v.2.2.2.2.2.2.2.2.2.2.1 v.2.2.2.2.2.2.2.2.2.2.2.1 v.2.2.2.2.2.2.2.2.2.2.2.2.1 v.2.2.2.2.2.2.2.2.2.2.2.2.2.1 v.2.2.2.2.2.2.2.2.2.2.2.2.2.2 := pk_all (ne := ne) (P := fun v => ctS v.1.w v.1.mean v.1.mg v.1.mb v.1.dp v.1.un v.1.gd v.1.cn v.1.cs v.1.a v.1.ccd v.1.cl v.1.outer v.1.A₀ v.1.base v.1.h₀ v.1.L v.1.m v.1.s v.1.Q v.1.E v.1.news v.2.1 v.2.2.1 v.2.2.2.1 v.2.2.2.2.1 v.2.2.2.2.2.1 v.2.2.2.2.2.2.1 v.2.2.2.2.2.2.2.1 v.2.2.2.2.2.2.2.2.1 v.2.2.2.2.2.2.2.2.2.1 v.2.2.2.2.2.2.2.2.2.2.1 v.2.2.2.2.2.2.2.2.2.2.2.1 v.2.2.2.2.2.2.2.2.2.2.2.2.1 v.2.2.2.2.2.2.2.2.2.2.2.2.2.1 v.2.2.2.2.2.2.2.2.2.2.2.2.2.2) ctT
end Zwords_ct
section
variable {w : World} {mean : ExcName → Option Value} {mg mb : Str → Option Value} {dp un : Nat} {gd : Option (List Code)} {cn : Str} {cs : Scope} {a : Addr} {ccd : Value} {cl : List (Str × Addr)} {outer : List Env} {A₀ : Around} {base h₀ : Heap} {L : Addr} {m : Str → Option Value} {s : Shared} {Q E : Value → Shared → Prop} {news : List (Addr × Obj)}
theorem words_ct  (C : At w mean mg mb 1 dp un cs outer A₀ base h₀ L m news s.heap) {p1 p2 : List Nat × Nat} {c1 c2 : Nat} {t1 t2 : Tok} (o1 : Ok1 4 p1) (o2 : Ok1 4 p2) {ha la : Addr} {hv lv : List Value} {he le : Nat} {hi lo : List Int}
  (mh : (ha, ({ cls := .type "list", data := .seq hv.toArray he } : Obj)) ∈ news) (ml : (la, ({ cls := .type "list", data := .seq lv.toArray le } : Obj)) ∈ news) (ih : IntsAre hv hi) (il : IntsAre lv lo) (hhl : hi.length = 6) (hll : lo.length = 6)
  (hret : ∀ (t : Tok) (nn : List (Addr × Obj)) (h' : Heap) (tk' : Nat), Fr h₀ L h' m → News h₀ L h' nn → (∀ p ∈ news, p ∈ nn) → Q (.str (wordsF (sizesF hi lo ((p1.1 ++ [p1.2] ++ (p2.1 ++ [p2.2])).foldl max 0 + 1))) t) { s with heap := h', toks := tk' }) :
  wpAny (model PySem.Challenge.rw_xe0048_01.row.prog w) (ktrTop dp un gd cn cs L a ccd cl outer) (call (.ref 235) [.str (enc1 p1 ++ (⟨#[c1]⟩ : Str)) t1, .str (enc1 p2 ++ (⟨#[c2]⟩ : Str)) t2, .ref ha, .ref la]) Q E s := by
  exact (Zwords_ct.all ⟨⟨w, mean, mg, mb, dp, un, gd, cn, cs, a, ccd, cl, outer, A₀, base, h₀, L, m, s, Q, E, news⟩, p1, p2, c1, c2, t1, t2, ha, la, hv, lv, he, le, hi, lo⟩).out C o1 o2 mh ml ih il hhl hll hret
end
end Mine
end
theorem Mine.rstL6 : True := by
  w_top off
  trivial
section
open PySem PySem.W PyProof.Rows PySem.Calls PySem.Spec
set_option Elab.async false
set_option maxRecDepth 100000
set_option maxHeartbeats 4000000
namespace Mine
section
variable {prog : Program} {w : World} {A : Around} {E : Value → Shared → Prop} {s : Shared} {h₀ : Heap} {L : Addr} {m : Str → Option Value} {nn : List (Addr × Obj)}
theorem mput {K : Type} [DecidableEq K] {knd : KeyKind prog w K} {Q : Unit → Shared → Prop} {d : Addr} {o : Obj} {kvs : List (K × Value)} {k : K} {key v : Value} (F : Fr h₀ L s.heap m) (N : News h₀ L s.heap nn) (hm : (d, o) ∈ nn) (hd : o.IsDictOf knd kvs) (hkey : knd.is k key = true) (hl : kvs.length ≤ 1000)
    (h : ∀ h' o', Fr h₀ L h' m → News h₀ L h' (upd nn d o') → o'.IsDictOf knd (stored kvs k v) → Q () { s with heap := h', toks := s.toks + 1 }) : wpAny (model prog w) A (setItem (.ref d) key v) Q E s := by
  have z := N _ hm
  refine wpAny_setItem_pairs (kvs := kvs) hkey (Heap.dictOf_iff.mpr ⟨o, z.1, hd⟩) (fun h' hd' hs => ?_) (by rw [sizeLine_eq]; omega)
  refine nmG fun gG9 kG9 => ?_
  obtain ⟨o', ho', hd''⟩ := Heap.dictOf_iff.mp hd'
  refine kG9 ?_
  clear kG9 gG9
  exact h h' o' (F.change hs z.2.1 z.2.2) (news_upd N hm hs ho') hd''
noncomputable def WP {σ : Type} (h₀ : Heap) (L : Addr) (keep : List (Addr × Obj)) (ps : σ → List (Str × Value)) (J : Nat → σ → List (Addr × Obj) → Prop) (n : Nat) (s₁ : Shared) (Q : Flow → Shared → Prop) (f : Flow) (s₂ : Shared) : Prop :=
  match f with
  | .ret v => Q (.ret v) s₂
  | .brk => Q .next s₂
  | _ => ∃ h' tk m' n' c' k, s₂ = { s₁ with heap := h', toks := tk } ∧ Fr h₀ L h' m' ∧ News h₀ L h' n' ∧ (∀ p ∈ keep, p ∈ n') ∧ (∀ p ∈ ps c', m' p.1 = some p.2) ∧ k < n ∧ J k c' n'
theorem WP.next {σ : Type} {h₀ : Heap} {L : Addr} {keep : List (Addr × Obj)} {ps : σ → List (Str × Value)} {J : Nat → σ → List (Addr × Obj) → Prop} {n : Nat} {s₁ : Shared} {Q : Flow → Shared → Prop} {h' : Heap} {tk : Nat} {m' : Str → Option Value} {n' : List (Addr × Obj)} (c' : σ) (k : Nat)
    (F : Fr h₀ L h' m') (N : News h₀ L h' n') (ho : ∀ p ∈ keep, p ∈ n') (hp : ∀ p ∈ ps c', m' p.1 = some p.2) (hk : k < n) (hJ : J k c' n') : WP h₀ L keep ps J n s₁ Q .next { s₁ with heap := h', toks := tk } :=
  ⟨h', tk, m', n', c', k, rfl, F, N, ho, hp, hk, hJ⟩
theorem mwhile {Q : Flow → Shared → Prop} {env : Env} {σ : Type} {test : Expr} {body : List Stmt} {pos : Pos} {m₀ : Str → Option Value} {news : List (Addr × Obj)} (keep : List (Addr × Obj)) (ps : σ → List (Str × Value)) (J : Nat → σ → List (Addr × Obj) → Prop) (c₀ : σ) (n₀ : Nat)
    (F : Fr h₀ env.locals s.heap m₀) (N : News h₀ env.locals s.heap news) (hkeep : ∀ p ∈ keep, p ∈ news) (hk : ∀ p ∈ ps c₀, m₀ p.1 = some p.2) (hj : J n₀ c₀ news)
    (turn : ∀ n c u nn h tk, (∀ p ∈ keep, p ∈ nn) → J n c nn → Fr h₀ env.locals h (kstB u (ps c)) → News h₀ env.locals h nn →
      wpAny (model prog w) A (isTrue test env (eval test env)) (fun b s₂ => if b = true then wpAny (model prog w) A (execs body env) (WP h₀ env.locals keep ps J n { s with heap := h, toks := tk } Q) E s₂ else Q .next s₂) E { s with heap := h, toks := tk })
    (hE : PassesOwn (model prog w) A env E) :
    wpAny (model prog w) A (exec (.While test body [] pos) env) Q E s := by
  refine While_inv2 (fun n m₁ n₁ => ∃ c, (∀ p ∈ keep, p ∈ n₁) ∧ (∀ p ∈ ps c, m₁ p.1 = some p.2) ∧ J n c n₁) (n₀ := n₀) F N ⟨c₀, hkeep, hk, hj⟩ ?_ hE
  intro n m₁ n₁ h₁ tk₁ F₁ N₁ hz9
  refine nmG fun gG9 kG9 => ?_
  obtain ⟨c, hkp, hm, hJ⟩ := hz9
  refine kG9 ?_
  clear kG9 gG9
  refine wpAny_mono (turn n c _ n₁ h₁ tk₁ hkp hJ (fr_map F₁ (kstB_self hm)) N₁) (fun b s₂ h₂ => ?_) fun _ _ e => e
  cases b with
  | false => exact h₂
  | true =>
    simp only [if_true] at h₂ ⊢
    refine wpAny_mono h₂ (fun f s₃ h₃ => ?_) fun _ _ e => e
    cases f with
    | next =>
      refine nmG fun gG9 kG9 => ?_
      refine ex6 (h₃) ?_
      intro h' tk m' n' c' k y9w1
      refine an7 (y9w1) ?_
      intro y9z2 F' N' ho hp hk hJ'
      clear y9w1
      try clear h₃
      subst y9z2
      refine kG9 ?_
      clear kG9 gG9
      exact ⟨h', tk, m', n', k, rfl, F', N', hk, c', ho, hp, hJ'⟩
    | cont =>
      refine nmG fun gG9 kG9 => ?_
      refine ex6 (h₃) ?_
      intro h' tk m' n' c' k y9w1
      refine an7 (y9w1) ?_
      intro y9z2 F' N' ho hp hk hJ'
      clear y9w1
      try clear h₃
      subst y9z2
      refine kG9 ?_
      clear kG9 gG9
      exact ⟨h', tk, m', n', k, rfl, F', N', hk, c', ho, hp, hJ'⟩
    | brk => exact h₃
    | ret v => exact h₃
theorem dict_cls {K : Type} [DecidableEq K] {knd : KeyKind prog w K} {o : Obj} {kvs : List (K × Value)} (h : o.IsDictOf knd kvs) : o.cls = .type "dict" := by
  refine nmG fun gG9 kG9 => ?_
  obtain ⟨es, ep, h1, _⟩ := h
  refine kG9 ?_
  clear kG9 gG9
  exact h1.1
end
noncomputable def AbIs : List (Int × Value) → List (Nat × Nat) → Prop
  | [], [] => True
  | (k, v) :: r, (a, b) :: s => k = (a : Int) ∧ (∃ t, v = .int (b : Int) t) ∧ AbIs r s
  | _, _ => False
theorem AbIs.len : ∀ {kvs : List (Int × Value)} {ab : List (Nat × Nat)}, AbIs kvs ab → kvs.length = ab.length
  | [], [], _ => rfl
  | (_, _) :: _, (_, _) :: _, h => by rw [List.length_cons, List.length_cons, h.2.2.len]
  | [], (_, _) :: _, h => h.elim
  | (_, _) :: _, [], h => h.elim
theorem AbIs.snoc : ∀ {kvs : List (Int × Value)} {ab : List (Nat × Nat)}, AbIs kvs ab → ∀ (a b : Nat) (t : Tok), AbIs (kvs ++ [((a : Int), .int (b : Int) t)]) (ab ++ [(a, b)])
  | [], [], _, a, b, t => ⟨rfl, ⟨t, rfl⟩, trivial⟩
  | (_, _) :: _, (_, _) :: _, h, a, b, t => ⟨h.1, h.2.1, h.2.2.snoc a b t⟩
  | [], (_, _) :: _, h, _, _, _ => h.elim
  | (_, _) :: _, [], h, _, _, _ => h.elim
theorem AbIs.get : ∀ {kvs : List (Int × Value)} {ab : List (Nat × Nat)}, AbIs kvs ab → ∀ {a b : Nat}, ab.lookup a = some b → ∃ t, valueAt kvs (a : Int) = some (.int (b : Int) t)
  | [], [], _, _, _, h => by simp at h
  | (k, v) :: r, (x, y) :: s, ⟨h1, ⟨t, h2⟩, h3⟩, a, b, h => by
    subst h1 h2
    rw [List.lookup_cons] at h
    unfold valueAt
    rw [List.find?_cons]
    by_cases e : a = x
    · subst e
      simp at h ⊢
      omega
    · have e1 : (a == x) = false := by simpa using e
      rw [e1] at h
      have e2 : decide ((x : Int) = (a : Int)) = false := by simp; omega
      rw [e2]
      exact h3.get h
  | [], (_, _) :: _, h, _, _, _ => h.elim
  | (_, _) :: _, [], h, _, _, _ => h.elim
theorem AbIs.new {kvs : List (Int × Value)} {ab : List (Nat × Nat)} (h : AbIs kvs ab) {a : Nat} (hn : ∀ p ∈ ab, p.1 ≠ a) (v : Value) : stored kvs (a : Int) v = kvs ++ [((a : Int), v)] := by
  have : ∀ {kvs : List (Int × Value)} {ab : List (Nat × Nat)}, AbIs kvs ab → (∀ p ∈ ab, p.1 ≠ a) → kvs.any (fun kv => decide (kv.1 = (a : Int))) = false := by
    intro kvs
    induction kvs with
    | nil => intro ab _ _; rfl
    | cons p r ih =>
      obtain ⟨k, v⟩ := p
      intro ab h hn
      cases ab with
      | nil => exact h.elim
      | cons q s =>
        refine nmG fun gG9 kG9 => ?_
        obtain ⟨x, y⟩ := q
        obtain ⟨h1, _, h3⟩ := h
        refine kG9 ?_
        clear kG9 gG9
        have h4 := hn _ (.head _)
        rw [List.any_cons, ih h3 fun p hp => hn p (.tail _ hp)]
        subst h1
        simp at h4 ⊢
        omega
  unfold stored
  rw [this h hn]
  rfl
end Mine
end
theorem Mine.rstL7 : True := by
  w_top off
  trivial
section
open PySem PySem.W PyProof.Rows PySem.Calls PySem.Spec
set_option Elab.async false
set_option maxRecDepth 100000
set_option maxHeartbeats 4000000
namespace Mine
theorem news_front4 {h₀ h : Heap} {L a b c d : Addr} {nn : List (Addr × Obj)} {oa ob oc od : Obj} (N : News h₀ L h nn) (ha : (a, oa) ∈ nn) (hb : (b, ob) ∈ nn) (hc : (c, oc) ∈ nn) (hd : (d, od) ∈ nn) :
    ∃ rest, News h₀ L h ((a, oa) :: (b, ob) :: (c, oc) :: (d, od) :: rest) ∧ (∀ p ∈ rest, p.1 ≠ a) ∧ (∀ p ∈ rest, p.1 ≠ b) ∧ (∀ p ∈ rest, p.1 ≠ c) ∧ (∀ p ∈ rest, p.1 ≠ d) ∧ (∀ p ∈ nn, p.1 ≠ a → p.1 ≠ b → p.1 ≠ c → p.1 ≠ d → p ∈ rest) := by
  refine ⟨nn.filter fun p => p.1 != a && p.1 != b && p.1 != c && p.1 != d, fun p hp => ?_, fun p hp => ?_, fun p hp => ?_, fun p hp => ?_, fun p hp => ?_, fun p hp h1 h2 h3 h4 => List.mem_filter.mpr ⟨hp, by simp [h1, h2, h3, h4]⟩⟩
  · rcases mcs hp with rfl | hp
    · exact N _ ha
    rcases mcs hp with rfl | hp
    · exact N _ hb
    rcases mcs hp with rfl | hp
    · exact N _ hc
    rcases mcs hp with rfl | hp
    · exact N _ hd
    exact N _ (List.mem_filter.mp hp).1
  all_goals
    have h := (List.mem_filter.mp hp).2
    simp only [Bool.and_eq_true, bne_iff_ne, ne_eq] at h
    intro e
    first | exact h.1.1.1 e | exact h.1.1.2 e | exact h.1.2 e | exact h.2 e
theorem ne_data {h₀ h : Heap} {L a b : Addr} {nn : List (Addr × Obj)} {o1 o2 : Obj} (N : News h₀ L h nn) (h1 : (a, o1) ∈ nn) (h2 : (b, o2) ∈ nn) (hc : o1.data ≠ o2.data) : a ≠ b := by
  rintro rfl
  have e := (N _ h1).1.symm.trans (N _ h2).1
  exact hc (congrArg Obj.data (Option.some.inj e))
/-- a list's items are lists of ints -/
inductive ColsAre (nn : List (Addr × Obj)) : List Value → List (List Int) → Prop
  | nil : ColsAre nn [] []
  | cons {a : Addr} {vs : List Value} {e : Nat} {cnt : List Int} {us : List Value} {cs : List (List Int)} : (a, ({ cls := .type "list", data := .seq vs.toArray e } : Obj)) ∈ nn → IntsAre vs cnt → ColsAre nn us cs → ColsAre nn (.ref a :: us) (cnt :: cs)
theorem ColsAre.mono {nn nn' : List (Addr × Obj)} {us : List Value} {cs : List (List Int)} (h : ColsAre nn us cs) (hs : ∀ p ∈ nn, p.2.cls = .type "list" → (∃ xs e, p.2.data = .seq xs e) → p ∈ nn') : ColsAre nn' us cs := by
  induction h with
  | nil => exact .nil
  | cons hm hi _ ih => exact .cons (hs _ hm rfl ⟨_, _, rfl⟩) hi ih
theorem ColsAre.snoc {nn : List (Addr × Obj)} {us : List Value} {cs : List (List Int)} (h : ColsAre nn us cs) {a : Addr} {vs : List Value} {e : Nat} {cnt : List Int} (hm : (a, ({ cls := .type "list", data := .seq vs.toArray e } : Obj)) ∈ nn) (hi : IntsAre vs cnt) : ColsAre nn (us ++ [.ref a]) (cs ++ [cnt]) := by
  induction h with
  | nil => exact .cons hm hi .nil
  | cons h1 h2 _ ih => exact .cons h1 h2 ih
theorem ColsAre.length {nn : List (Addr × Obj)} {us : List Value} {cs : List (List Int)} (h : ColsAre nn us cs) : us.length = cs.length := by
  induction h with
  | nil => rfl
  | cons _ _ _ ih => simp [ih]
theorem ColsAre.get {nn : List (Addr × Obj)} {us : List Value} {cs : List (List Int)} (h : ColsAre nn us cs) : ∀ {i : Nat} {cnt : List Int}, cs[i]? = some cnt → ∃ a vs e, us[i]? = some (.ref a) ∧ (a, ({ cls := .type "list", data := .seq vs.toArray e } : Obj)) ∈ nn ∧ IntsAre vs cnt := by
  induction h with
  | nil => intro i cnt h; simp at h
  | @cons a vs e c us cs hm hi _ ih =>
    intro i cnt h
    cases i with
    | zero =>
      have e9 : c = cnt := by simpa using h
      subst e9
      exact ⟨a, vs, e, rfl, hm, hi⟩
    | succ i => exact ih (by simpa using h)
/-- nags: tuples of place, words, row -/
inductive NagsAre (nn : List (Addr × Obj)) : List Value → List (Nat × Str × Str) → Prop
  | nil : NagsAre nn [] []
  | cons {a : Addr} {k : Nat} {x y : Str} {t1 t2 t3 : Tok} {e : Nat} {vs : List Value} {ds : List (Nat × Str × Str)} :
      (a, ({ cls := .type "tuple", data := .seq [.int (k : Int) t1, .str x t2, .str y t3].toArray e } : Obj)) ∈ nn → NagsAre nn vs ds → NagsAre nn (.ref a :: vs) ((k, x, y) :: ds)
theorem NagsAre.mono {nn nn' : List (Addr × Obj)} {vs : List Value} {ds : List (Nat × Str × Str)} (h : NagsAre nn vs ds) (hs : ∀ p ∈ nn, p.2.cls = .type "tuple" → (∃ xs e, p.2.data = .seq xs e) → p ∈ nn') : NagsAre nn' vs ds := by
  induction h with
  | nil => exact .nil
  | cons hm _ ih => exact .cons (hs _ hm rfl ⟨_, _, rfl⟩) ih
theorem NagsAre.snoc {nn : List (Addr × Obj)} {vs : List Value} {ds : List (Nat × Str × Str)} (h : NagsAre nn vs ds) {a : Addr} {k : Nat} {x y : Str} {t1 t2 t3 : Tok} {e : Nat}
    (hm : (a, ({ cls := .type "tuple", data := .seq [.int (k : Int) t1, .str x t2, .str y t3].toArray e } : Obj)) ∈ nn) : NagsAre nn (vs ++ [.ref a]) (ds ++ [(k, x, y)]) := by
  induction h with
  | nil => exact .cons hm .nil
  | cons h1 _ ih => exact .cons h1 ih
theorem NagsAre.length {nn : List (Addr × Obj)} {vs : List Value} {ds : List (Nat × Str × Str)} (h : NagsAre nn vs ds) : vs.length = ds.length := by
  induction h with
  | nil => rfl
  | cons _ _ ih => simp [ih]
theorem mitem_cols {prog : Program} {w : World} {A : Around} {E : Value → Shared → Prop} {s : Shared} {h₀ : Heap} {L : Addr} {nn cc : List (Addr × Obj)} {Q : Value → Shared → Prop} {value slice : Expr} {l : Addr} {us : List Value} {cs : List (List Int)} {k : Int} {u : Tok} {e : Nat} {cnt : List Int} (N : News h₀ L s.heap nn) (hm : (l, ({ cls := .type "list", data := .seq us.toArray e } : Obj)) ∈ nn) (hi : ColsAre cc us cs)
    (h0 : 0 ≤ k) (hk : k < 1000) (hc : cs[k.toNat]? = some cnt) (h : ∀ b vs e, (b, ({ cls := .type "list", data := .seq vs.toArray e } : Obj)) ∈ cc → IntsAre vs cnt → Q (.ref b) s)
    (hs : subscripted slice false (.ref l) (.int k u) = operate [.ref l, .int k u] (getItem (.ref l) (.int k u)) := by with_unfolding_all rfl) :
    wpAny (model prog w) A (subscriptTail value slice (.ref l) (.int k u)) Q E s := by
  refine nmG fun gG9 kG9 => ?_
  refine ex3 (hi.get hc) ?_
  intro b vs e y9w1
  refine an3 (y9w1) ?_
  intro hu hb hv
  clear y9w1
  refine kG9 ?_
  clear kG9 gG9
  have hL := N.isList hm
  exact tail_any hL.typeIs slot_list_getitem.lookup (wpAny_getItem_list hL h0 (by omega) (by simpa using hu) (h b vs e hb hv)) hs
/-- what _law_plain computes; rc = the chain of `last`, the newest first, 0 at its end -/
structure PSt where
  (rc : List Nat) (ab : List (Nat × Nat)) (ng : List (Nat × Str × Str))
noncomputable def rowAt (ps : List (List Nat × Nat)) (k : Nat) : Str := (rowsF ps).getD k PySem.Str.empty
noncomputable def colAt (ps : List (List Nat × Nat)) (k : Nat) : List Int := colsF (rowAt ps k).cps.toList 6
noncomputable def runsAt (ps : List (List Nat × Nat)) (k : Nat) : List Nat := let p := ps.getD (k - 1) ([], 0); p.1 ++ [p.2]
noncomputable def mostF (ps : List (List Nat × Nat)) (i j : Nat) : Nat := (runsAt ps i ++ runsAt ps j).foldl max 0
noncomputable def popF (ps : List (List Nat × Nat)) (place : Nat) (rc : List Nat) : List Nat := rc.dropWhile fun e => decide (0 < e) && decide (colAt ps e ≠ colAt ps place)
noncomputable def gtF (hi lo : List Int) : Bool := (List.range 6).all fun k => decide (hi.getD k 0 - lo.getD k 0 > 0)
noncomputable def stepF (ps : List (List Nat × Nat)) (st : PSt) (place : Nat) : PSt :=
  let last := st.rc.headD 0
  if gtF (colAt ps place) (colAt ps last) then ⟨place :: st.rc, st.ab ++ [(place, last)], st.ng⟩
  else match popF ps place st.rc with
    | _ :: a :: r => ⟨place :: a :: r, st.ab ++ [(place, a)], st.ng⟩
    | _ => ⟨st.rc, st.ab, st.ng ++ [(place + 1, wordsF (sizesF (colAt ps last) (colAt ps place) (mostF ps last place + 1)), rowAt ps place)]⟩
noncomputable def plainF (ps : List (List Nat × Nat)) : Nat → PSt
  | 0 => ⟨[0], [], []⟩
  | i + 1 => stepF ps (plainF ps i) (i + 1)
theorem gtF_iff {hi lo : List Int} {M : Int} (h1 : M ∈ (List.range 6).map fun (k : Nat) => hi.getD k 0 - lo.getD k 0) (h2 : ∀ a ∈ (List.range 6).map fun (k : Nat) => hi.getD k 0 - lo.getD k 0, M ≤ a) : gtF hi lo = decide (0 < M) := by
  unfold gtF
  by_cases h : 0 < M
  · rw [decide_eq_true h, List.all_eq_true]
    intro k hk
    have := h2 _ (List.mem_map.mpr ⟨k, hk, rfl⟩)
    exact decide_eq_true (by omega)
  · rw [decide_eq_false h, List.all_eq_false]
    refine nmG fun gG9 kG9 => ?_
    obtain ⟨k, hk, e⟩ := List.mem_map.mp h1
    refine kG9 ?_
    clear kG9 gG9
    exact ⟨k, hk, by rw [decide_eq_true_eq]; omega⟩
/-- the chain under plain's state -/
structure PInv (i : Nat) (st : PSt) : Prop where
  ab : ∀ p ∈ st.ab, p.1 ≤ i ∧ 0 < p.1
  abl : st.ab.length ≤ i
  ngl : st.ng.length ≤ i
  ne : ∃ l, st.rc = l ++ [0] ∧ ∀ x ∈ l, 0 < x ∧ x ≤ i
  ch : ∀ l x y r, st.rc = l ++ x :: y :: r → st.ab.lookup x = some y
end Mine
end
theorem Mine.rstM1 : True := by
  w_top off
  trivial
section
open PySem PySem.W PyProof.Rows PySem.Calls PySem.Spec
set_option Elab.async false
set_option maxRecDepth 100000
set_option maxHeartbeats 4000000
namespace Mine
theorem popF_suf (ps : List (List Nat × Nat)) (pl : Nat) (rc : List Nat) : ∃ l, rc = l ++ popF ps pl rc := by
  unfold popF
  exact ⟨rc.takeWhile _, (List.takeWhile_append_dropWhile).symm⟩
theorem lookup_snoc {ab : List (Nat × Nat)} {x y k v : Nat} (h : ab.lookup x = some y) : (ab ++ [(k, v)]).lookup x = some y := by
  induction ab with
  | nil => simp at h
  | cons p r ih =>
    obtain ⟨a, b⟩ := p
    rw [List.lookup_cons] at h
    rw [List.cons_append, List.lookup_cons]
    cases e : x == a with
    | true => rw [e] at h; exact h
    | false => rw [e] at h; exact ih h
theorem lookup_new {ab : List (Nat × Nat)} {k v : Nat} (h : ∀ p ∈ ab, p.1 ≠ k) : (ab ++ [(k, v)]).lookup k = some v := by
  induction ab with
  | nil => simp
  | cons p r ih =>
    obtain ⟨a, b⟩ := p
    rw [List.cons_append, List.lookup_cons]
    have e : (k == a) = false := by
      have := h (a, b) (.head _)
      simp at this ⊢
      omega
    rw [e]
    exact ih fun p hp => h p (.tail _ hp)
theorem suf_end {l0 l t : List Nat} (h : l0 ++ [0] = l ++ t) (ht : t ≠ []) : ∃ l1, t = l1 ++ [0] ∧ ∀ x ∈ l1, x ∈ l0 := by
  refine ⟨t.dropLast, ?_, ?_⟩
  · have h1 := List.dropLast_concat_getLast ht
    have h2 : (l0 ++ [0]).getLast (by simp) = (l ++ t).getLast (by simp [ht]) := by simp only [h]
    rw [List.getLast_append_of_ne_nil _ ht] at h2
    simp at h2
    rw [← h2] at h1
    exact h1.symm
  · intro x hx
    have h3 : l0 = l ++ t.dropLast := by
      have := congrArg List.dropLast h
      rw [List.dropLast_concat, List.dropLast_append_of_ne_nil ht] at this
      exact this
    rw [h3]
    exact List.mem_append_right _ hx
theorem pinv_A {i : Nat} {st : PSt} (h : PInv i st) (ng : List (Nat × Str × Str)) (hng : ng = st.ng) {t : List Nat} {l : List Nat} {a : Nat} (hrc : st.rc = l ++ a :: t) : PInv (i + 1) ⟨(i + 1) :: a :: t, st.ab ++ [(i + 1, a)], ng⟩ := by
  refine nmG fun gG9 kG9 => ?_
  obtain ⟨h1, h2, h3, ⟨l0, e0, h4⟩, h5⟩ := h
  refine kG9 ?_
  clear kG9 gG9
  subst hng
  refine ⟨?_, ?_, ?_, ?_, ?_⟩
  · intro p hp
    rcases List.mem_append.mp hp with hp | hp
    · have := h1 p hp; omega
    · rw [List.mem_singleton.mp hp]; exact ⟨Nat.le_refl _, Nat.succ_pos _⟩
  · rw [List.length_append]; exact Nat.succ_le_succ h2
  · exact Nat.le_succ_of_le h3
  · refine nmG fun gG9 kG9 => ?_
    obtain ⟨l1, e1, h6⟩ := suf_end (l0 := l0) (l := l) (t := a :: t) (e0 ▸ hrc) (by simp)
    refine kG9 ?_
    clear kG9 gG9
    refine ⟨(i + 1) :: l1, by dsimp only; rw [e1]; rfl, fun x hx => ?_⟩
    rcases mcs hx with rfl | hx
    · omega
    · have := h4 x (h6 x hx); omega
  · intro l2 x y r e
    cases l2 with
    | nil =>
      simp only [List.nil_append, List.cons.injEq] at e
      obtain ⟨rfl, rfl, rfl⟩ := e
      exact lookup_new fun p hp => by have := h1 p hp; omega
    | cons z l2 =>
      simp only [List.cons_append, List.cons.injEq] at e
      refine lookup_snoc (h5 (l ++ l2) x y r ?_)
      rw [hrc, e.2, List.append_assoc]
theorem pinv_step (ps : List (List Nat × Nat)) {i : Nat} {st : PSt} (h : PInv i st) : PInv (i + 1) (stepF ps st (i + 1)) := by
  unfold stepF
  refine nmG fun gG9 kG9 => ?_
  obtain ⟨l0, e0, h4⟩ := h.ne
  refine kG9 ?_
  clear kG9 gG9
  dsimp only
  split
  · cases e : st.rc with
    | nil => rw [e0] at e; simp at e
    | cons z t => exact pinv_A h _ rfl (l := []) (by rw [e]; rfl)
  · obtain ⟨l, el⟩ := popF_suf ps (i + 1) st.rc
    split
    · rename_i z a r e
      refine pinv_A h _ rfl (l := l ++ [z]) ?_
      rw [e] at el
      rw [List.append_assoc]
      exact el
    · refine nmG fun gG9 kG9 => ?_
      obtain ⟨h1, h2, h3, h5, h6⟩ := h
      refine kG9 ?_
      clear kG9 gG9
      refine ⟨fun p hp => by have := h1 p hp; omega, Nat.le_succ_of_le h2, ?_, ⟨l0, e0, fun x hx => by have := h4 x hx; omega⟩, h6⟩
      rw [List.length_append]; exact Nat.succ_le_succ h3
theorem pinv_zero (ps : List (List Nat × Nat)) : PInv 0 (plainF ps 0) :=
  ⟨by simp [plainF], by simp [plainF], by simp [plainF], ⟨[], rfl, by simp⟩, by
    intro l x y r e
    cases l with
    | nil => simp [plainF] at e
    | cons z l => simp [plainF] at e⟩
theorem pinv (ps : List (List Nat × Nat)) : ∀ i, PInv i (plainF ps i)
  | 0 => pinv_zero ps
  | i + 1 => pinv_step ps (pinv ps i)
theorem pinv_head {i : Nat} {st : PSt} (h : PInv i st) : st.rc.headD 0 ≤ i := by
  refine nmG fun gG9 kG9 => ?_
  obtain ⟨l0, e0, h4⟩ := h.ne
  refine kG9 ?_
  clear kG9 gG9
  rw [e0]
  cases l0 with
  | nil => simp
  | cons z t => exact (h4 z (.head _)).2
end Mine
end
theorem Mine.rstM2 : True := by
  w_top off
  trivial
section
open PySem PySem.W PyProof.Rows PySem.Calls PySem.Spec
set_option Elab.async false
set_option maxRecDepth 100000
set_option maxHeartbeats 4000000
namespace Mine
theorem row_at {ps : List (List Nat × Nat)} (hO : LOk 4 ps) {k : Nat} (hk : k < 5) : ∃ p, rowAt ps (k + 1) = enc1 p ++ (⟨#[97 + k]⟩ : Str) ∧ ps[k]? = some p ∧ Ok1 4 p ∧ runsAt ps (k + 1) = p.1 ++ [p.2] := by
  refine nmG fun gG9 kG9 => ?_
  obtain ⟨p, e, e2, o⟩ := hO.get (k := k) (by omega)
  refine kG9 ?_
  clear kG9 gG9
  refine ⟨p, ?_, e2, o, ?_⟩
  · unfold rowAt rowsF
    rw [List.getD_cons_succ, List.getD_eq_getElem?_getD, List.getElem?_map, List.getElem?_range hk]
    simp only [Option.map_some, Option.getD_some]
    rw [e]
  · unfold runsAt
    have : ps.getD (k + 1 - 1) ([], 0) = p := by rw [List.getD_eq_getElem?_getD, Nat.add_sub_cancel, e2]; rfl
    simp only [this]
theorem colF_pos {size : Int} (hs : 0 < size) {l : List Nat} (hl : ∀ k ∈ l, k = 32 ∨ k = 9) (hne : l ≠ []) (r : List Nat) (hr : ∀ k ∈ r, k ≠ 32 ∧ k ≠ 9) : 0 < colF size (l ++ r) := by
  have step : ∀ (c : Int) (k : Nat), 0 ≤ c → (k = 32 ∨ k = 9) → 0 < (if k = 32 then c + 1 else if k = 9 then c.fdiv size * size + size else c) := by
    intro c k hc hk
    rcases hk with rfl | rfl
    · simp; omega
    · have h1 : 0 ≤ c.fdiv size := by rw [Int.fdiv_eq_ediv_of_nonneg _ (by omega)]; exact Int.ediv_nonneg hc (by omega)
      have h2 : 0 ≤ c.fdiv size * size := Int.mul_nonneg h1 (by omega)
      simp
      omega
  have key : ∀ (l : List Nat) (c : Int), 0 ≤ c → (∀ k ∈ l, k = 32 ∨ k = 9) → (l ≠ [] ∨ 0 < c) → 0 < l.foldl (fun c k => if k = 32 then c + 1 else if k = 9 then c.fdiv size * size + size else c) c := by
    intro l
    induction l with
    | nil => intro c _ _ h; exact h.elim (fun h => absurd rfl h) id
    | cons a t ih =>
      intro c hc hl _
      rw [List.foldl_cons]
      have h := step c a hc (hl a (.head _))
      exact ih _ (by omega) (fun k hk => hl k (.tail _ hk)) (.inr h)
  have rest : ∀ (r : List Nat) (c : Int), (∀ k ∈ r, k ≠ 32 ∧ k ≠ 9) → r.foldl (fun c k => if k = 32 then c + 1 else if k = 9 then c.fdiv size * size + size else c) c = c := by
    intro r
    induction r with
    | nil => intro c _; rfl
    | cons a t ih =>
      intro c h
      rw [List.foldl_cons, if_neg (h a (.head _)).1, if_neg (h a (.head _)).2]
      exact ih c fun k hk => h k (.tail _ hk)
  unfold colF
  rw [List.foldl_append, rest r _ hr]
  exact key l 0 (by omega) hl (.inl hne)
theorem enc_chars (rs : List Nat) (b : Nat) : ∀ k ∈ enc rs b, k = 32 ∨ k = 9 := by
  intro k hk
  unfold enc at hk
  simp only [List.mem_append, List.mem_flatMap, List.mem_replicate, List.mem_singleton] at hk
  rcases hk with ⟨r, _, h | h⟩ | h
  · exact .inl h.2
  · exact .inr h
  · exact .inl h.2
theorem colAt_zero (ps : List (List Nat × Nat)) (k : Nat) : (colAt ps 0).getD k 0 = 0 := by
  have : colAt ps 0 = [0, 0, 0, 0, 0, 0] := by
    show colsF (PySem.Str.ofString "local").cps.toList 6 = _
    decide +kernel
  rw [this]
  match k with
  | 0 => rfl
  | 1 => rfl
  | 2 => rfl
  | 3 => rfl
  | 4 => rfl
  | 5 => rfl
  | k + 6 => rfl
theorem cps_row (p : List Nat × Nat) (c : Nat) : (enc1 p ++ (⟨#[c]⟩ : Str)).cps.toList = enc p.1 p.2 ++ [c] := by
  rw [PySem.Str.cps_append]
  unfold enc1 mk
  simp
theorem gt0 {ps : List (List Nat × Nat)} (hO : LOk 4 ps) {k : Nat} (hk : k < 5) : gtF (colAt ps (k + 1)) (colAt ps 0) = true := by
  refine nmG fun gG9 kG9 => ?_
  obtain ⟨p, e, -, o, -⟩ := row_at hO hk
  refine kG9 ?_
  clear kG9 gG9
  unfold gtF
  rw [List.all_eq_true]
  intro j hj
  have hj := List.mem_range.mp hj
  rw [colAt_zero]
  unfold colAt
  rw [e, cps_row]
  have h1 : (colsF (enc p.1 p.2 ++ [97 + k]) 6).getD j 0 = colF (1 + (j : Int)) (enc p.1 p.2 ++ [97 + k]) := by
    unfold colsF
    rw [List.getD_eq_getElem?_getD, List.getElem?_map, List.getElem?_range hj]
    rfl
  rw [h1]
  have h2 := colF_pos (size := 1 + (j : Int)) (by omega) (enc_chars p.1 p.2) (by intro q; have := o.e; rw [q] at this; simp at this) [97 + k] (by intro x hx; rw [List.mem_singleton.mp hx]; omega)
  exact decide_eq_true (by omega)
theorem popF_zero (ps : List (List Nat × Nat)) (pl : Nat) : popF ps pl [0] = [0] := by
  unfold popF
  rw [List.dropWhile_cons]
  simp
theorem popF_stop {ps : List (List Nat × Nat)} {pl x : Nat} {r : List Nat} (h : colAt ps x = colAt ps pl) : popF ps pl (x :: r) = x :: r := by
  unfold popF
  rw [List.dropWhile_cons]
  simp [h]
theorem popF_go {ps : List (List Nat × Nat)} {pl x : Nat} {r : List Nat} (h0 : 0 < x) (h : colAt ps x ≠ colAt ps pl) : popF ps pl (x :: r) = popF ps pl r := by
  unfold popF
  rw [List.dropWhile_cons]
  simp [h, h0]
theorem chain_next {i : Nat} {st : PSt} (h : PInv i st) {l : List Nat} {x : Nat} {r : List Nat} (e : st.rc = l ++ x :: r) (hx : 0 < x) : ∃ y r', r = y :: r' ∧ st.ab.lookup x = some y := by
  refine nmG fun gG9 kG9 => ?_
  obtain ⟨l0, e0, h4⟩ := h.ne
  refine kG9 ?_
  clear kG9 gG9
  cases r with
  | nil =>
    rw [e] at e0
    have := congrArg List.getLast? e0
    simp at this
    omega
  | cons y r' => exact ⟨y, r', rfl, h.ch l x y r' e⟩
theorem chain_zero {i : Nat} {st : PSt} (h : PInv i st) {l : List Nat} {r : List Nat} (e : st.rc = l ++ 0 :: r) : r = [] := by
  refine nmG fun gG9 kG9 => ?_
  obtain ⟨l0, e0, h4⟩ := h.ne
  refine kG9 ?_
  clear kG9 gG9
  rw [e] at e0
  cases r with
  | nil => rfl
  | cons y r' =>
    have h1 : (l ++ 0 :: y :: r').dropLast = l0 := by rw [e0, List.dropLast_concat]
    have h2 : (0 : Nat) ∈ l0 := by
      rw [← h1, List.dropLast_append_of_ne_nil (by simp), List.dropLast_cons_of_ne_nil (by simp)]
      simp
    have := h4 0 h2
    omega
end Mine
end
theorem Mine.rstB9 : True := by
  w_top off
  trivial
section
open PySem PySem.W PyProof.Rows PySem.Calls PySem.Spec
set_option Elab.async false
set_option maxRecDepth 100000
set_option maxHeartbeats 8000000
namespace Mine
theorem colAt_len (ps : List (List Nat × Nat)) (k : Nat) : (colAt ps k).length = 6 := by simp [colAt, colsF]
theorem nameO {o : Obj} {d : Data} (_ : o.data = d) : ∃ x, x = o := ⟨_, rfl⟩
theorem rowsF_len (ps : List (List Nat × Nat)) : (rowsF ps).length = 6 := rfl
local macro_rules | `(tactic| k_all) => `(tactic| first | assumption | exact ne_of_l1 (by assumption))
local macro_rules | `(tactic| k_ne) => `(tactic| first | assumption | (refine Ne.symm ?_; assumption))
local macro_rules | `(tactic| k_mem) => `(tactic| first | assumption | exact List.Mem.head _ | (refine List.Mem.tail _ ?_; k_mem))
section
variable {w : World} {mean : ExcName → Option Value} {mg mb : Str → Option Value} {dp un : Nat} {gd : Option (List Code)} {cn : Str} {cs : Scope} {a : Addr} {ccd : Value} {cl : List (Str × Addr)} {outer : List Env} {A₀ : Around} {base h₀ : Heap} {L : Addr} {m : Str → Option Value} {s : Shared} {Q E : Value → Shared → Prop} {news : List (Addr × Obj)}
theorem row_len {ps : List (List Nat × Nat)} (h : LOk 4 ps) : ∀ x ∈ rowsF ps, x.length ≤ 50 := by
  intro x hx
  rcases mcs hx with rfl | hx
  · decide
  · refine nmG fun gG9 kG9 => ?_
    obtain ⟨k, hk, rfl⟩ := List.mem_map.mp hx
    have hk := List.mem_range.mp hk
    obtain ⟨p, e, -, o⟩ := h.get (k := k) (by (first | lia | omega))
    refine kG9 ?_
    clear kG9 gG9
    rw [e]
    have h1 : (enc1 p ++ (⟨#[97 + k]⟩ : Str)).length = (enc1 p).length + 1 := by simp [PySem.Str.length, PySem.Str.cps_append]
    have h2 := o.l
    rw [h1]
    unfold enc1
    rw [mk_len]
    (first | lia | omega)
theorem cols_at (ps : List (List Nat × Nat)) {k : Nat} (hk : k < 6) : ((rowsF ps).map fun x => colsF x.cps.toList 6)[k]? = some (colAt ps k) := by
  have h : k < (rowsF ps).length := by rw [rowsF_len]; exact hk
  rw [List.getElem?_map, List.getElem?_eq_getElem h]
  unfold colAt rowAt
  rw [List.getD_eq_getElem?_getD, List.getElem?_eq_getElem h]
  rfl
/-- the pair of the parents and the nags -/
noncomputable def ReadIn (w : World) (nn : List (Addr × Obj)) (T : Addr) (st : PSt) : Prop :=
  ∃ dd al kvs vs e e2 o, (T, ({ cls := .type "tuple", data := .seq [.ref dd, .ref al].toArray e2 } : Obj)) ∈ nn ∧ (dd, o) ∈ nn ∧ o.IsDictOf (intKind PySem.Challenge.rw_xe0048_01.row.prog w) kvs ∧ AbIs kvs st.ab ∧ (al, ({ cls := .type "list", data := .seq vs.toArray e } : Obj)) ∈ nn ∧ NagsAre nn vs st.ng ∧ (dd == sysModules) = false
end
namespace Zplain_ct
noncomputable def ctS (w : World) (mean : ExcName → Option Value) (mg : Str → Option Value) (mb : Str → Option Value) (dp : Nat) (un : Nat) (gd : Option (List Code)) (cn : Str) (cs : Scope) (a : Addr) (ccd : Value) (cl : List (Str × Addr)) (outer : List Env) (A₀ : Around) (base : Heap) (h₀ : Heap) (L : Addr) (m : Str → Option Value) (s : Shared) (Q : Value → Shared → Prop) (E : Value → Shared → Prop) (news : List (Addr × Obj)) (pg : Addr) (pv : List Value) (pe : Nat) (ps : List (List Nat × Nat)) : Prop := Bx (
  ∀ (C : At w mean mg mb 2 dp un cs outer A₀ base h₀ L m news s.heap) (mp : (pg, ({ cls := .type "list", data := .seq pv.toArray pe } : Obj)) ∈ news) (hS : StrsAre pv (rowsF ps)) (hO : LOk 4 ps) (hret : ∀ (T : Addr) (nn : List (Addr × Obj)) (h' : Heap) (tk' : Nat), ReadIn w nn T (plainF ps 5) → (∀ p ∈ news, p ∈ nn) → Fr h₀ L h' m → News h₀ L h' nn → Q (.ref T) { s with heap := h', toks := tk' }),
  wpAny (model PySem.Challenge.rw_xe0048_01.row.prog w) (ktrTop dp un gd cn cs L a ccd cl outer) (call (.ref 240) [.ref pg]) Q E s)
theorem ne : Nonempty (V0 × ((Addr) × (List Value) × (Nat) × (List (List Nat × Nat)))) := ne_V ⟨(default, default, default, default)⟩
noncomputable def ctc : V0 × ((Addr) × (List Value) × (Nat) × (List (List Nat × Nat))) := pk ne fun v => ctS v.1.w v.1.mean v.1.mg v.1.mb v.1.dp v.1.un v.1.gd v.1.cn v.1.cs v.1.a v.1.ccd v.1.cl v.1.outer v.1.A₀ v.1.base v.1.h₀ v.1.L v.1.m v.1.s v.1.Q v.1.E v.1.news v.2.1 v.2.2.1 v.2.2.2.1 v.2.2.2.2
noncomputable def w : World := ctc.1.w
noncomputable def mean : ExcName → Option Value := ctc.1.mean
noncomputable def mg : Str → Option Value := ctc.1.mg
noncomputable def mb : Str → Option Value := ctc.1.mb
noncomputable def dp : Nat := ctc.1.dp
noncomputable def un : Nat := ctc.1.un
noncomputable def gd : Option (List Code) := ctc.1.gd
noncomputable def cn : Str := ctc.1.cn
noncomputable def cs : Scope := ctc.1.cs
noncomputable def a : Addr := ctc.1.a
noncomputable def ccd : Value := ctc.1.ccd
noncomputable def cl : List (Str × Addr) := ctc.1.cl
noncomputable def outer : List Env := ctc.1.outer
noncomputable def A₀ : Around := ctc.1.A₀
noncomputable def base : Heap := ctc.1.base
noncomputable def h₀ : Heap := ctc.1.h₀
noncomputable def L : Addr := ctc.1.L
noncomputable def m : Str → Option Value := ctc.1.m
noncomputable def s : Shared := ctc.1.s
noncomputable def Q : Value → Shared → Prop := ctc.1.Q
noncomputable def E : Value → Shared → Prop := ctc.1.E
noncomputable def news : List (Addr × Obj) := ctc.1.news
noncomputable def pg : Addr := ctc.2.1
noncomputable def pv : List Value := ctc.2.2.1
noncomputable def pe : Nat := ctc.2.2.2.1
noncomputable def ps : List (List Nat × Nat) := ctc.2.2.2.2
noncomputable def ctA : (ctR : (Heap) → (Addr) → (Heap) → (Nat) → Prop) ×' (∀ (C : At w mean mg mb 2 dp un cs outer A₀ base h₀ L m news s.heap) (mp : (pg, ({ cls := .type "list", data := .seq pv.toArray pe } : Obj)) ∈ news) (hS : StrsAre pv (rowsF ps)) (hO : LOk 4 ps) (hret : ∀ (T : Addr) (nn : List (Addr × Obj)) (h' : Heap) (tk' : Nat), ReadIn w nn T (plainF ps 5) → (∀ p ∈ news, p ∈ nn) → Fr h₀ L h' m → News h₀ L h' nn → Q (.ref T) { s with heap := h', toks := tk' }), (∀ g0 L9 h0 k0, Bx (ctR g0 L9 h0 k0)) → wpAny (model PySem.Challenge.rw_xe0048_01.row.prog w) (ktrTop dp un gd cn cs L a ccd cl outer) (call (.ref 240) [.ref pg]) Q E s) := ⟨_, by
  intro C mp hS hO hret ctH
  k_with_none
  refine nmG fun gG9 kG9 => ?_
  obtain ⟨B, F, X, N, T, kf, hd, hu⟩ := C
  refine kG9 ?_
  clear kG9 gG9
  revert X
  k_fill
  intro X
  refine wpAny_call ?_
  k_dflt (refine' code_defC ?k1 ?k2 ?k3 ?k4 ?k5 ?kA ?kF ?kK ?k6 ?k7 ?k8 ?k9 ?kB ?kD ?_ ?c2 ?c3 ?c4; (case kA => exact rfl); (case kF => exact rfl); (case kK => assumption); (case k1 => k_asm); (case k2 => k_asm); (case k3 => k_asm); (case k4 => k_asm); (case k5 => k_asm); (case k6 => k_is); (case k7 => k_is); (case k8 => ktr_room); (case k9 => exact BindsTo.of_eq rfl); (case kB => exact rfl); (case kD => decide +kernel); (case c2 => exact rfl); (case c3 => exact rfl); (case c4 => exact rfl); k_whole; exact fun g0 L9 h0 k0 => (ctH g0 L9 h0 k0).out)⟩
theorem ned : Nonempty ((Heap) × (Addr) × (Heap) × (Nat)) := ⟨(default, default, default, default)⟩
noncomputable def ctd := pk ned fun v => Bx (ctA.1 v.1 v.2.1 v.2.2.1 v.2.2.2)
noncomputable def g0 : Heap := ctd.1
noncomputable def L9 : Addr := ctd.2.1
noncomputable def h0 : Heap := ctd.2.2.1
noncomputable def k0 : Nat := ctd.2.2.2
noncomputable def ctB : (ctR : (Addr) → (List Value) → (Obj) → (List (Addr × Obj)) → (Addr) → (Addr) → (Nat) → (Tok) → (Str → Option Value) → (List (Addr × Obj)) → (Heap) → (Nat) → (List (Int × Value)) → (List Value) → (Nat) → (Obj) → (Obj) → (Obj) → (Tok) → (Option Value) → (List (Addr × Obj)) → Prop) ×' (∀ (C : At w mean mg mb 2 dp un cs outer A₀ base h₀ L m news s.heap) (mp : (pg, ({ cls := .type "list", data := .seq pv.toArray pe } : Obj)) ∈ news) (hS : StrsAre pv (rowsF ps)) (hO : LOk 4 ps) (hret : ∀ (T : Addr) (nn : List (Addr × Obj)) (h' : Heap) (tk' : Nat), ReadIn w nn T (plainF ps 5) → (∀ p ∈ news, p ∈ nn) → Fr h₀ L h' m → News h₀ L h' nn → Q (.ref T) { s with heap := h', toks := tk' }), (∀ D ys oC9 rest al dd i t u ok h tk kvs vs e o1 o2 o3 t2 v R, Bx (ctR D ys oC9 rest al dd i t u ok h tk kvs vs e o1 o2 o3 t2 v R)) → Bx (ctA.1 g0 L9 h0 k0)) := ⟨_, by
  intro C mp hS hO hret ctH
  refine ⟨?_⟩
  dsimp only [ctA]
  k_with_none
  k_with "pyIter ref" => (refine hold ?_)
  k_with "eval ListComp" => ((k_here; (with_reducible show wpAny _ _ (eval (PySem.Expr.ListComp _ [⟨_, _, [], _⟩] _ _) _) _ _ _); k_dflt (refine comp_H (F₀ := by k_asm) (by with_unfolding_all rfl) (by decide) (by rfl) (by decide) (by rfl) ?_)))
  k_with "exec Assign cons ListComp" => ((k_here; (with_reducible show wpAny _ _ (exec (PySem.Stmt.Assign _ (PySem.Expr.ListComp _ [⟨_, _, [], _⟩] _ _) _) _) _ _ _); k_dflt (refine acomp_H (F₀ := by k_asm) (by rfl) (by with_unfolding_all rfl) (by with_unfolding_all rfl) (by decide) (by rfl) (by decide) (by rfl) (by rfl) (by rfl) ?_)))
  k_with "eval Dict nil nil" => ((k_here; k_dflt (refine' newDict_K ?k1.«_@»._hyg ?k2.«_@»._hyg (TopRead.nolimit (by k_asm)) ?_; (case k1 => k_asm); (case k2 => k_asm); k_whole); intro dd h'z9 od F'z9 N'z9 hdd hdlo hs'z9 fs'z9 hdi fi'z9; (have l1z9 := hdd); (try k_lt l1z9)))
  k_with "call builtin:len" => (((with_reducible show wpAny _ _ (call (Value.builtin "len") [Value.ref _]) _ _ _); k_dflt (refine' mlen_strs ?a.«_@»._hyg ?b.«_@»._hyg ?c.«_@»._hyg ?d.«_@»._hyg ?_; (case a => k_asm); (case b => k_mem); (case c => assumption); (case d => (rw [rowsF_len]; (first | lia | omega))))))
  k_with "subscriptTail" => (((with_reducible show wpAny _ _ (subscriptTail _ _ (Value.ref _) (Value.int _ _)) _ _ _); (k_dflt (refine' mitem_cols ?c1.«_@»._hyg ?c2.«_@»._hyg ?c3.«_@»._hyg ?c4.«_@»._hyg ?c5.«_@»._hyg ?c6.«_@»._hyg ?_ ?c8.«_@»._hyg; (case c1 => k_asm); (case c2 => k_mem); (case c3 => assumption); (case c6 => assumption); (case c4 => (first | lia | omega)); (case c5 => (first | lia | omega)); (case c8 => with_unfolding_all rfl))); intro cb cvs cep hcb hcv))
  k_with "subscriptTail" => (((with_reducible show wpAny _ _ (subscriptTail _ _ (Value.ref _) (Value.int _ _)) _ _ _); (k_dflt (refine' mitem_ints ?c1.«_@»._hyg ?c2.«_@»._hyg ?c3.«_@»._hyg ?c4.«_@»._hyg ?c5.«_@»._hyg ?c6.«_@»._hyg ?_ ?c8.«_@»._hyg; (case c1 => k_asm); (case c2 => k_mem); (case c3 => assumption); (case c4 => (first | lia | omega)); (case c5 => (rw [colAt_len]; (first | lia | omega))); (case c6 => (rw [colAt_len]; (first | lia | omega))); (case c8 => with_unfolding_all rfl))); intro tz9))
  k_with "call builtin:min" => ((k_here; k_dflt (refine' min_list_N ?c0.«_@»._hyg ?c1.«_@»._hyg ?c2.«_@»._hyg ?c3.«_@»._hyg ?c4.«_@»._hyg ?c5.«_@»._hyg ?_; (case c0 => rfl); (case c1 => k_asm); (case c2 => k_asm); (case c3 => exact News.isList (by k_asm) (by k_mem)); (case c4 => assumption); (case c5 => (simp only [List.length_map, List.length_range]; (first | lia | omega)))); intro h'z9 Mz9 t'z9 tk'z9 F'z9 N'z9 hM1z9 hM2z9))
  k_with "compareOp NotEq ref ref" => ((k_dflt (refine' ke_ne_ints ?a.«_@»._hyg ?b.«_@»._hyg ?c.«_@»._hyg ?d.«_@»._hyg ?e.«_@»._hyg ?_; (case a => exact News.isList (by k_asm) (by k_mem)); (case b => exact News.isList (by k_asm) (by k_mem)); (case c => assumption); (case d => assumption); (case e => ke_room))))
  k_with "subscriptTail" => (((with_reducible show wpAny _ _ (subscriptTail _ _ (Value.ref _) (Value.int _ _)) _ _ _); (k_dflt (refine' mitem_strsE ?c1.«_@»._hyg ?c2.«_@»._hyg ?c3.«_@»._hyg ?c4.«_@»._hyg ?c5.«_@»._hyg ?c6.«_@»._hyg ?c7.«_@»._hyg ?_ ?c9.«_@»._hyg; (case c1 => k_asm); (case c2 => k_mem); (case c3 => assumption); (case c4 => (first | lia | omega)); (case c5 => (rw [rowsF_len]; (first | lia | omega))); (case c6 => (rw [rowsF_len]; (first | lia | omega))); (case c7 => assumption); (case c9 => with_unfolding_all rfl))); intro tz9))
  k_with "subscriptTail" => (((with_reducible show wpAny _ _ (subscriptTail _ _ (Value.ref _) (Value.int _ _)) _ _ _); (k_dflt (refine' kda_item (knd := PySem.intKind _ _) ?c1.«_@»._hyg ?c2.«_@»._hyg ?c3.«_@»._hyg ?c4.«_@»._hyg ?c5.«_@»._hyg ?_ ?c7.«_@»._hyg ?c8.«_@»._hyg; (case c1 => k_asm); (case c2 => k_mem); (case c3 => assumption); (case c4 => exact intKind_is _ _ _ _); (case c5 => assumption); (case c7 => with_unfolding_all rfl); (case c8 => (intro _; with_unfolding_all rfl))))))
  k_with "exec While" => (refine hold ?_)
  k_with "setItem ref int" => (refine hold ?_)
  k_with "newList" => ((k_here; k_dflt (refine' newList_K ?k1.«_@»._hyg ?k2.«_@»._hyg ?_; (case k1 => k_asm); (case k2 => k_asm); k_whole); intro al h'z9 F'z9 N'z9 hal; (have l1z9 := hal); (try k_lt l1z9)))
  k_with "call ref" => (((with_reducible show wpAny _ _ (call (Value.ref 230) _) _ _ _); k_dflt (refine' cols_ct ⟨?k1.«_@»._hyg, ?k2.«_@»._hyg, ?k3.«_@»._hyg, ?k4.«_@»._hyg, ?k5.«_@»._hyg, ?k6.«_@»._hyg, ?k7.«_@»._hyg, ?k8.«_@»._hyg⟩ ?kL.«_@»._hyg ?_; (case kL => assumption); (case k1 => k_asm); (case k2 => k_asm); (case k3 => k_in); (case k4 => k_asm); (case k5 => k_asm); (case k6 => first | exact rfl | assumption); (case k7 => ktr_room); (case k8 => ktr_units)); intro bl bvs bep nn'z9 h'z9 tk'z9 F'z9 N'z9 hsub hbl hbm hbi))
  k_with "call ref" => (((with_reducible show wpAny _ _ (call (Value.ref 235) _) _ _ _); k_dflt (refine' words_ct ⟨?k1.«_@»._hyg, ?k2.«_@»._hyg, ?k3.«_@»._hyg, ?k4.«_@»._hyg, ?k5.«_@»._hyg, ?k6.«_@»._hyg, ?k7.«_@»._hyg, ?k8.«_@»._hyg⟩ ?o1.«_@»._hyg ?o2.«_@»._hyg ?mh.«_@»._hyg ?ml.«_@»._hyg ?ih.«_@»._hyg ?il.«_@»._hyg ?hh.«_@»._hyg ?hl.«_@»._hyg ?_; (case k1 => k_asm); (case k2 => k_asm); (case k3 => k_in); (case k4 => k_asm); (case k5 => k_asm); (case k6 => first | exact rfl | assumption); (case k7 => ktr_room); (case k8 => ktr_units); (case o1 => assumption); (case o2 => assumption); (case mh => k_mem); (case ml => k_mem); (case ih => assumption); (case il => assumption); (case hh => exact colAt_len _ _); (case hl => exact colAt_len _ _)); intro tw nnw h'z9 tk'z9 F'z9 N'z9 hsw))
  refine nmG fun gG9 kG9 => ?_
  obtain ⟨B, F, X, N, T, kf, hd, hu⟩ := C
  refine kG9 ?_
  clear kG9 gG9
  revert X
  k_fill
  intro X
  intro cells' FG' F9 N9 Y' B' X' T' lnews
  (have hY := CellsAre.three Y')
  (obtain ⟨oH, oL, oC, hE', dH, dL, dC⟩ := hY)
  subst hE'
  clear Y'
  (try simp only [List.cons_append, List.nil_append] at N9)
  (try dsimp only)
  k_steps
  unfold Hold
  have hrl := row_len hO
  have hvl := hS.length
  rw [rowsF_len] at hvl
  (with_unfolding_all refine' mcompL _ (fun i ys n => ColsAre n ys (((rowsF ps).take i).map fun x => colsF x.cps.toList 6)) (by rfl) (by k_asm) (by k_asm) (.tail _ (.tail _ (.tail _ mp))) ?hl (fun _ hp => hp) .nil ?turn ?done)
  case hl => (first | lia | omega)
  case turn =>
    rintro i v ys nn I oI C oC D m₂ h tk E' hv hkn hax hi9 hC hx F N off ne
    refine nmG fun gG9 kG9 => ?_
    obtain ⟨x, t, rfl, hx9⟩ := strs_at hS hv
    refine kG9 ?_
    clear kG9 gG9
    have hx50 := hrl x (List.mem_of_getElem? hx9)
    k_steps
    refine cend (by assumption) (by assumption) (hsub _ (.head _)) (hsub _ (.tail _ (.head _))) (hsub _ (.tail _ (.tail _ (.head _)))) (nn := (bl, ({ cls := .type "list", data := .seq bvs.toArray bep } : Obj)) :: nn) (fun p hp => ?_) ⟨⟨Ne.symm (hbl _ (.head _)), Ne.symm (hbl _ (.tail _ (.head _))), Ne.symm (hbl _ (.tail _ (.tail _ (.head _))))⟩, off⟩ (.tail _ hax) ⟨fun p hp => .tail _ (hkn p hp), ?_⟩
    · rcases mcs hp with rfl | hp
      · exact hbm
      · exact hsub _ (.tail _ (.tail _ (.tail _ hp)))
    · rw [takeG hx9, List.map_append]
      exact (hi9.mono fun p hp _ _ => .tail _ hp).snoc (.head _) hbi
  case done =>
    intro g ys nn hkn hCo D h tk F N off1
    rw [hvl, List.take_of_length_le (by rw [rowsF_len]; (first | lia | omega))] at hCo
    have mH := hkn _ (.head _)
    have mL := hkn _ (.tail _ (.head _))
    have mC := hkn _ (.tail _ (.tail _ (.head _)))
    clear N9 F9
    have z1 : L9 + 1 + 1 + 1 ≠ L9 + 1 + 1 := Nat.ne_of_gt (Nat.lt_succ_self _)
    have z2 : L9 + 1 + 1 + 1 ≠ L9 + 1 := Nat.ne_of_gt (Nat.lt_succ_of_lt (Nat.lt_succ_self _))
    have z3 : L9 + 1 + 1 ≠ L9 + 1 := Nat.ne_of_gt (Nat.lt_succ_self _)
    have z4 : D ≠ L9 + 1 + 1 + 1 := fun e => off1_ne off1 _ mH e.symm
    have z5 : D ≠ L9 + 1 + 1 := fun e => off1_ne off1 _ mL e.symm
    have z6 : D ≠ L9 + 1 := fun e => off1_ne off1 _ mC e.symm
    refine nmG fun gG9 kG9 => ?_
    refine ex1 (news_front4 N (.head _) (.tail _ mH) (.tail _ mL) (.tail _ mC)) ?_
    intro rest y9w1
    refine an6 (y9w1) ?_
    intro N4 r1 r2 r3 r4 r5
    clear y9w1
    refine kG9 ?_
    clear kG9 gG9
    have hCo4 : ColsAre rest ys (List.map (fun x => colsF x.cps.toList 6) (rowsF ps)) := by
      refine hCo.mono fun p hp hc ⟨xs, e, hd⟩ => r5 p (.tail _ hp) (off1_ne off1 p hp) ?_ ?_ ?_
      · exact ne_data N (.tail _ hp) (.tail _ mH) (by rw [hd, dH]; simp)
      · exact ne_data N (.tail _ hp) (.tail _ mL) (by rw [hd, dL]; simp)
      · exact ne_data N (.tail _ hp) (.tail _ mC) (by rw [hd, dC]; simp)
    have hnr : ∀ p ∈ news, p ∈ rest := fun p hp => by
      have hl := lnews p hp
      have hk := hkn p (.tail _ (.tail _ (.tail _ hp)))
      exact r5 p (.tail _ hk) (off1_ne off1 p hk) (Nat.ne_of_lt (Nat.lt_succ_of_lt (Nat.lt_succ_of_lt (Nat.lt_succ_of_lt hl)))) (Nat.ne_of_lt (Nat.lt_succ_of_lt (Nat.lt_succ_of_lt hl))) (Nat.ne_of_lt (Nat.lt_succ_of_lt hl))
    clear N hkn mH mL mC r5
    have mpr := hnr _ mp
    k_steps
    unfold Hold
    (with_reducible rename (_ : Obj).data = Data.cell (some (Value.ref D)) => dC9)
    obtain ⟨oC9, eC9⟩ := nameO dC9
    subst eC9
    (with_reducible rename (_ : Obj).data = Data.cell (some (Value.int 0 _)) => dL9)
    have hlo := Kp.mk hdlo
    have y1 : al ≠ L9 + 1 + 1 + 1 := Nat.ne_of_gt (hal (L9 + 1 + 1 + 1, oH) (.tail _ (.tail _ (.head _))))
    have y2 : al ≠ L9 + 1 + 1 := Nat.ne_of_gt (hal (L9 + 1 + 1, oL) (.tail _ (.tail _ (.tail _ (.head _)))))
    have y3 : dd ≠ L9 + 1 + 1 + 1 := Nat.ne_of_gt (hdd (L9 + 1 + 1 + 1, oH) (.tail _ (.head _)))
    have y4 : dd ≠ L9 + 1 + 1 := Nat.ne_of_gt (hdd (L9 + 1 + 1, oL) (.tail _ (.tail _ (.head _))))
    have y5 : dd ≠ al := Nat.ne_of_lt (hal (dd, od) (.head _))
    (with_unfolding_all refine' mrange ((D, LCg.lst ys) :: (L9 + 1, oC9) :: rest) (fun (_ : Unit) => [(("page" : Str), .ref pg), (("above" : Str), .ref dd), (("nags" : Str), .ref al)]) (fun i _ n => ∃ kvs vs e o1 o2 o3 t v, (dd, o1) ∈ n ∧ o1.IsDictOf (intKind PySem.Challenge.rw_xe0048_01.row.prog w) kvs ∧ AbIs kvs (plainF ps i).ab ∧ (al, ({ cls := .type "list", data := .seq vs.toArray e } : Obj)) ∈ n ∧ NagsAre n vs (plainF ps i).ng ∧ (L9 + 1 + 1, o2) ∈ n ∧ o2.data = .cell (some (.int ((plainF ps i).rc.headD 0 : Nat) t)) ∧ (L9 + 1 + 1 + 1, o3) ∈ n ∧ o3.data = .cell v) () ?hh ?hr ?ha ?hb ?hn ?mo ?kp ?F ?N ?hk ?hj ?turn ?done ?hx)
    case hh => rfl
    case hr => assumption
    case ha => decide
    case hb => rw [rowsF_len]; decide
    case hn => rfl
    case F => k_asm
    case N => k_asm
    case kp =>
      intro p hp
      rcases mcs hp with rfl | hp
      · k_mem
      rcases mcs hp with rfl | hp
      · k_mem
      · exact .tail _ (.tail _ (.tail _ (.tail _ (.tail _ (.tail _ hp)))))
    case hk => kst_all
    case hx => exact fun _ => rfl
    case mo =>
      intro i c n n' hs hz9
      refine nmG fun gG9 kG9 => ?_
      refine ex8 (hz9) ?_
      intro kvs vs e o1 o2 o3 t v y9w1
      refine an9 (y9w1) ?_
      intro m1 i1 a1 m2 a2 m3 d3 m4 d4
      clear y9w1
      try clear hz9
      refine kG9 ?_
      clear kG9 gG9
      exact (exi8 kvs vs e o1 o2 o3 t v ⟨hs _ m1 (.inr (by simp [dict_cls i1])), i1, a1, hs _ m2 (.inr (by simp)), a2.mono fun p hp hc _ => hs p hp (.inr (by simp [hc])), hs _ m3 (.inl ⟨_, d3⟩), d3, hs _ m4 (.inl ⟨_, d4⟩), d4⟩)
    case hj => exact (exi8 [] [] 0 od _ oH _ _ ⟨.tail _ (.head _), hdi, trivial, .head _, .nil, .tail _ (.tail _ (.tail _ (.tail _ (.head _)))), dL9, .tail _ (.tail _ (.tail _ (.head _))), dH⟩)
    case turn =>
      intro i t c u nn ok h tk hlt hko hok hok2 hz9
      refine nmG fun gG9 kG9 => ?_
      refine ex8 (hz9) ?_
      intro kvs vs e o1 o2 o3 t2 v y9w1
      refine an9 (y9w1) ?_
      intro m1 i1 a1 m2 a2 m3 d3 m4 d4
      clear y9w1
      try clear hz9
      refine kG9 ?_
      clear kG9 gG9
      intro F N
      dsimp only [kstB] at F
      have kpA : ∀ p ∈ (D, LCg.lst ys) :: (L9 + 1, oC9) :: rest, p.1 ≠ al := fun p hp => Nat.ne_of_lt (by
        rcases mcs hp with rfl | hp
        · exact hal _ (.tail _ (.head _))
        rcases mcs hp with rfl | hp
        · exact hal _ (.tail _ (.tail _ (.tail _ (.tail _ (.head _)))))
        · exact hal _ (.tail _ (.tail _ (.tail _ (.tail _ (.tail _ hp))))))
      have kpD : ∀ p ∈ (D, LCg.lst ys) :: (L9 + 1, oC9) :: rest, p.1 ≠ dd := fun p hp => Nat.ne_of_lt (by
        rcases mcs hp with rfl | hp
        · exact hdd (D, LCg.lst ys) (.head _)
        rcases mcs hp with rfl | hp
        · exact hdd (L9 + 1, oC9) (.tail _ (.tail _ (.tail _ (.head _))))
        · exact hdd p (.tail _ (.tail _ (.tail _ (.tail _ hp)))))
      have kpH : ∀ p ∈ (D, LCg.lst ys) :: (L9 + 1, oC9) :: rest, p.1 ≠ L9 + 1 + 1 + 1 := fun p hp => by
        rcases mcs hp with rfl | hp
        · exact z4
        rcases mcs hp with rfl | hp
        · exact Ne.symm z2
        · exact r2 p hp
      have kpL : ∀ p ∈ (D, LCg.lst ys) :: (L9 + 1, oC9) :: rest, p.1 ≠ L9 + 1 + 1 := fun p hp => by
        rcases mcs hp with rfl | hp
        · exact z5
        rcases mcs hp with rfl | hp
        · exact Ne.symm z3
        · exact r3 p hp
      have n1 := ok_ne N m2 (.inr (by simp)) hok hok2 kpA
      have n2 := ok_ne N m1 (.inr (by simp [dict_cls i1])) hok hok2 kpD
      have n3 := ok_ne N m4 (.inl ⟨_, d4⟩) hok hok2 kpH
      have n4 := ok_ne N m3 (.inl ⟨_, d3⟩) hok hok2 kpL
      refine nmG fun gG9 kG9 => ?_
      refine ex1 (news_front4 N m2 m1 m4 m3) ?_
      intro R y9w1
      refine an6 (y9w1) ?_
      intro N5 q1 q2 q3 q4 q5
      clear y9w1
      refine kG9 ?_
      clear kG9 gG9
      have okR : ∀ p ∈ ok, p ∈ R := fun p hp => q5 p (hok p hp) (n1 p hp) (n2 p hp) (n3 p hp) (n4 p hp)
      replace a2 : NagsAre R vs (plainF ps i).ng := a2.mono fun p hp hc ⟨xs, e, hd⟩ => q5 p hp (ne_addr N hp m2 (by rw [hc]; simp)) (ne_addr N hp m1 (by rw [hc, dict_cls i1]; simp)) (ne_data N hp m4 (by rw [hd, d4]; simp)) (ne_data N hp m3 (by rw [hd, d3]; simp))
      have g1 := okR _ (hko _ (.head _))
      have g2 := okR _ (hko _ (.tail _ (.head _)))
      have g3 := okR _ (hko _ (.tail _ (.tail _ mpr)))
      clear N hal hdd kpA kpD kpH kpL n1 n2 n3 n4
      have hCoR : ColsAre R ys (List.map (fun x => colsF x.cps.toList 6) (rowsF ps)) := hCo4.mono fun p hp _ _ => okR _ (hko _ (.tail _ (.tail _ hp)))
      have hi5 : i < 5 := hlt
      have hc1 : (List.map (fun x => colsF x.cps.toList 6) (rowsF ps))[(1 + (i : Int)).toNat]? = some (colAt ps (i + 1)) := by
        rw [show (1 + (i : Int)).toNat = i + 1 by (first | lia | omega)]
        exact cols_at ps (by (first | lia | omega))
      clear hCo hCo4
      have hPI := pinv ps i
      have hlast : (plainF ps i).rc.headD 0 < 6 := by have := pinv_head hPI; (first | lia | omega)
      have hc2 : (List.map (fun x => colsF x.cps.toList 6) (rowsF ps))[(((plainF ps i).rc.headD 0 : Nat) : Int).toNat]? = some (colAt ps ((plainF ps i).rc.headD 0)) := by
        rw [Int.toNat_natCast]
        exact cols_at ps hlast
      (try dsimp only)
      revert hc2; revert hlast; revert hPI; revert hc1; revert hi5; revert hCoR; revert g3; revert g2; revert g1; revert a2; revert okR; revert q4; revert q3; revert q2; revert q1; revert N5; revert F; revert d4; revert d3; revert a1; revert i1; revert y5; revert y4; revert y3; revert y2; revert y1; revert hlo; revert dC9; revert z6; revert z5; revert z4; revert z3; revert z2; revert z1; revert hvl; revert hrl; revert T'; revert X'; revert B'; revert FG'
      exact (ctH D ys oC9 rest al dd i t u ok h tk kvs vs e o1 o2 o3 t2 v R).out
    case done =>
      intro c u nn h tk hkn hz9
      refine nmG fun gG9 kG9 => ?_
      refine ex8 (hz9) ?_
      intro kvs vs e o1 o2 o3 t2 v y9w1
      refine an9 (y9w1) ?_
      intro m1 i1 a1 m2 a2 m3 d3 m4 d4
      clear y9w1
      try clear hz9
      refine kG9 ?_
      clear kG9 gG9
      intro F N
      dsimp only [kstB] at F
      have e5 : (((rowsF ps).length : Int) - 1).toNat = 5 := by rw [rowsF_len]; rfl
      rw [e5] at a1 a2
      k_steps
      exact hret _ _ _ _ ⟨dd, al, kvs, vs, e, _, o1, .head _, .tail _ m1, i1, a1, .tail _ m2, a2.mono fun p hp _ _ => .tail _ hp, hlo.k⟩ (fun p hp => .tail _ (hkn p (.tail _ (.tail _ (hnr p hp))))) (by assumption) (by assumption)⟩
theorem ctBne : Nonempty ((Addr) × (List Value) × (Obj) × (List (Addr × Obj)) × (Addr) × (Addr) × (Nat) × (Tok) × (Str → Option Value) × (List (Addr × Obj)) × (Heap) × (Nat) × (List (Int × Value)) × (List Value) × (Nat) × (Obj) × (Obj) × (Obj) × (Tok) × (Option Value) × (List (Addr × Obj))) := ⟨(default, default, default, default, default, default, default, default, default, default, default, default, default, default, default, default, default, default, default, default, default)⟩
noncomputable def ctBd := pk ctBne fun v => Bx (ctB.1 v.1 v.2.1 v.2.2.1 v.2.2.2.1 v.2.2.2.2.1 v.2.2.2.2.2.1 v.2.2.2.2.2.2.1 v.2.2.2.2.2.2.2.1 v.2.2.2.2.2.2.2.2.1 v.2.2.2.2.2.2.2.2.2.1 v.2.2.2.2.2.2.2.2.2.2.1 v.2.2.2.2.2.2.2.2.2.2.2.1 v.2.2.2.2.2.2.2.2.2.2.2.2.1 v.2.2.2.2.2.2.2.2.2.2.2.2.2.1 v.2.2.2.2.2.2.2.2.2.2.2.2.2.2.1 v.2.2.2.2.2.2.2.2.2.2.2.2.2.2.2.1 v.2.2.2.2.2.2.2.2.2.2.2.2.2.2.2.2.1 v.2.2.2.2.2.2.2.2.2.2.2.2.2.2.2.2.2.1 v.2.2.2.2.2.2.2.2.2.2.2.2.2.2.2.2.2.2.1 v.2.2.2.2.2.2.2.2.2.2.2.2.2.2.2.2.2.2.2.1 v.2.2.2.2.2.2.2.2.2.2.2.2.2.2.2.2.2.2.2.2)
noncomputable def Dc : Addr := ctBd.1
noncomputable def ysc : List Value := ctBd.2.1
noncomputable def oC9c : Obj := ctBd.2.2.1
noncomputable def restc : List (Addr × Obj) := ctBd.2.2.2.1
noncomputable def alc : Addr := ctBd.2.2.2.2.1
noncomputable def ddc : Addr := ctBd.2.2.2.2.2.1
noncomputable def ic : Nat := ctBd.2.2.2.2.2.2.1
noncomputable def tc : Tok := ctBd.2.2.2.2.2.2.2.1
noncomputable def uc : Str → Option Value := ctBd.2.2.2.2.2.2.2.2.1
noncomputable def okc : List (Addr × Obj) := ctBd.2.2.2.2.2.2.2.2.2.1
noncomputable def hc : Heap := ctBd.2.2.2.2.2.2.2.2.2.2.1
noncomputable def tkc : Nat := ctBd.2.2.2.2.2.2.2.2.2.2.2.1
noncomputable def kvsc : List (Int × Value) := ctBd.2.2.2.2.2.2.2.2.2.2.2.2.1
noncomputable def vsc : List Value := ctBd.2.2.2.2.2.2.2.2.2.2.2.2.2.1
noncomputable def ec : Nat := ctBd.2.2.2.2.2.2.2.2.2.2.2.2.2.2.1
noncomputable def o1c : Obj := ctBd.2.2.2.2.2.2.2.2.2.2.2.2.2.2.2.1
noncomputable def o2c : Obj := ctBd.2.2.2.2.2.2.2.2.2.2.2.2.2.2.2.2.1
noncomputable def o3c : Obj := ctBd.2.2.2.2.2.2.2.2.2.2.2.2.2.2.2.2.2.1
noncomputable def t2c : Tok := ctBd.2.2.2.2.2.2.2.2.2.2.2.2.2.2.2.2.2.2.1
noncomputable def vc : Option Value := ctBd.2.2.2.2.2.2.2.2.2.2.2.2.2.2.2.2.2.2.2.1
noncomputable def Rc : List (Addr × Obj) := ctBd.2.2.2.2.2.2.2.2.2.2.2.2.2.2.2.2.2.2.2.2
theorem ctX1 (C : At w mean mg mb 2 dp un cs outer A₀ base h₀ L m news s.heap) (mp : (pg, ({ cls := .type "list", data := .seq pv.toArray pe } : Obj)) ∈ news) (hS : StrsAre pv (rowsF ps)) (hO : LOk 4 ps) (hret : ∀ (T : Addr) (nn : List (Addr × Obj)) (h' : Heap) (tk' : Nat), ReadIn w nn T (plainF ps 5) → (∀ p ∈ news, p ∈ nn) → Fr h₀ L h' m → News h₀ L h' nn → Q (.ref T) { s with heap := h', toks := tk' }) : Bx (ctB.1 Dc ysc oC9c restc alc ddc ic tc uc okc hc tkc kvsc vsc ec o1c o2c o3c t2c vc Rc) := by
  refine ⟨?_⟩
  dsimp only [ctB]
  k_with_none
  k_with "pyIter ref" => (refine hold ?_)
  k_with "eval ListComp" => ((k_here; (with_reducible show wpAny _ _ (eval (PySem.Expr.ListComp _ [⟨_, _, [], _⟩] _ _) _) _ _ _); k_dflt (refine comp_H (F₀ := by k_asm) (by with_unfolding_all rfl) (by decide) (by rfl) (by decide) (by rfl) ?_)))
  k_with "exec Assign cons ListComp" => ((k_here; (with_reducible show wpAny _ _ (exec (PySem.Stmt.Assign _ (PySem.Expr.ListComp _ [⟨_, _, [], _⟩] _ _) _) _) _ _ _); k_dflt (refine acomp_H (F₀ := by k_asm) (by rfl) (by with_unfolding_all rfl) (by with_unfolding_all rfl) (by decide) (by rfl) (by decide) (by rfl) (by rfl) (by rfl) ?_)))
  k_with "eval Dict nil nil" => ((k_here; k_dflt (refine' newDict_K ?k1.«_@»._hyg ?k2.«_@»._hyg (TopRead.nolimit (by k_asm)) ?_; (case k1 => k_asm); (case k2 => k_asm); k_whole); intro dd h'z9 od F'z9 N'z9 hdd hdlo hs'z9 fs'z9 hdi fi'z9; (have l1z9 := hdd); (try k_lt l1z9)))
  k_with "call builtin:len" => (((with_reducible show wpAny _ _ (call (Value.builtin "len") [Value.ref _]) _ _ _); k_dflt (refine' mlen_strs ?a.«_@»._hyg ?b.«_@»._hyg ?c.«_@»._hyg ?d.«_@»._hyg ?_; (case a => k_asm); (case b => k_mem); (case c => assumption); (case d => (rw [rowsF_len]; (first | lia | omega))))))
  k_with "subscriptTail" => (((with_reducible show wpAny _ _ (subscriptTail _ _ (Value.ref _) (Value.int _ _)) _ _ _); (k_dflt (refine' mitem_cols ?c1.«_@»._hyg ?c2.«_@»._hyg ?c3.«_@»._hyg ?c4.«_@»._hyg ?c5.«_@»._hyg ?c6.«_@»._hyg ?_ ?c8.«_@»._hyg; (case c1 => k_asm); (case c2 => k_mem); (case c3 => assumption); (case c6 => assumption); (case c4 => (first | lia | omega)); (case c5 => (first | lia | omega)); (case c8 => with_unfolding_all rfl))); intro cb cvs cep hcb hcv))
  k_with "subscriptTail" => (((with_reducible show wpAny _ _ (subscriptTail _ _ (Value.ref _) (Value.int _ _)) _ _ _); (k_dflt (refine' mitem_ints ?c1.«_@»._hyg ?c2.«_@»._hyg ?c3.«_@»._hyg ?c4.«_@»._hyg ?c5.«_@»._hyg ?c6.«_@»._hyg ?_ ?c8.«_@»._hyg; (case c1 => k_asm); (case c2 => k_mem); (case c3 => assumption); (case c4 => (first | lia | omega)); (case c5 => (rw [colAt_len]; (first | lia | omega))); (case c6 => (rw [colAt_len]; (first | lia | omega))); (case c8 => with_unfolding_all rfl))); intro tz9))
  k_with "call builtin:min" => ((k_here; k_dflt (refine' min_list_N ?c0.«_@»._hyg ?c1.«_@»._hyg ?c2.«_@»._hyg ?c3.«_@»._hyg ?c4.«_@»._hyg ?c5.«_@»._hyg ?_; (case c0 => rfl); (case c1 => k_asm); (case c2 => k_asm); (case c3 => exact News.isList (by k_asm) (by k_mem)); (case c4 => assumption); (case c5 => (simp only [List.length_map, List.length_range]; (first | lia | omega)))); intro h'z9 Mz9 t'z9 tk'z9 F'z9 N'z9 hM1z9 hM2z9))
  k_with "compareOp NotEq ref ref" => ((k_dflt (refine' ke_ne_ints ?a.«_@»._hyg ?b.«_@»._hyg ?c.«_@»._hyg ?d.«_@»._hyg ?e.«_@»._hyg ?_; (case a => exact News.isList (by k_asm) (by k_mem)); (case b => exact News.isList (by k_asm) (by k_mem)); (case c => assumption); (case d => assumption); (case e => ke_room))))
  k_with "subscriptTail" => (((with_reducible show wpAny _ _ (subscriptTail _ _ (Value.ref _) (Value.int _ _)) _ _ _); (k_dflt (refine' mitem_strsE ?c1.«_@»._hyg ?c2.«_@»._hyg ?c3.«_@»._hyg ?c4.«_@»._hyg ?c5.«_@»._hyg ?c6.«_@»._hyg ?c7.«_@»._hyg ?_ ?c9.«_@»._hyg; (case c1 => k_asm); (case c2 => k_mem); (case c3 => assumption); (case c4 => (first | lia | omega)); (case c5 => (rw [rowsF_len]; (first | lia | omega))); (case c6 => (rw [rowsF_len]; (first | lia | omega))); (case c7 => assumption); (case c9 => with_unfolding_all rfl))); intro tz9))
  k_with "subscriptTail" => (((with_reducible show wpAny _ _ (subscriptTail _ _ (Value.ref _) (Value.int _ _)) _ _ _); (k_dflt (refine' kda_item (knd := PySem.intKind _ _) ?c1.«_@»._hyg ?c2.«_@»._hyg ?c3.«_@»._hyg ?c4.«_@»._hyg ?c5.«_@»._hyg ?_ ?c7.«_@»._hyg ?c8.«_@»._hyg; (case c1 => k_asm); (case c2 => k_mem); (case c3 => assumption); (case c4 => exact intKind_is _ _ _ _); (case c5 => assumption); (case c7 => with_unfolding_all rfl); (case c8 => (intro _; with_unfolding_all rfl))))))
  k_with "exec While" => (refine hold ?_)
  k_with "setItem ref int" => (refine hold ?_)
  k_with "newList" => ((k_here; k_dflt (refine' newList_K ?k1.«_@»._hyg ?k2.«_@»._hyg ?_; (case k1 => k_asm); (case k2 => k_asm); k_whole); intro al h'z9 F'z9 N'z9 hal; (have l1z9 := hal); (try k_lt l1z9)))
  k_with "call ref" => (((with_reducible show wpAny _ _ (call (Value.ref 230) _) _ _ _); k_dflt (refine' cols_ct ⟨?k1.«_@»._hyg, ?k2.«_@»._hyg, ?k3.«_@»._hyg, ?k4.«_@»._hyg, ?k5.«_@»._hyg, ?k6.«_@»._hyg, ?k7.«_@»._hyg, ?k8.«_@»._hyg⟩ ?kL.«_@»._hyg ?_; (case kL => assumption); (case k1 => k_asm); (case k2 => k_asm); (case k3 => k_in); (case k4 => k_asm); (case k5 => k_asm); (case k6 => first | exact rfl | assumption); (case k7 => ktr_room); (case k8 => ktr_units)); intro bl bvs bep nn'z9 h'z9 tk'z9 F'z9 N'z9 hsub hbl hbm hbi))
  k_with "call ref" => (((with_reducible show wpAny _ _ (call (Value.ref 235) _) _ _ _); k_dflt (refine' words_ct ⟨?k1.«_@»._hyg, ?k2.«_@»._hyg, ?k3.«_@»._hyg, ?k4.«_@»._hyg, ?k5.«_@»._hyg, ?k6.«_@»._hyg, ?k7.«_@»._hyg, ?k8.«_@»._hyg⟩ ?o1.«_@»._hyg ?o2.«_@»._hyg ?mh.«_@»._hyg ?ml.«_@»._hyg ?ih.«_@»._hyg ?il.«_@»._hyg ?hh.«_@»._hyg ?hl.«_@»._hyg ?_; (case k1 => k_asm); (case k2 => k_asm); (case k3 => k_in); (case k4 => k_asm); (case k5 => k_asm); (case k6 => first | exact rfl | assumption); (case k7 => ktr_room); (case k8 => ktr_units); (case o1 => assumption); (case o2 => assumption); (case mh => k_mem); (case ml => k_mem); (case ih => assumption); (case il => assumption); (case hh => exact colAt_len _ _); (case hl => exact colAt_len _ _)); intro tw nnw h'z9 tk'z9 F'z9 N'z9 hsw))
  refine nmG fun gG9 kG9 => ?_
  obtain ⟨B, F, X, N, T, kf, hd, hu⟩ := C
  refine kG9 ?_
  clear kG9 gG9
  revert X
  k_fill
  intro X
  intro FG' B' X' T' hrl hvl z1 z2 z3 z4 z5 z6 dC9 hlo y1 y2 y3 y4 y5 i1 a1 d3 d4 F N5 q1 q2 q3 q4 okR a2 g1 g2 g3 hCoR hi5 hc1 hPI hlast hc2
  generalize hla : (plainF ps ic).rc.headD 0 = la at hlast hc2 d3
  k_steps
  unfold Hold
  (with_unfolding_all refine' mcompR 6 _ (fun j ysc n => IntsAre ysc ((List.range j).map fun (k : Nat) => (colAt ps (ic + 1)).getD k 0 - (colAt ps la).getD k 0)) (by rfl) (by k_asm) (by k_asm) (by assumption) (by decide) (by decide) (by decide) (fun _ hp => hp) .nil ?turn2 ?done2)
  case turn2 =>
    rintro j tc ysc nn2 I oI C oC Dc m₂ hc tkc E' hj6 hkn2 hj hC hx F N off ne
    have mH := hkn2 _ (.tail _ (.tail _ (.head _)))
    have mL := hkn2 _ (.tail _ (.tail _ (.tail _ (.head _))))
    have mC := hkn2 _ (.tail _ (.tail _ (.tail _ (.tail _ g2))))
    have mD := hkn2 _ (.tail _ (.tail _ (.tail _ (.tail _ g1))))
    have mB := hkn2 _ (.tail _ (.tail _ (.tail _ (.tail _ hcb))))
    have hCn := hCoR.mono fun p hp _ _ => hkn2 p (.tail _ (.tail _ (.tail _ (.tail _ hp))))
    clear hCoR g1 g2 g3 hcb
    have ej : (0 + (j : Int)).toNat = j := by (first | lia | omega)
    k_steps
    refine cend (by assumption) (by assumption) (.head _) (.tail _ (.head _)) (.tail _ (.tail _ (.head _))) (fun p hp => .tail _ (.tail _ (.tail _ hp))) off trivial ⟨hkn2, ?_⟩
    rw [List.range_succ, List.map_append, List.map_singleton, ej]
    exact hj.append (.cons _ _ .nil)
  case done2 =>
    intro g ys2 nn2 hkn2 hj D2 hc tkc F N off2
    have k1 := hkn2 _ (.head _)
    have k2 := hkn2 _ (.tail _ (.head _))
    have k3 := hkn2 _ (.tail _ (.tail _ (.head _)))
    have k4 := hkn2 _ (.tail _ (.tail _ (.tail _ (.head _))))
    refine nmG fun gG9 kG9 => ?_
    refine ex1 (news_front4 N (.tail _ k1) (.tail _ k2) (.tail _ k3) (.tail _ k4)) ?_
    intro R2 y9w1
    refine an6 (y9w1) ?_
    intro N6 s1 s2 s3 s4 s5
    clear y9w1
    refine kG9 ?_
    clear kG9 gG9
    have f1 := off1_ne off2 _ k1
    have f2 := off1_ne off2 _ k2
    have f3 := off1_ne off2 _ k3
    have f4 := off1_ne off2 _ k4
    have hD2 : (D2, LCg.lst ys2) ∈ R2 := s5 _ (.head _) (Ne.symm f1) (Ne.symm f2) (Ne.symm f3) (Ne.symm f4)
    have hRR : ∀ p ∈ Rc, p ∈ R2 := fun p hp => s5 p (.tail _ (hkn2 p (.tail _ (.tail _ (.tail _ (.tail _ hp)))))) (q1 p hp) (q2 p hp) (q3 p hp) (q4 p hp)
    have b1 := hRR _ g1
    have b2 := hRR _ g2
    have b3 := hRR _ g3
    have b4 := hRR _ hcb
    have hCS := hCoR.mono fun p hp _ _ => hRR p hp
    clear N g1 g2 g3 hcb hCoR
    have hkl := a1.len
    have habl : (plainF ps ic).ab.length ≤ 6 := by have := hPI.abl; (first | lia | omega)
    k_steps
    · unfold Hold
      k_dflt (refine' PySem.W.kda_set ?F ?N ?U i1 ?hk ?hz ?_; (case F => k_asm); (case N => k_asm); (case U => k_updF); (case hk => exact intKind_is _ _ _ _); (case hz => (rw [sizeLine_eq]; (first | lia | omega))))
      intro h3 o3' F3 N3 i3
      k_steps
      have hgt : gtF (colAt ps (ic + 1)) (colAt ps la) = true := by
        (with_reducible rename _ ∈ List.map _ (List.range 6) => hM1)
        (with_reducible rename ∀ a ∈ List.map _ (List.range 6), _ ≤ a => hM2)
        rw [gtF_iff hM1 hM2]
        exact decide_eq_true (by assumption)
      have hst : plainF ps (ic + 1) = ⟨(ic + 1) :: (plainF ps ic).rc, (plainF ps ic).ab ++ [(ic + 1, la)], (plainF ps ic).ng⟩ := by
        show stepF ps (plainF ps ic) (ic + 1) = _
        unfold stepF
        dsimp only
        rw [hla, if_pos hgt]
      have eki : (1 + (ic : Int)) = ((ic + 1 : Nat) : Int) := by (first | lia | omega)
      rw [eki, a1.new (fun p hp => by have := hPI.ab p hp; (first | lia | omega))] at i3
      (with_reducible rename (_ : Obj).data = Data.cell (some (Value.int (1 + (ic : Int)) _)) => dN)
      obtain ⟨oN, eN⟩ := nameO dN
      subst eN
      (with_reducible rename (_ : Obj).data = Data.cell (some (Value.ref cb)) => dB)
      obtain ⟨oB, eB⟩ := nameO dB
      subst eB
      obtain ⟨tN, dN2⟩ : ∃ tc, oN.data = .cell (some (.int (((plainF ps (ic + 1)).rc.headD 0 : Nat) : Int) tc)) := ⟨_, by rw [hst, List.headD_cons, ← eki]; exact dN⟩
      refine TP.next () (by assumption) (by assumption) (fun p hp => .tail _ (.tail _ (.tail _ (.tail _ (hRR p (okR p hp)))))) (by kst_all) ⟨_, vsc, ec, o3', oN, oB, tN, _, .tail _ (.head _), i3, ?_, .head _, ?_, .tail _ (.tail _ (.tail _ (.head _))), dN2, .tail _ (.tail _ (.head _)), dB⟩
      · rw [hst]; exact a1.snoc _ _ _
      · rw [hst]; exact a2.mono fun p hp _ _ => .tail _ (.tail _ (.tail _ (.tail _ (hRR p hp))))
    · unfold Hold
      have hngt : gtF (colAt ps (ic + 1)) (colAt ps la) = false := by
        (with_reducible rename _ ∈ List.map _ (List.range 6) => hM1)
        (with_reducible rename ∀ a ∈ List.map _ (List.range 6), _ ≤ a => hM2)
        rw [gtF_iff hM1 hM2]
        exact decide_eq_false (by assumption)
      (with_reducible rename (_ : Obj).data = Data.cell (some (Value.ref cb)) => dB)
      obtain ⟨oB, eB⟩ := nameO dB
      subst eB
      (with_unfolding_all refine' mwhile (σ := List Nat × Tok) ((alc, ({ cls := .type "list", data := .seq vsc.toArray ec } : Obj)) :: (ddc, o1c) :: (L9 + 1 + 1 + 1, oB) :: (L9 + 1 + 1, o2c) :: R2) (fun c => [(("page" : Str), .ref pg), (("above" : Str), .ref ddc), (("nags" : Str), .ref alc), (("place" : Str), .int (1 + (ic : Int)) tc), (("elder" : Str), .int ((c.1.headD 0 : Nat) : Int) c.2)]) (fun n c _ => c.1.length = n ∧ c.1 ≠ [] ∧ (∃ l, (plainF ps ic).rc = l ++ c.1) ∧ popF ps (ic + 1) (plainF ps ic).rc = popF ps (ic + 1) c.1) ((plainF ps ic).rc, t2c) (plainF ps ic).rc.length ?F ?N ?kp ?hk ?hj ?turn3 ?hE)
      case F => k_asm
      case N => k_asm
      case kp => exact fun _ hp => hp
      case hk =>
        dsimp only
        rw [hla]
        kst_all
      case hj => exact ⟨rfl, by obtain ⟨l, ec, _⟩ := hPI.ne; rw [ec]; simp, ⟨[], rfl⟩, rfl⟩
      case hE => with_unfolding_all passes_own
      case turn3 =>
        rintro n ⟨rc', te⟩ u3 nn3 hc tkc hkn3 hz9
        refine nmG fun gG9 kG9 => ?_
        refine an4 (hz9) ?_
        intro hn hne y9z1 hpop
        try clear hz9
        obtain ⟨l, hl⟩ := y9z1
        refine kG9 ?_
        clear kG9 gG9
        intro F N
        dsimp only at hn hne hl hpop
        refine nmG fun gG9 kG9 => ?_
        obtain ⟨x, rt, rfl⟩ := List.exists_cons_of_ne_nil hne
        dsimp only [kstB, List.headD_cons] at F
        have k1 := hkn3 _ (.head _)
        have k2 := hkn3 _ (.tail _ (.head _))
        have k3 := hkn3 _ (.tail _ (.tail _ (.head _)))
        have k4 := hkn3 _ (.tail _ (.tail _ (.tail _ (.head _))))
        refine ex1 (news_front4 N k1 k2 k3 k4) ?_
        intro R3 y9w1
        refine an6 (y9w1) ?_
        intro N7 v1 v2 v3 v4 v5
        clear y9w1
        refine kG9 ?_
        clear kG9 gG9
        have hR3 : ∀ p ∈ R2, p ∈ R3 := fun p hp => v5 p (hkn3 p (.tail _ (.tail _ (.tail _ (.tail _ hp))))) (s1 p hp) (s2 p hp) (s3 p hp) (s4 p hp)
        replace b1 := hR3 _ b1
        replace b2 := hR3 _ b2
        replace b3 := hR3 _ b3
        replace b4 := hR3 _ b4
        replace hCS := hCS.mono fun p hp _ _ => hR3 p hp
        clear N k1 k2 k3 k4 v5
        have hx6 : x < 6 := by
          refine nmG fun gG9 kG9 => ?_
          obtain ⟨l0, e0, h4⟩ := hPI.ne
          refine kG9 ?_
          clear kG9 gG9
          have : x ∈ l0 ++ [0] := by rw [← e0, hl]; simp
          rcases List.mem_append.mp this with hc | hc
          · have := h4 x hc; (first | lia | omega)
          · have := List.mem_singleton.mp hc; (first | lia | omega)
        have hc3 : (List.map (fun x => colsF x.cps.toList 6) (rowsF ps))[((x : Nat) : Int).toNat]? = some (colAt ps x) := by
          rw [Int.toNat_natCast]
          exact cols_at ps hx6
        rcases Nat.eq_zero_or_pos x with h0 | h0
        · subst h0
          have hrt := chain_zero hPI hl
          subst hrt
          have hla0 : 0 < la := by
            rcases Nat.eq_zero_or_pos la with hc | hc
            · rw [hc, gt0 hO hi5] at hngt; cases hngt
            · exact hc
          refine nmG fun gG9 kG9 => ?_
          obtain ⟨la', rfl⟩ : ∃ k, la = k + 1 := ⟨la - 1, by (first | lia | omega)⟩
          obtain ⟨p1, hy1, -, o1k, hr1⟩ := row_at hO (k := la') (by (first | lia | omega))
          obtain ⟨p2, hy2, -, o2k, hr2⟩ := row_at hO (k := ic) (by (first | lia | omega))
          refine kG9 ?_
          clear kG9 gG9
          have hz1 : (rowsF ps).getD (((la' + 1 : Nat) : Int)).toNat PySem.Str.empty = enc1 p1 ++ (⟨#[97 + la']⟩ : Str) := by rw [← hy1, Int.toNat_natCast]; rfl
          have hz2 : (rowsF ps).getD (1 + (ic : Int)).toNat PySem.Str.empty = enc1 p2 ++ (⟨#[97 + ic]⟩ : Str) := by rw [← hy2, show (1 + (ic : Int)).toNat = ic + 1 by (first | lia | omega)]; rfl
          k_steps
          (with_reducible rename News _ _ _ nnw => N8)
          refine nmG fun gG9 kG9 => ?_
          refine ex1 (news_front4 N8 (hsw _ (.head _)) (hsw _ (.tail _ (.head _))) (hsw _ (.tail _ (.tail _ (.head _)))) (hsw _ (.tail _ (.tail _ (.tail _ (.head _)))))) ?_
          intro R4 y9w1
          refine an6 (y9w1) ?_
          intro N9 w1 w2 w3 w4 w5
          clear y9w1
          refine kG9 ?_
          clear kG9 gG9
          have hR4 : ∀ p ∈ R3, p ∈ R4 := fun p hp => w5 p (hsw p (.tail _ (.tail _ (.tail _ (.tail _ hp))))) (v1 p hp) (v2 p hp) (v3 p hp) (v4 p hp)
          clear N8 hsw w5
          replace b3 := hR4 _ b3
          k_steps
          (with_reducible rename News _ _ _ (_ :: _ :: _ :: _ :: _ :: R4) => N10)
          have hkk : (1 + (ic : Int) + 1) = ((ic + 1 + 1 : Nat) : Int) := by (first | lia | omega)
          rw [hkk] at N10
          have hngl := a2.length
          have hng5 := hPI.ngl
          refine mappend (by k_asm) N10 (.tail _ (.head _)) (by (first | lia | omega)) ?_
          intro h2 F2 N2
          dsimp only
          k_steps
          have c1 := ne_addr N10 (.head _) (.tail _ (.head _)) (by simp)
          have c2 := ne_addr N10 (.tail _ (.tail _ (.head _))) (.tail _ (.head _)) (by rw [dict_cls i1]; simp)
          have c3 := ne_data N10 (.tail _ (.tail _ (.tail _ (.head _)))) (.tail _ (.head _)) (by rw [dB]; simp)
          have c4 := ne_data N10 (.tail _ (.tail _ (.tail _ (.tail _ (.head _))))) (.tail _ (.head _)) (by rw [d3]; simp)
          have hst : plainF ps (ic + 1) = ⟨(plainF ps ic).rc, (plainF ps ic).ab, (plainF ps ic).ng ++ [(ic + 1 + 1, wordsF (sizesF (colAt ps (la' + 1)) (colAt ps (ic + 1)) (mostF ps (la' + 1) (ic + 1) + 1)), rowAt ps (ic + 1))]⟩ := by
            show stepF ps (plainF ps ic) (ic + 1) = _
            unfold stepF
            dsimp only
            rw [hla, if_neg (by rw [hngt]; simp), hpop, popF_zero]
          have eM : mostF ps (la' + 1) (ic + 1) = (p1.1 ++ [p1.2] ++ (p2.1 ++ [p2.2])).foldl max 0 := by unfold mostF; rw [hr1, hr2]
          refine TP.next () (by assumption) N2 (fun p hp => upd_old (.tail _ (.tail _ (.tail _ (.tail _ (.tail _ (hR4 _ (hR3 _ (hRR p (okR p hp))))))))) (w1 _ (hR4 _ (hR3 _ (hRR p (okR p hp)))))) (by kst_all) ⟨_, _, _, o1c, o2c, oB, t2c, _, upd_old (.tail _ (.tail _ (.head _))) c2, i1, ?_, upd_mem, ?_, upd_old (.tail _ (.tail _ (.tail _ (.tail _ (.head _))))) c4, ?_, upd_old (.tail _ (.tail _ (.tail _ (.head _)))) c3, dB⟩
          · rw [hst]; exact a1
          · rw [hst, eM, hy2]
            exact (a2.mono fun p hp _ _ => upd_old (.tail _ (.tail _ (.tail _ (.tail _ (.tail _ (hR4 _ (hR3 _ (hRR p hp)))))))) (w1 _ (hR4 _ (hR3 _ (hRR p hp))))).snoc (upd_old (.head _) c1)
          · rw [hst]; dsimp only; rw [hla]; exact d3
        · refine nmG fun gG9 kG9 => ?_
          obtain ⟨y, r', rfl, hab⟩ := chain_next hPI hl h0
          obtain ⟨tv, hva⟩ := a1.get hab
          refine kG9 ?_
          clear kG9 gG9
          have hy0 : 0 ≤ y := Nat.zero_le _
          k_steps
          · unfold Hold
            k_dflt (refine' PySem.W.kda_set ?F ?N ?U i1 ?hk ?hz ?_; (case F => k_asm); (case N => k_asm); (case U => k_updF); (case hk => exact intKind_is _ _ _ _); (case hz => (rw [sizeLine_eq]; (first | lia | omega))))
            intro h3 o3' F3 N3 i3
            k_steps
            (with_reducible rename (_ : Obj).data = Data.cell (some (Value.int (1 + (ic : Int)) _)) => dN)
            obtain ⟨oN, eN⟩ := nameO dN
            subst eN
            have hst : plainF ps (ic + 1) = ⟨(ic + 1) :: y :: r', (plainF ps ic).ab ++ [(ic + 1, y)], (plainF ps ic).ng⟩ := by
              show stepF ps (plainF ps ic) (ic + 1) = _
              unfold stepF
              dsimp only
              rw [hla, if_neg (by rw [hngt]; simp), hpop, popF_stop (by assumption)]
            have eki : (1 + (ic : Int)) = ((ic + 1 : Nat) : Int) := by (first | lia | omega)
            rw [eki, a1.new (fun p hp => by have := hPI.ab p hp; (first | lia | omega))] at i3
            obtain ⟨tN, dN2⟩ : ∃ tc, oN.data = .cell (some (.int (((plainF ps (ic + 1)).rc.headD 0 : Nat) : Int) tc)) := ⟨_, by rw [hst, List.headD_cons, ← eki]; exact dN⟩
            refine TP.next () (by assumption) (by assumption) (fun p hp => .tail _ (.tail _ (.tail _ (.tail _ (hR3 _ (hRR p (okR p hp))))))) (by kst_all) ⟨_, vsc, ec, o3', oN, oB, tN, _, .tail _ (.head _), i3, ?_, .head _, ?_, .tail _ (.tail _ (.tail _ (.head _))), dN2, .tail _ (.tail _ (.head _)), dB⟩
            · rw [hst]; exact a1.snoc _ _ _
            · rw [hst]; exact a2.mono fun p hp _ _ => .tail _ (.tail _ (.tail _ (.tail _ (hR3 _ (hRR p hp)))))
          · refine WP.next (y :: r', tv) (r'.length + 1) (by assumption) (by assumption) (fun p hp => ?_) (by dsimp only [List.headD_cons]; kst_all) (by simp at hn; (first | lia | omega)) ⟨rfl, by simp, ⟨l ++ [x], by rw [hl]; simp⟩, ?_⟩
            · rcases mcs hp with rfl | hp
              · exact .head _
              rcases mcs hp with rfl | hp
              · exact .tail _ (.head _)
              rcases mcs hp with rfl | hp
              · exact .tail _ (.tail _ (.head _))
              rcases mcs hp with rfl | hp
              · exact .tail _ (.tail _ (.tail _ (.head _)))
              exact .tail _ (.tail _ (.tail _ (.tail _ (hR3 p hp))))
            · rw [hpop]
              exact popF_go h0 (by assumption)
theorem ctBall (C : At w mean mg mb 2 dp un cs outer A₀ base h₀ L m news s.heap) (mp : (pg, ({ cls := .type "list", data := .seq pv.toArray pe } : Obj)) ∈ news) (hS : StrsAre pv (rowsF ps)) (hO : LOk 4 ps) (hret : ∀ (T : Addr) (nn : List (Addr × Obj)) (h' : Heap) (tk' : Nat), ReadIn w nn T (plainF ps 5) → (∀ p ∈ news, p ∈ nn) → Fr h₀ L h' m → News h₀ L h' nn → Q (.ref T) { s with heap := h', toks := tk' }) : ∀ (D : Addr) (ys : List Value) (oC9 : Obj) (rest : List (Addr × Obj)) (al : Addr) (dd : Addr) (i : Nat) (t : Tok) (u : Str → Option Value) (ok : List (Addr × Obj)) (h : Heap) (tk : Nat) (kvs : List (Int × Value)) (vs : List Value) (e : Nat) (o1 : Obj) (o2 : Obj) (o3 : Obj) (t2 : Tok) (v : Option Value) (R : List (Addr × Obj)), Bx (ctB.1 D ys oC9 rest al dd i t u ok h tk kvs vs e o1 o2 o3 t2 v R) := fun D ys oC9 rest al dd i t u ok h tk kvs vs e o1 o2 o3 t2 v R => pk_all (ne := ctBne) (P := fun v => Bx (ctB.1 v.1 v.2.1 v.2.2.1 v.2.2.2.1 v.2.2.2.2.1 v.2.2.2.2.2.1 v.2.2.2.2.2.2.1 v.2.2.2.2.2.2.2.1 v.2.2.2.2.2.2.2.2.1 v.2.2.2.2.2.2.2.2.2.1 v.2.2.2.2.2.2.2.2.2.2.1 v.2.2.2.2.2.2.2.2.2.2.2.1 v.2.2.2.2.2.2.2.2.2.2.2.2.1 v.2.2.2.2.2.2.2.2.2.2.2.2.2.1 v.2.2.2.2.2.2.2.2.2.2.2.2.2.2.1 v.2.2.2.2.2.2.2.2.2.2.2.2.2.2.2.1 v.2.2.2.2.2.2.2.2.2.2.2.2.2.2.2.2.1 v.2.2.2.2.2.2.2.2.2.2.2.2.2.2.2.2.2.1 v.2.2.2.2.2.2.2.2.2.2.2.2.2.2.2.2.2.2.1 v.2.2.2.2.2.2.2.2.2.2.2.2.2.2.2.2.2.2.2.1 v.2.2.2.2.2.2.2.2.2.2.2.2.2.2.2.2.2.2.2.2)) (ctX1 C mp hS hO hret) (D, ys, oC9, rest, al, dd, i, t, u, ok, h, tk, kvs, vs, e, o1, o2, o3, t2, v, R)
theorem ctT : ctS w mean mg mb dp un gd cn cs a ccd cl outer A₀ base h₀ L m s Q E news pg pv pe ps := ⟨fun C mp hS hO hret => ctA.2 C mp hS hO hret (pk_all4 (ne := ned) (R := fun g0 L9 h0 k0 => Bx (ctA.1 g0 L9 h0 k0)) rfl rfl rfl rfl (ctB.2 C mp hS hO hret (ctBall C mp hS hO hret)))⟩
theorem all : ∀ v : V0 × ((Addr) × (List Value) × (Nat) × (List (List Nat × Nat))), ctS v.1.w v.1.mean v.1.mg v.1.mb v.1.dp v.1.un v.1.gd v.1.cn v.1.cs v.1.a v.1.ccd v.1.cl v.1.outer v.1.A₀ v.1.base v.1.h₀ v.1.L v.1.m v.1.s v.1.Q v.1.E v.1.news v.2.1 v.2.2.1 v.2.2.2.1 v.2.2.2.2 := pk_all (ne := ne) (P := fun v => ctS v.1.w v.1.mean v.1.mg v.1.mb v.1.dp v.1.un v.1.gd v.1.cn v.1.cs v.1.a v.1.ccd v.1.cl v.1.outer v.1.A₀ v.1.base v.1.h₀ v.1.L v.1.m v.1.s v.1.Q v.1.E v.1.news v.2.1 v.2.2.1 v.2.2.2.1 v.2.2.2.2) ctT
end Zplain_ct
section
variable {w : World} {mean : ExcName → Option Value} {mg mb : Str → Option Value} {dp un : Nat} {gd : Option (List Code)} {cn : Str} {cs : Scope} {a : Addr} {ccd : Value} {cl : List (Str × Addr)} {outer : List Env} {A₀ : Around} {base h₀ : Heap} {L : Addr} {m : Str → Option Value} {s : Shared} {Q E : Value → Shared → Prop} {news : List (Addr × Obj)}
theorem plain_ct  (C : At w mean mg mb 2 dp un cs outer A₀ base h₀ L m news s.heap) {pg : Addr} {pv : List Value} {pe : Nat} {ps : List (List Nat × Nat)} (mp : (pg, ({ cls := .type "list", data := .seq pv.toArray pe } : Obj)) ∈ news) (hS : StrsAre pv (rowsF ps)) (hO : LOk 4 ps)
  (hret : ∀ (T : Addr) (nn : List (Addr × Obj)) (h' : Heap) (tk' : Nat), ReadIn w nn T (plainF ps 5) → (∀ p ∈ news, p ∈ nn) → Fr h₀ L h' m → News h₀ L h' nn → Q (.ref T) { s with heap := h', toks := tk' }) :
  wpAny (model PySem.Challenge.rw_xe0048_01.row.prog w) (ktrTop dp un gd cn cs L a ccd cl outer) (call (.ref 240) [.ref pg]) Q E s := by
  exact (Zplain_ct.all ⟨⟨w, mean, mg, mb, dp, un, gd, cn, cs, a, ccd, cl, outer, A₀, base, h₀, L, m, s, Q, E, news⟩, pg, pv, pe, ps⟩).out C mp hS hO hret
end
end Mine
end
theorem Mine.rstL9 : True := by
  w_top off
  trivial
section
open PySem PySem.W PyProof.Rows PySem.Calls PySem.Spec PyProof.V
set_option Elab.async false
set_option maxRecDepth 100000
set_option maxHeartbeats 4000000
namespace Mine
theorem rsize' {a b : Int} {n : Nat} (ha : -1000000 ≤ a ∧ a ≤ 1000000) (hb : -1000000 ≤ b ∧ b ≤ 1000000) (hn : n = (b - a).toNat) : Builtin.Range.rangeSize a b 1 = (n : Int) ∧ Builtin.Range.small a b 1 = true := rsize ha hb hn
section
variable {prog : Program} {w : World} {A : Around} {E : Value → Shared → Prop} {s : Shared} {env : Env} {h₀ : Heap} {x : Str} {body : List Stmt} {Q : Flow → Shared → Prop}
/-- a loop whose turns may leave generators behind -/
noncomputable def StepG (h₀ : Heap) (L : Addr) (wr : List Addr) (own : List (Addr × Obj)) (Jn : (Str → Option Value) → List (Addr × Obj) → Prop) (s₁ : Shared) (f : Flow) (s₂ : Shared) : Prop :=
  f = .next ∧ ∃ h' tk gs m₂ news₂, s₂ = { s₁ with heap := h', toks := tk, gens := gs } ∧ AllBare gs ∧ Fr h₀ L h' m₂ ∧ News h₀ L h' (own ++ news₂) ∧ (∀ p ∈ news₂, p.1 ∉ wr) ∧ Jn m₂ news₂
theorem forLoopG {R : Result → Shared → Prop} {px : Pos} {I : Addr} {fp wr : List Addr} {n : Nat} {P : Nat → Value → Prop} {St : Nat → Heap → Prop} {m : Str → Option Value}
    {news : List (Addr × Obj)} (W : Walks prog w A I fp wr n P St) (hx : env.kindOf x = some .local)
    (hp : (env.scope.kind == .class || (env.scope.kind == .module && env.locals != env.globals)) = false)
    (hLf : env.locals ∉ fp) (hwr : ∀ b ∈ wr, h₀.get? b = none) (hnw : ∀ p ∈ news, p.1 ∉ wr)
    (hst : St 0 s.heap) (F : Fr h₀ env.locals s.heap m) (N : News h₀ env.locals s.heap news) (G : AllBare s.gens)
    (J : Nat → (Str → Option Value) → List (Addr × Obj) → Prop) (h0 : J 0 m news)
    (step : ∀ i v m₁ news₁ h tk gs own, AllBare gs → i < n → P i v → J i m₁ news₁ → (∀ p ∈ news₁, p.1 ∉ wr) → (∀ p ∈ own, p.1 ∈ fp) → (∀ p ∈ own, h.get? p.1 = some p.2) → (∀ b ∈ fp, h₀.get? b = none → ∀ o, h.get? b = some o → (b, o) ∈ own) → St (i + 1) h →
      Fr h₀ env.locals h (fun y => if y = x then some v else m₁ y) → News h₀ env.locals h (own ++ news₁) →
      wpAny (model prog w) A (execs body env) (StepG h₀ env.locals wr own (J (i + 1)) { s with heap := h, toks := tk, gens := gs }) (notedBy (model prog w) A env fun e s' => R (.error e) s') { s with heap := h, toks := tk, gens := gs })
    (hR : ∀ h' tk gs m' news', AllBare gs → Fr h₀ env.locals h' m' → News h₀ env.locals h' news' → (∀ p ∈ news', p.1 ∉ wr) → J n m' news' → R (.ok .next) { s with heap := h', toks := tk, gens := gs }) :
    codeAny (model prog w) A (.forLoop (.Name x px) (.ref I) body [] env) R s := by
  have hLw : env.locals ∉ wr := fun h => hLf (W.sub _ h)
  have old : ∀ b o, h₀.get? b = some o → b ∉ wr := fun b o e hb => by rw [hwr b hb] at e; cases e
  refine codeAny_forLoop
    (fun k s' => ∃ h' tk gs m' news' i, s' = { s with heap := h', toks := tk, gens := gs } ∧ AllBare gs ∧ St i h' ∧ Fr h₀ env.locals h' m' ∧ News h₀ env.locals h' news' ∧ (∀ p ∈ news', p.1 ∉ wr) ∧ J i m' news' ∧ i ≤ n ∧ k = n + 1 - i) ?_ (n + 1)
    ⟨s.heap, s.toks, s.gens, m, news, 0, rfl, G, hst, F, N, hnw, h0, Nat.zero_le _, rfl⟩
  intro k s' hz9
  refine nmG fun gG9 kG9 => ?_
  refine ex6 (hz9) ?_
  intro h' tk gs m' news' i y9w1
  refine an9 (y9w1) ?_
  intro y9z2 G' hst' F' N' hnw' hJ hi y9z4
  clear y9w1
  try clear hz9
  subst y9z2
  subst y9z4
  refine kG9 ?_
  clear kG9 gG9
  have next : ∀ h₁ : Heap, (∀ b o, b ∉ wr → h'.get? b = some o → h₁.get? b = some o) → Fr h₀ env.locals h₁ m' ∧ News h₀ env.locals h₁ news' := fun h₁ hk₁ =>
    ⟨⟨F'.ns.at' fun o e => hk₁ _ o hLw e, fun b o e => hk₁ b o (old b o e) (F'.keep b o e), F'.above⟩, fun p hp => ⟨hk₁ _ _ (hnw' p hp) (N' p hp).1, (N' p hp).2⟩⟩
  by_cases hlt : i < n
  · refine W.item i _ _ _ hlt hst' fun v h₁ tk₁ hP hst₁ hk₁ => ?_
    obtain ⟨F₁, N₁⟩ := next h₁ hk₁
    refine wpAny_assign_Name (wpAny_storeName_local hx F₁.ns (fun h₂ hn₂ hs₂ => ?_) hp)
    have F₂ := F₁.set hn₂ hs₂
    have Nown : News h₀ env.locals h₂ (ownOf h₀ fp h₂) := news_ownOf hLf
    have hst₂ : St (i + 1) h₂ := W.frame _ _ _ hst₁ fun b hb o e => (hs₂.2 b fun q => hLf (q ▸ hb)).trans e
    refine wpAny_mono (step i v m' news' _ _ _ (ownOf h₀ fp h₂) G' hlt hP hJ hnw' ownOf_sub (fun p hp => (Nown p hp).1) (fun b hb hn o e => mem_ownOf hb hn e) hst₂ F₂ (Nown.append (N₁.set hs₂))) (fun f s₃ h₃ => ?_) fun _ _ e => e
    refine nmG fun gG9 kG9 => ?_
    refine an2 (h₃) ?_
    intro y9z1 y9w2
    refine ex5 (y9w2) ?_
    intro h₃' tk₃ gs₃ m₂ news₂ y9w3
    refine an6 (y9w3) ?_
    intro y9z4 G₃ F₃ N₃ ha₃ hJ₃
    clear y9w3 y9w2
    try clear h₃
    subst y9z1
    subst y9z4
    refine kG9 ?_
    clear kG9 gG9
    refine ⟨n + 1 - (i + 1), by omega, h₃', tk₃, gs₃, m₂, news₂, i + 1, rfl, G₃, ?_, F₃, N₃.right, ha₃, hJ₃, hlt, rfl⟩
    refine W.frame _ _ _ hst₁ fun b hb o e => ?_
    have e₂ : h₂.get? b = some o := (hs₂.2 b fun q => hLf (q ▸ hb)).trans e
    cases hn : h₀.get? b with
    | some o₀ =>
      have : o₀ = o := by have := F₂.keep b o₀ hn; rw [e₂] at this; exact (Option.some.inj this).symm
      exact this ▸ F₃.keep b o₀ hn
    | none => exact (N₃ _ (List.mem_append_left _ (mem_ownOf hb hn e₂))).1
  · have hin : i = n := by omega
    subst hin
    refine W.done _ _ _ hst' fun h₁ tk₁ hk₁ => wpAny_execs_nil ?_
    obtain ⟨F₁, N₁⟩ := next h₁ hk₁
    exact hR h₁ tk₁ gs m' news' G' F₁ N₁ hnw' hJ
noncomputable def LoopAtG (prog : Program) (w : World) (A : Around) (h₀ : Heap) (env : Env) (x : Str) (body : List Stmt) (Q : Flow → Shared → Prop) (E : Value → Shared → Prop) (it : Value) (s₂ : Shared) : Prop :=
  ∃ (I : Addr) (fp wr : List Addr) (n : Nat) (P : Nat → Value → Prop) (St : Nat → Heap → Prop) (m : Str → Option Value) (news : List (Addr × Obj)) (J : Nat → (Str → Option Value) → List (Addr × Obj) → Prop),
    it = .ref I ∧ Walks prog w A I fp wr n P St ∧ env.locals ∉ fp ∧ (∀ b ∈ wr, h₀.get? b = none) ∧ (∀ p ∈ news, p.1 ∉ wr) ∧ St 0 s₂.heap ∧ Fr h₀ env.locals s₂.heap m ∧ News h₀ env.locals s₂.heap news ∧ AllBare s₂.gens ∧ J 0 m news ∧
    (∀ i v m₁ news₁ h tk gs own, AllBare gs → i < n → P i v → J i m₁ news₁ → (∀ p ∈ news₁, p.1 ∉ wr) → (∀ p ∈ own, p.1 ∈ fp) → (∀ p ∈ own, h.get? p.1 = some p.2) → (∀ b ∈ fp, h₀.get? b = none → ∀ o, h.get? b = some o → (b, o) ∈ own) → St (i + 1) h →
      Fr h₀ env.locals h (fun y => if y = x then some v else m₁ y) → News h₀ env.locals h (own ++ news₁) →
      wpAny (model prog w) A (execs body env) (StepG h₀ env.locals wr own (J (i + 1)) { s₂ with heap := h, toks := tk, gens := gs }) E { s₂ with heap := h, toks := tk, gens := gs }) ∧
    ∀ h' tk gs m' news', AllBare gs → Fr h₀ env.locals h' m' → News h₀ env.locals h' news' → (∀ p ∈ news', p.1 ∉ wr) → J n m' news' → Q .next { s₂ with heap := h', toks := tk, gens := gs }
theorem For_G {px pos : Pos} {iter : Expr} (h₀ : Heap) (hx : env.kindOf x = some .local)
    (hp : (env.scope.kind == .class || (env.scope.kind == .module && env.locals != env.globals)) = false)
    (h : wpAny (model prog w) A (eval iter env) (fun xv s₁ => Hold (wpAny (model prog w) A (pyIter xv) (fun it s₂ => LoopAtG prog w A h₀ env x body Q E it s₂) E s₁)) E s)
    (hs : ∀ x, foldedSetIterable iter env x = pure x) (hE : PassesOwn (model prog w) A env E) :
    wpAny (model prog w) A (exec (.For (.Name x px) iter body [] pos) env) Q E s := by
  refine wpAny_For (wpAny_mono h (fun xv s₁ h₁ => wpAny_mono h₁ (fun it s₂ h₂ => ?_) fun _ _ e => e) fun _ _ e => e) hs
  refine nmG fun gG9 kG9 => ?_
  refine ex9 (h₂) ?_
  intro I fp wr n P St m news J y9w1
  refine an12 (y9w1) ?_
  intro y9z2 W hLf hwr hnw hst F N G h0 step hQ
  clear y9w1
  try clear h₂
  subst y9z2
  refine kG9 ?_
  clear kG9 gG9
  exact forLoopG (R := fun r s' => match r with | .ok f => Q f s' | .error e => cameBackBy (model prog w) A env E e s') W hx hp hLf hwr hnw hst F N G J h0 (by intros; exact wpAny_passesOwn hE (by apply step <;> assumption)) hQ
noncomputable def TG {σ : Type} (h₀ : Heap) (L : Addr) (own : List (Addr × Obj)) (ps : σ → List (Str × Value)) (J : σ → List (Addr × Obj) → Prop) (s₁ : Shared) (f : Flow) (s₂ : Shared) : Prop :=
  f = .next ∧ ∃ h' tk gs m' n' c', s₂ = { s₁ with heap := h', toks := tk, gens := gs } ∧ AllBare gs ∧ Fr h₀ L h' m' ∧ News h₀ L h' n' ∧ (∀ p ∈ own, p ∈ n') ∧ (∀ p ∈ ps c', m' p.1 = some p.2) ∧ J c' n'
theorem mrangeG {σ : Type} {r : Addr} {a₀ b₀ : Int} {t₀ u₀ v₀ : Tok} {n : Nat} {m₀ : Str → Option Value} {news : List (Addr × Obj)} (keep : List (Addr × Obj)) (ps : σ → List (Str × Value)) (J : Nat → σ → List (Addr × Obj) → Prop) (c₀ : σ)
    (hh : A.handled = none) (hr : IsRange s.heap r a₀ b₀ 1 t₀ u₀ v₀) (ha : -1000000 ≤ a₀ ∧ a₀ ≤ 1000000) (hb : -1000000 ≤ b₀ ∧ b₀ ≤ 1000000) (hn : n = (b₀ - a₀).toNat)
    (mono : ∀ i c n n', (∀ p ∈ n, NotIt p.2 → p ∈ n') → J i c n → J i c n') (hkeep : ∀ p ∈ keep, p ∈ news)
    (F : Fr h₀ env.locals s.heap m₀) (N : News h₀ env.locals s.heap news) (G : AllBare s.gens) (hk : ∀ p ∈ ps c₀, m₀ p.1 = some p.2) (hj : J 0 c₀ news)
    (turn : ∀ (i : Nat) (t : Tok) c u nn ok h tk gs, AllBare gs → i < n → (∀ p ∈ keep, p ∈ ok) → (∀ p ∈ ok, p ∈ nn) → (∀ p ∈ ok, p ∈ keep ∨ ¬ NotIt p.2) → J i c nn → Fr h₀ env.locals h (kstB u ((x, .int (a₀ + i) t) :: ps c)) → News h₀ env.locals h nn →
      wpAny (model prog w) A (execs body env) (TG h₀ env.locals ok ps (J (i + 1)) { s with heap := h, toks := tk, gens := gs }) E { s with heap := h, toks := tk, gens := gs })
    (done : ∀ c u nn h tk gs, AllBare gs → (∀ p ∈ keep, p ∈ nn) → J n c nn → Fr h₀ env.locals h (kstB u (ps c)) → News h₀ env.locals h nn → Q .next { s with heap := h, toks := tk, gens := gs }) (hx0 : ∀ c, ((ps c).all fun p => decide (p.1 ≠ x)) = true) :
    wpAny (model prog w) A (pyIter (.ref r)) (fun it s₂ => LoopAtG prog w A h₀ env x body Q E it s₂) E s := by
  have hx : ∀ c, ∀ p ∈ ps c, p.1 ≠ x := fun c p hp => of_decide_eq_true (List.all_eq_true.mp (hx0 c) p hp)
  obtain ⟨hsz, hsmall⟩ := rsize' ha hb hn
  refine wpAny_pyIter_range hr hsmall ?_
  rw [hsz]
  have W : Walks prog w A s.heap.objs.size [s.heap.objs.size] [s.heap.objs.size] n (fun i v => ∃ t, v = .int (a₀ + i * 1) t)
      (fun i h => IsRangeIter h s.heap.objs.size (a₀ + (i : Nat) * 1) ((n : Int) - (i : Nat)) 1) := Walks.range hh _ a₀ 1 n
  generalize hI : s.heap.objs.size = I at W
  have hLI : env.locals ≠ I := fun e => absurd F.ns.lt (by rw [e, ← hI]; exact Nat.lt_irrefl _)
  have hLf : env.locals ∉ [I] := fun hm => hLI (List.mem_singleton.mp hm)
  let J' : Nat → (Str → Option Value) → List (Addr × Obj) → Prop := fun i m₁ n₁ => ∃ c, (∀ p ∈ keep, p ∈ n₁) ∧ (∀ p ∈ ps c, m₁ p.1 = some p.2) ∧ J i c n₁
  have hit : ∀ {h : Heap} {i : Nat}, IsRangeIter h I (a₀ + (i : Nat) * 1) ((n : Int) - (i : Nat)) 1 → ∃ o, h.get? I = some o ∧ ¬ NotIt o := fun st => ⟨_, st, fun q => q.elim (fun ⟨_, e⟩ => by cases e) fun q => q.1 rfl⟩
  have keepN : ∀ {h : Heap} {n₁ : List (Addr × Obj)} {o : Obj}, News h₀ env.locals h n₁ → h.get? I = some o → ¬ NotIt o → ∀ p ∈ n₁, NotIt p.2 → p ∈ n₁.filter (fun p => p.1 != I) := by
    intro h n₁ o N₁ ho hn p hp hq
    refine List.mem_filter.mpr ⟨hp, ?_⟩
    simp only [bne_iff_ne, ne_eq]
    intro e
    have := (N₁ p hp).1
    rw [e, ho] at this
    exact hn (Option.some.inj this ▸ hq)
  have keepK : ∀ {n₁ : List (Addr × Obj)}, (∀ p ∈ keep, p ∈ n₁) → ∀ p ∈ keep, p ∈ n₁.filter (fun p => p.1 != I) := by
    intro n₁ hn p hp
    refine List.mem_filter.mpr ⟨hn p hp, ?_⟩
    simp only [bne_iff_ne, ne_eq]
    rw [← hI]
    exact low_of N p (hkeep p hp)
  refine (exi9 I [I] [I] n _ _ m₀ news J' ⟨rfl, W, hLf, ?_, ?_, ?_, F.push _, fun p hp => ⟨Heap.get?_push_of_some _ (N p hp).1, (N p hp).2⟩, G, ⟨c₀, hkeep, hk, hj⟩, ?_, ?_⟩)
  · intro b hb
    rw [List.mem_singleton.mp hb, ← hI]; exact next_is_new F
  · intro p hp hm
    exact low_of N p hp ((List.mem_singleton.mp hm).trans hI.symm)
  · show IsRangeIter _ _ _ _ _
    subst hI
    simpa using Heap.get?_push_size _ rfl
  · rintro i v m₁ n₁ h tk gs own hG hin ⟨t, rfl⟩ hz9
    refine nmG fun gG9 kG9 => ?_
    obtain ⟨c, hkp, hm, hJ⟩ := hz9
    refine kG9 ?_
    clear kG9 gG9
    intro _ hown' _ hown hst' F₁ N₁
    refine nmG fun gG9 kG9 => ?_
    obtain ⟨oI, hoI, hnI⟩ := hit hst'
    refine kG9 ?_
    clear kG9 gG9
    have hIn : h₀.get? I = none := by rw [← hI]; exact next_is_new F
    have hIown : (I, oI) ∈ own := hown I (List.mem_singleton.mpr rfl) hIn oI hoI
    have e1 : a₀ + (i : Int) * 1 = a₀ + (i : Int) := by omega
    rw [e1] at F₁
    have hm' : ∀ p ∈ (x, Value.int (a₀ + (i : Int)) t) :: ps c, (fun y => if y = x then some (Value.int (a₀ + (i : Int)) t) else m₁ y) p.1 = some p.2 := by
      intro p hp
      rcases mcs hp with rfl | hp
      · simp
      · show (if p.1 = x then some _ else m₁ p.1) = some p.2
        rw [if_neg (hx c p hp)]
        exact hm p hp
    refine wpAny_mono (turn i t c _ (own ++ n₁) (own ++ keep) h tk gs hG hin (fun p hp => List.mem_append_right _ hp) ?_ ?_ (mono _ _ _ _ (fun p hp _ => List.mem_append_right _ hp) hJ) (fr_map F₁ (kstB_self hm')) N₁) (fun f s₂ p => ?_) fun _ _ e => e
    · intro p hp
      rcases List.mem_append.mp hp with hp | hp
      · exact List.mem_append_left _ hp
      · exact List.mem_append_right _ (hkp p hp)
    · intro p hp
      rcases List.mem_append.mp hp with hp | hp
      · have e := List.mem_singleton.mp (hown' p hp)
        have h1 := (N₁ p (List.mem_append_left _ hp)).1
        rw [e, hoI] at h1
        exact .inr (Option.some.inj h1 ▸ hnI)
      · exact .inl hp
    refine nmG fun gG9 kG9 => ?_
    refine an2 (p) ?_
    intro y9z1 y9w2
    refine ex6 (y9w2) ?_
    intro h' tk' gs' m' n' c' y9w3
    refine an7 (y9w3) ?_
    intro e G' F' N' ho hp hJ'
    clear y9w3 y9w2
    try clear p
    subst y9z1
    refine kG9 ?_
    clear kG9 gG9
    have hoI' : h'.get? I = some oI := (N' _ (ho _ (List.mem_append_left _ hIown))).1
    refine ⟨rfl, exi5 h' tk' gs' m' (n'.filter (fun p => p.1 != I)) ⟨e, G', F', ?_, ?_, c', keepK fun p hp => ho p (List.mem_append_right _ hp), hp, mono _ _ _ _ (keepN N' hoI' hnI) hJ'⟩⟩
    · intro p hp
      rcases List.mem_append.mp hp with hp | hp
      · exact N' p (ho p (List.mem_append_left _ hp))
      · exact N' p (List.mem_filter.mp hp).1
    · intro p hp hq
      have := (List.mem_filter.mp hp).2
      simp only [bne_iff_ne, ne_eq] at this
      exact this (List.mem_singleton.mp hq)
  · intro h' tk gs m' n' G' F' N' _ hz9
    refine nmG fun gG9 kG9 => ?_
    obtain ⟨c, hkp, hm, hJ⟩ := hz9
    refine kG9 ?_
    clear kG9 gG9
    exact done c _ n' h' tk gs G' hkp hJ (fr_map F' (kstB_self hm)) N'
end
end Mine
end
theorem Mine.rstL8 : True := by
  w_top off
  trivial
section
open PySem PySem.W PyProof.Rows PySem.Calls PySem.Spec PyProof.V
set_option Elab.async false
set_option maxRecDepth 100000
set_option maxHeartbeats 4000000
namespace Mine
noncomputable def gscope : Scope := { kind := .function, names := [("" ++ ".0", .local), ("tup", .local), ("str", .globalImplicit)], isGenerator := true, isCoroutine := false, more := [] }
section
variable {prog : Program} {w : World} {A : Around} {E : Value → Shared → Prop} {s : Shared} {env : Env} {h₀ : Heap} {C : Addr} {m mg mb : Str → Option Value} {K : Frag} {p : Program} {lo : List Str} {code : Value} {cl : List (Str × Addr)}
theorem nameG_B {x : Str} {pos : Pos} {v : Value} {Q : Value → Shared → Prop} {scope : Scope} {bi : Addr} (F : Fr h₀ C s.heap m) (X : K.In h₀) (T : TopRead p lo mg mb h₀) (hg : env.globals = mainGlobals) (hbi : bi = builtinsNs) (e : nsIn K mainGlobals x = some none) (hv : bootBuiltins x = some v) (hn : x ≠ "__name__") (h : Q v s)
    (hk : scope.kind = .function) (hx : (genEnv scope cl C code bi env).kindOf x = some .globalImplicit) (hd : (x == ("__debug__" : Str)) = false) :
    wpAny (model prog w) A (eval (.Name x pos) (genEnv scope cl C code bi env)) Q E s := by
  subst hbi
  exact Name_function_global hk hx (loadGlobal_builtin (env := genEnv scope cl C code builtinsNs env) (show s.heap.Ns env.globals mg from hg ▸ T.g.keeps F.keep) (mg_none_of X T.g e) (T.b.keeps F.keep) ((T.builtins x hn).trans hv) h) hd
theorem gen_elt {px py pz pk pc : Pos} {scope : Scope} (hsc : scope.kind = .function) (hn1 : scope.names.lookup (PySem.Str.ofString "tup") = some .local) (hn2 : scope.names.lookup (PySem.Str.ofString "str") = some .globalImplicit)
    (F : Fr h₀ C s.heap m) (X : K.In h₀) (T : TopRead p lo mg mb h₀) (hg : env.globals = mainGlobals) (e : nsIn K mainGlobals "str" = some none)
    {a : Addr} {x y z : Int} {t1 t2 t3 : Tok} {ee : Nat} (ht : s.heap.get? a = some { cls := .type "tuple", data := .seq [.int x t1, .int y t2, .int z t3].toArray ee }) (hm : m "tup" = some (.ref a)) (h0 : 0 ≤ x) (h1 : x ≤ 1000) :
    wpAny (model prog w) A (eval (.Call (.Name "str" px) [.Subscript (.Name "tup" py) (.Constant (.int 0) 0 pz) pk] [] pc) (genEnv scope cl C code builtinsNs env)) (fun v s' => (∃ u, v = .str (its x) u) ∧ Keeps s s') E s := by
  walk1
  refine nameG_B F X T hg rfl e (v := .type "str") (by decide +kernel) (by decide) ?_ hsc (by show scope.names.lookup _ = _; exact hn2) (by decide)
  walk1
  walk1
  walk1
  refine ldVarG F hm ?_ hsc (by show scope.names.lookup _ = _; exact hn1) (by decide)
  walk1
  refine item_tupleT (l := [.int x t1, .int y t2, .int z t3]) (j := 0) ⟨_, ht, rfl, ee, rfl⟩ (by decide) (by decide) (by rfl) (by rfl) ?_ (by with_unfolding_all rfl)
  walk1
  refine str_of_int_fit (N := 2000) (by split <;> omega) (by decide) fun _ => ?_
  exact ⟨⟨_, rfl⟩, _, _, rfl, fun b o e => e⟩
noncomputable def GenJ (prog : Program) (w : World) (A : Around) (a C I : Addr) (n : Nat) (sx : Nat → Str) (h₀ : Heap) (L : Addr) (led : List (Addr × Obj)) (gens : Array GenState) : Prop :=
  ∀ (s' : Shared) (m' : Str → Option Value), s'.gens = gens → Fr h₀ L s'.heap m' → News h₀ L s'.heap led →
    ∃ fp g St, WalksS prog w A.in4 a fp [C, I] (GenOnlyQ g) n (fun j y => ∃ u, y = .str (sx j) u) St ∧ St 0 s' ∧ (∀ i s'', St i s'' → s''.TypeIs (.ref a) "generator") ∧ a ∈ fp ∧ (∀ b ∈ fp, b < s'.heap.objs.size)
theorem passing_all (n : Nat) : passing (fun _ => true) n 0 = List.range n := by
  unfold passing
  rw [List.drop_zero, List.filter_eq_self.mpr (fun _ _ => rfl)]
theorem gen_make {elt iter : Expr} {x : Str} {px pos : Pos} {scope : Scope} {Q : Value → Shared → Prop} {c P ax L : Addr} {ps : Array Value} {vs : List Value} {e : Nat} {nn : List (Addr × Obj)} {mean : ExcName → Option Value}
    (hh : A.handled = none) (hco : scope.isCoroutine = false) (hclos : closureFor scope env = pure cl) (hcell : ∀ y ∈ scope.names, y.2 ≠ .cell) (h0 : scope.names.lookup (".0" : Str) = some NameKind.local)
    (hx : scope.names.lookup x = some .local) (hkind : scope.kind = .function) (hroom : A.depth < recursionLimit) (hge : env.globals = mainGlobals) (hcode : env.code = .ref c)
    (F : Fr h₀ L s.heap m) (N : News h₀ L s.heap ((P, tabObj ps) :: nn)) (T : Top p lo mean mg mb h₀) (CH : CodeHd h₀ c P) (ht : TriplesOk ps.toList) (hps : codeAmong pos ps.toList = none ∨ ∃ c' : Addr, codeAmong pos ps.toList = some (.ref c'))
    (hnP : ∀ q ∈ nn, q.1 ≠ P) (hax : (ax, ({ cls := .type "list", data := .seq vs.toArray e } : Obj)) ∈ nn)
    (hiter : ∀ Q', Q' (.ref ax) s → wpAny (model prog w) A (eval iter env) Q' E s)
    (sx : Nat → Str)
    (helt : ∀ (A' : Around) (E' : Value → Shared → Prop) i v (s₂ : Shared) m₂ C code, A'.handled = none → vs[i]? = some v → Fr h₀ C s₂.heap m₂ → News h₀ C s₂.heap nn → m₂ x = some v →
      wpAny (model prog w) A' (eval elt (genEnv scope cl C code builtinsNs env)) (fun y s₃ => (∃ u, y = .str (sx i) u) ∧ Keeps s₂ s₃) E' s₂)
    (k : ∀ a C I oa oC oI h' tk ps' gs, gs.bare = true → TriplesOk ps'.toList → (∃ c' : Addr, codeAmong pos ps'.toList = some (.ref c')) → Fr h₀ L h' m → News h₀ L h' ((a, oa) :: (C, oC) :: (I, oI) :: (P, tabObj ps') :: nn) →
      (∀ q ∈ nn, q.1 < I) → P < I → I < C → C < a → ¬ NotIt oI →
      GenJ prog w A a C I vs.length sx h₀ L ((a, oa) :: (C, oC) :: (I, oI) :: nn) (s.gens.push gs) → Q (.ref a) { s with heap := h', toks := tk, gens := s.gens.push gs })
    (hs : ∀ x, genFold iter env x = pure x) :
    wpAny (model prog w) A (eval (.GeneratorExp elt [⟨.Name x px, iter, [], 0⟩] scope pos) env) Q E s := by
  have hlist : s.heap.IsList ax vs.toArray := ⟨_, (N _ (.tail _ hax)).1, rfl, e, rfl⟩
  have hltN : ∀ q ∈ (P, tabObj ps) :: nn, q.1 < s.heap.objs.size := fun q hq => Heap.lt_size (N q hq).1
  have hLlt : L < s.heap.objs.size := F.ns.lt
  refine wpAny_GeneratorExp_make hco hclos hcell h0 hkind hroom (hiter _ ?_) hs
  refine wpAny_pyIter_list hlist ?_
  generalize hI : s.heap.objs.size = I at hltN hLlt
  have F1 : Fr h₀ L (s.heap.push { cls := .type "list_iterator", data := .fields #[.ref ax, .int 0 0] }) m := F.push _
  have hIget : (s.heap.push { cls := .type "list_iterator", data := .fields #[.ref ax, .int 0 0] }).get? I = some { cls := .type "list_iterator", data := .fields #[.ref ax, .int 0 0] } := by rw [← hI]; exact Heap.get?_push_size _ rfl
  have N1 : News h₀ L (s.heap.push { cls := .type "list_iterator", data := .fields #[.ref ax, .int 0 0] }) ((I, { cls := .type "list_iterator", data := .fields #[.ref ax, .int 0 0] }) :: (P, tabObj ps) :: nn) := by
    intro q hq
    rcases mcs hq with rfl | hq
    · exact ⟨hIget, Nat.ne_of_gt hLlt, by rw [← hI]; exact next_is_new F⟩
    · exact ⟨Heap.get?_push_of_some _ (N q hq).1, (N q hq).2⟩
  have hS1 : (s.heap.push { cls := .type "list_iterator", data := .fields #[.ref ax, .int 0 0] }).objs.size = I + 1 := by rw [Heap.size_push, hI]
  generalize hH : s.heap.push { cls := .type "list_iterator", data := .fields #[.ref ax, .int 0 0] } = H1 at F1 N1 hIget hS1
  have hcont : ∀ (c' : Addr) (h₃ : Heap) (tk₃ : Nat) (ps' : Array Value), TriplesOk ps'.toList → codeAmong pos ps'.toList = some (.ref c') → Fr h₀ L h₃ m → News h₀ L h₃ ((I, { cls := .type "list_iterator", data := .fields #[.ref ax, .int 0 0] }) :: (P, tabObj ps') :: nn) → I < h₃.objs.size →
      wpAny (model prog w) A (builtinsFor env.globals env.builtins) (fun bi s₄ =>
        ∀ h', h'.Ns s₄.heap.objs.size (fun y => if y = ".0" then some (.ref I) else none) → Heap.SameBut s₄.heap.objs.size (s₄.heap.push { cls := .type "frame", data := .dict #[] }) h' →
          Q (.ref h'.objs.size) { s₄ with
            gens := s₄.gens.push (.fresh (.compStart (.GeneratorExp elt [⟨.Name x px, iter, [], 0⟩] scope pos) 0 (.ref I) .none (genEnv scope cl s₄.heap.objs.size (.ref c') bi env))),
            toks := s₄.toks + 1 + 1 + 1,
            heap := h'.push { cls := .type "generator", data := .fields #[.int s₄.gens.size 0, .str "<genexpr>" (s₄.toks + 1), .str (env.qual ++ "<genexpr>") (s₄.toks + 1 + 1)] } }) E { s with heap := h₃, toks := tk₃ } := by
    intro c' h₃ tk₃ ps' ht' hc' F₃ N₃ hsz₃
    refine nmG fun gG9 kG9 => ?_
    obtain ⟨bm, ob, BM⟩ := bmod_of_top T
    refine kG9 ?_
    clear kG9 gG9
    have BM := BM.keeps F₃.keep
    refine wpAny_builtinsFor (hge ▸ BM.ns) BM.name BM.ne BM.obj BM.cls BM.dict BM.data ?_
    intro h' hn' hs'
    dsimp only at hn' hs' ⊢
    generalize hC : h₃.objs.size = C at hn' hs' hsz₃ ⊢
    have hsz : h'.objs.size = C + 1 := by rw [hs'.1, Heap.size_push, hC]
    have keep' : ∀ b o, h₃.get? b = some o → h'.get? b = some o := fun b o e => hs'.extBut b o (by rw [← hC]; exact Nat.ne_of_lt (Heap.lt_size e)) (Heap.get?_push_of_some _ e)
    generalize hgo : ({ cls := .type "generator", data := .fields #[.int s.gens.size 0, .str "<genexpr>" (tk₃ + 1), .str (env.qual ++ "<genexpr>") (tk₃ + 1 + 1)] } : Obj) = ga
    have hga : (h'.push ga).get? h'.objs.size = some ga := by rw [← hgo]; exact Heap.get?_push_size _ rfl
    have hsz5 : (h'.push ga).objs.size = C + 1 + 1 := by rw [Heap.size_push, hsz]
    have keep₅ : ∀ b o, h₃.get? b = some o → (h'.push ga).get? b = some o := fun b o e => Heap.get?_push_of_some _ (keep' b o e)
    have F₅ : Fr h₀ L (h'.push ga) m := F₃.keeps keep₅
    have hCL : C ≠ L := by have := F₃.ns.lt; rw [hC] at this; exact Nat.ne_of_gt this
    have hCn : h₀.get? C = none := by rw [← hC]; exact next_is_new F₃
    obtain ⟨oC, hoC⟩ : ∃ oC, h'.get? C = some oC := by obtain ⟨o, _, _, e, _⟩ := hn'; exact ⟨o, e⟩
    have han : h₀.get? (C + 1) = none := by
      cases q : h₀.get? (C + 1) with
      | none => rfl
      | some o => have := Heap.lt_size (F₃.keep _ _ q); rw [hC] at this; exact absurd this (Nat.not_lt.mpr (Nat.le_succ _))
    have haL : C + 1 ≠ L := by have := F₃.ns.lt; rw [hC] at this; exact Nat.ne_of_gt (Nat.lt_succ_of_lt this)
    rw [hsz] at hga ⊢
    have N₅ : News h₀ L (h'.push ga) ((C + 1, ga) :: (C, oC) :: (I, { cls := .type "list_iterator", data := .fields #[.ref ax, .int 0 0] }) :: (P, tabObj ps') :: nn) := by
      intro q hq
      rcases mcs hq with rfl | hq
      · exact ⟨hga, haL, han⟩
      rcases mcs hq with rfl | hq
      · exact ⟨Heap.get?_push_of_some _ hoC, hCL, hCn⟩
      · exact ⟨keep₅ _ _ (N₃ q hq).1, (N₃ q hq).2⟩
    have hltn : ∀ q ∈ nn, q.1 < I := fun q hq => hltN q (.tail _ hq)
    refine k (C + 1) C I ga oC _ _ _ ps' _ rfl ht' ⟨c', hc'⟩ F₅ N₅ hltn (hltN _ (.head _)) hsz₃ (Nat.lt_succ_self _) (fun q => q.elim (fun ⟨_, e⟩ => by cases e) fun q => q.2.1 rfl) ?_
    intro s' m' hgs F' N'
    let fp₀ : List Addr := I :: (nn.map (·.1) ++ (List.range h₀.objs.size).filter fun b => (h₀.get? b).isSome)
    have old : ∀ b o, h₀.get? b = some o → b ∈ fp₀ := fun b o eb => .tail _ (List.mem_append_right _ (List.mem_filter.mpr ⟨List.mem_range.mpr (Heap.lt_size eb), by rw [eb]; rfl⟩))
    have hfp : ∀ b ∈ fp₀, I = b ∨ (∃ o, (b, o) ∈ nn) ∨ ∃ o, h₀.get? b = some o := by
      intro b hb
      rcases mcs hb with rfl | hb
      · exact .inl rfl
      rcases List.mem_append.mp hb with hb | hb
      · obtain ⟨q, hq, rfl⟩ := List.mem_map.mp hb
        exact .inr (.inl ⟨q.2, hq⟩)
      · have := (List.mem_filter.mp hb).2
        exact .inr (.inr (Option.isSome_iff_exists.mp this))
    have hlt3 : ∀ b ∈ fp₀, b < C := by
      intro b hb
      rw [← hC]
      rcases hfp b hb with rfl | ⟨o, hq⟩ | ⟨o, hq⟩
      · rw [hC]; exact hsz₃
      · exact Heap.lt_size (N₃ _ (.tail _ (.tail _ hq))).1
      · exact Heap.lt_size (F₃.keep _ _ hq)
    have agree : ∀ b ∈ C :: fp₀, ∀ o, (h'.push ga).get? b = some o → s'.heap.get? b = some o := by
      intro b hb o eo
      rcases mcs hb with rfl | hb
      · have e1 := (N₅ _ (.tail _ (.head _))).1
        have e2 := (N' _ (.tail _ (.head _))).1
        exact e2.trans (e1.symm.trans eo)
      rcases hfp b hb with rfl | ⟨o', hq⟩ | ⟨o', hq⟩
      · have e1 := (N₅ _ (.tail _ (.tail _ (.head _)))).1
        have e2 := (N' _ (.tail _ (.tail _ (.head _)))).1
        exact e2.trans (e1.symm.trans eo)
      · have e1 := (N₅ _ (.tail _ (.tail _ (.tail _ (.tail _ hq))))).1
        have e2 := (N' _ (.tail _ (.tail _ (.tail _ hq)))).1
        exact e2.trans (e1.symm.trans eo)
      · have e1 := F₅.keep _ _ hq
        have e2 := F'.keep _ _ hq
        exact e2.trans (e1.symm.trans eo)
    have hcs : ∃ o, h₀.get? cStatics = some o := by obtain ⟨mc, ⟨o, _, _, e, _⟩, _⟩ := T.nolimit; exact ⟨o, e⟩
    obtain ⟨ocs, hocs⟩ := hcs
    have hwr : ∀ b ∈ [I], b ∈ fp₀ := fun b hb => List.mem_singleton.mp hb ▸ .head _
    have haf : C + 1 ∉ fp₀ := fun hm => absurd (hlt3 _ hm) (Nat.not_lt.mpr (Nat.le_succ _))
    have hCf : C ∉ fp₀ := fun hm => absurd (hlt3 _ hm) (Nat.lt_irrefl _)
    have hIn : h₀.get? I = none := (N₃ _ (.head _)).2.2
    have W := WalksS.genexpQ (prog := prog) (w := w) (A := A.in4) hh (C + 1) s.gens.size C fp₀ [I] (fun _ => true) vs.length (fun i y => ∃ u, y = Value.str (sx i) u) (Nat.succ_ne_self _) haf hwr hroom (old _ _ hocs)
      (fun q => by rw [q, hCn] at hocs; cases hocs) (fun q => by rw [List.mem_singleton.mp q, hIn] at hocs; cases hocs)
    have hqg : QuietGen prog w (genEnv scope cl C (.ref c') builtinsNs env) x [] elt fp₀ [I] (fun i v => vs.toArray[i]? = some v) (fun _ => true) (fun i y => ∃ u, y = Value.str (sx i) u) (h'.push ga) := by
      refine ⟨fun A' E' i v s₂ m₂ hA hv hn2 hm2 hk2 => wpAny_pure ⟨rfl, s₂.heap, s₂.toks, rfl, fun _ _ e => e⟩, fun A' E' i v s₂ m₂ hA hv _ hn2 hm2 hk2 => ?_⟩
      have hI' : ∀ b, b ≠ I → b ∉ [I] := fun b hb q => hb (List.mem_singleton.mp q)
      have F2 : Fr h₀ C s₂.heap m₂ := ⟨hn2, fun b o eb => hk2 b (old b o eb) (hI' b fun q => by rw [q, hIn] at eb; cases eb) o (F₅.keep b o eb), by rw [← hC]; exact Nat.le_trans F₃.above (Nat.le_of_lt F₃.ns.lt)⟩
      have N2 : News h₀ C s₂.heap nn := fun q hq =>
        ⟨hk2 q.1 (.tail _ (List.mem_append_left _ (List.mem_map_of_mem hq))) (hI' _ (Nat.ne_of_lt (hltn q hq))) q.2 (N₅ _ (.tail _ (.tail _ (.tail _ (.tail _ hq))))).1, Nat.ne_of_lt (Nat.lt_trans (hltn q hq) hsz₃), (N₃ q (.tail _ (.tail _ hq))).2.2⟩
      exact helt A' E' i v s₂ m₂ C (.ref c') hA (by simpa using hv) F2 N2 hm2
    have hnl := T.nolimit
    have hWl : ∀ A' : Around, A'.handled = none → Walks prog w A' I fp₀ [I] vs.length (fun i v => vs.toArray[i]? = some v) (fun i h => h.IsListIter I ax i ∧ h.IsList ax vs.toArray) := by
      intro A' hA
      have W := (Walks.list (prog := prog) (w := w) hA I ax (Nat.ne_of_lt (hltn _ hax)) vs.toArray).mono_fp (fp' := fp₀) (fun b hb => by
        rcases mcs hb with rfl | hb
        · exact .head _
        · rw [List.mem_singleton.mp hb]
          exact .tail _ (List.mem_append_left _ (List.mem_map_of_mem hax)))
      rw [List.size_toArray] at W
      exact W
    have hG5 : GenAt prog w A.in4 (C + 1) s.gens.size C fp₀ [I] (fun _ => true) vs.length (fun i y => ∃ u, y = Value.str (sx i) u) 0 { s with heap := h'.push ga, toks := tk₃ + 1 + 1 + 1, gens := s.gens.push (.fresh (.compStart (.GeneratorExp elt [⟨.Name x px, iter, [], 0⟩] scope pos) 0 (.ref I) .none (genEnv scope cl C (.ref c') builtinsNs env))) } := by
      refine GenAt.fresh (elt := elt) (iter := iter) (px := px) (scope := scope) (pos := pos) (A := A.in4) (cenv := genEnv scope cl C (.ref c') builtinsNs env) (m := fun y => if y = ".0" then some (.ref I) else none) hh hWl _ _ hx (by simp [genEnv, hkind]) hco hCf hqg ?_ ?_ ?_ ?_ ?_
      · subst hgo
        exact ⟨_, _, _, hga, rfl, rfl, rfl⟩
      · exact Array.getElem?_push_size ..
      · exact ⟨⟨_, (N₅ _ (.tail _ (.tail _ (.head _)))).1, rfl, rfl⟩, ⟨_, (N₅ _ (.tail _ (.tail _ (.tail _ (.tail _ hax))))).1, rfl, e, rfl⟩⟩
      · exact hn'.push _
      · exact T.nolimit.keeps F₅.keep
    have hPL : (passing (fun _ => true) vs.length 0) = List.range vs.length := passing_all _
    rw [hPL, List.length_range] at W
    refine ⟨_, s.gens.size, _, ⟨W.sub, W.grefl, W.gtrans, W.frame, fun i s Q E hi st hQ => W.item i s Q E hi st fun v s' hP => hQ v s' ?_, W.done, W.self⟩, ?_, fun i s'' st => st.1.typeIs, .head _, ?_⟩
    · refine nmG fun gG9 kG9 => ?_
      obtain ⟨q, hq, u, hu⟩ := hP
      refine kG9 ?_
      clear kG9 gG9
      rw [List.getElem?_range hi] at hq
      cases hq
      exact ⟨u, hu⟩
    · refine nmG fun gG9 kG9 => ?_
      refine an3 (hG5) ?_
      intro g1 g2 y9w1
      refine ex1 (y9w1) ?_
      intro gs5 y9w2
      refine an2 (y9w2) ?_
      intro g3 g4
      clear y9w2 y9w1
      try clear hG5
      refine kG9 ?_
      clear kG9 gG9
      refine ⟨?_, T.nolimit.keeps F'.keep, gs5, by rw [hgs]; exact g3, fun s'' hal => ?_⟩
      · subst hgo
        exact ⟨_, _, _, (N' _ (.head _)).1, rfl, rfl, rfl⟩
      · exact g4 s'' fun b hb o eo => hal b hb o (agree b hb o eo)
    · intro b hb
      rcases mcs hb with rfl | hb
      · exact Heap.lt_size (N' _ (.head _)).1
      rcases mcs hb with rfl | hb
      · exact Heap.lt_size (N' _ (.tail _ (.head _))).1
      rcases hfp b hb with rfl | ⟨o, hq⟩ | ⟨o, hq⟩
      · exact Heap.lt_size (N' _ (.tail _ (.tail _ (.head _)))).1
      · exact Heap.lt_size (N' _ (.tail _ (.tail _ (.tail _ hq)))).1
      · exact Heap.lt_size (F'.keep _ _ hq)
  have hP1 := (N1 _ (.tail _ (.head _))).1
  have hPn := (N1 _ (.tail _ (.head _))).2.2
  have CH1 := CH.keeps F1.keep
  have hIc := CH1.code hP1 ht
  have htb := CH1.tab hP1
  refine ⟨T.nolimit.keeps F1.keep, ?_⟩
  rcases hps with hnf | ⟨c', hf⟩
  · refine wpAny_genexprCodeX hcode hIc htb hnf fun c' h' tk hxb hge hlt hcode' hrec htab' _ => ?_
    have hPI : P ≠ I := Nat.ne_of_lt (hltN _ (.head _))
    refine hcont c' h' tk (ps ++ #[rawInt pos.line, rawInt pos.col, .ref c']) (by rw [Array.toList_append]; exact TriplesOk_snoc _ _ _ _ ht) (by rw [Array.toList_append]; exact codeAmong_snoc _ ht hnf) ⟨F1.ns.at' fun o eo => hxb _ o (N1 _ (.tail _ (.head _))).2.1.symm eo, fun b o eb => hxb b o (fun q => by rw [q, hPn] at eb; cases eb) (F1.keep b o eb), F1.above⟩ ?_ (Nat.lt_of_lt_of_le (by rw [hS1]; exact Nat.lt_succ_self _) (Nat.le_trans hge (Nat.le_of_lt hlt)))
    intro q hq
    rcases mcs hq with rfl | hq
    · exact ⟨hxb _ _ hPI.symm hIget, (N1 _ (.head _)).2⟩
    rcases mcs hq with rfl | hq
    · exact ⟨htab'.2, (N1 _ (.tail _ (.head _))).2⟩
    · exact ⟨hxb _ _ (hnP q hq) (N1 q (.tail _ (.tail _ hq))).1, (N1 q (.tail _ (.tail _ hq))).2⟩
  · refine wpAny_genexprCode_hit hcode hIc hf ?_
    exact hcont c' _ _ ps ht hf F1 N1 (by rw [hS1]; exact Nat.lt_succ_self _)
end
end Mine
end
theorem Mine.rstB10 : True := by
  w_top off
  trivial
section
open PySem PySem.W PyProof.Rows PySem.Calls PySem.Spec PyProof.V
set_option Elab.async false
set_option maxRecDepth 100000
set_option maxHeartbeats 8000000
namespace Mine
section
variable {prog : Program} {w : World} {A : Around} {E : Value → Shared → Prop} {s : Shared} {h₀ : Heap} {m : Str → Option Value}
theorem strs_of_items {n : Nat} {sx : Nat → Str} {l : List (Str × Tok)} (h : ItemsOf (fun j y => ∃ u, y = Value.str (sx j) u) (strValues l).toArray n) : l.map (·.1) = (List.range n).map sx := by
  have hsz : l.length = n := by
    have := h.1
    rw [List.size_toArray] at this
    simpa [strValues] using this
  apply List.ext_getElem?
  intro j
  rw [List.getElem?_map, List.getElem?_map]
  by_cases hj : j < n
  · have hj' : j < l.length := by (first | lia | omega)
    rw [List.getElem?_range hj, List.getElem?_eq_getElem hj']
    have h2 := h.2 j (.str l[j].1 l[j].2) (by simp [strValues, List.getElem?_eq_getElem hj'])
    obtain ⟨u, e⟩ := h2
    injection e with e1 e2
    simp [e1]
  · rw [List.getElem?_eq_none (by (first | lia | omega)), List.getElem?_eq_none (by simp; (first | lia | omega))]
    rfl
theorem gen_join {sep : Str} {t : Tok} {a C I L : Addr} {n : Nat} {sx : Nat → Str} {led rest : List (Addr × Obj)} {gens : Array GenState} {Q : Value → Shared → Prop} (GJ : GenJ prog w A a C I n sx h₀ L led gens) (hg : s.gens = gens) (G : AllBare s.gens)
    (F : Fr h₀ L s.heap m) (N : News h₀ L s.heap led) (hrest : ∀ q ∈ rest, q.1 ≠ C ∧ q.1 ≠ I) (hrest2 : News h₀ L s.heap rest) (hC : h₀.get? C = none) (hI : h₀.get? I = none) (hCL : C ≠ L) (hIL : I ≠ L) (hn : n ≤ 1000)
    (hok : JoinOk sep ((List.range n).map sx) = true)
    (hq : ∀ t' h' tk' gs, AllBare gs → Fr h₀ L h' m → News h₀ L h' rest → Q (.str (Txt.join sep ((List.range n).map sx)) t') { s with heap := h', toks := tk', gens := gs }) :
    wpAny (model prog w) A (call (.builtin "str.join") [.str sep t, .ref a]) Q E s := by
  refine nmG fun gG9 kG9 => ?_
  refine ex3 (GJ s m hg F N) ?_
  intro fp g St y9w1
  refine an5 (y9w1) ?_
  intro W h0 hT ha hb
  clear y9w1
  refine kG9 ?_
  clear kG9 gG9
  refine SC.joinGen W.in4_2 hT h0 hb ha (fun i v hv => hv.elim fun u e => ⟨_, u, e⟩) ?_ (Nat.le_trans hn (by rw [sizeLine_eq]; decide))
  intro s' l hm hl
  have e := strs_of_items hl
  rw [e]
  refine ⟨hok, fun t' k => ?_⟩
  refine nmG fun gG9 kG9 => ?_
  obtain ⟨hh, hgn, hdr, hos, htk⟩ := hm
  refine kG9 ?_
  clear kG9 gG9
  have F' : Fr h₀ L s'.heap m := ⟨F.ns.at' fun o eo => hh _ o (by simp [hCL.symm, hIL.symm]) eo, fun b o eb => hh b o (by
    intro hm
    rcases mcs hm with rfl | hm
    · rw [hC] at eb; cases eb
    · rw [List.mem_singleton.mp hm, hI] at eb; cases eb) (F.keep b o eb), F.above⟩
  have N' : News h₀ L s'.heap rest := fun q hq => ⟨hh _ _ (by simp [(hrest q hq).1, (hrest q hq).2]) (hrest2 q hq).1, (hrest2 q hq).2⟩
  have := hq t' s'.heap k s'.gens (hgn.bare G) F' N'
  have es : ({ s' with toks := k } : Shared) = { s with heap := s'.heap, toks := k, gens := s'.gens } := by
    cases s; cases s'
    simp only at hdr hos
    subst hdr hos
    rfl
  rw [es]
  exact this
end
noncomputable def posG : Pos := ⟨116, 13, 116, 39⟩
noncomputable def TabOk (ps : Array Value) : Prop := TriplesOk ps.toList ∧ (codeAmong posG ps.toList = none ∨ ∃ c' : Addr, codeAmong posG ps.toList = some (.ref c'))
theorem TripsAre.get {nn : List (Addr × Obj)} {vs : List Value} {ds : List (Int × Int × Int)} (h : TripsAre nn vs ds) : ∀ {i : Nat} {v : Value}, vs[i]? = some v → ∃ a x y z t1 t2 t3 e, v = .ref a ∧ ds[i]? = some (x, y, z) ∧ (a, ({ cls := .type "tuple", data := .seq [.int x t1, .int y t2, .int z t3].toArray e } : Obj)) ∈ nn := by
  induction h with
  | nil => intro i v h; simp at h
  | @cons a x y z t1 t2 t3 e vs ds hm _ ih =>
    intro i v h
    cases i with
    | zero =>
      have e9 : Value.ref a = v := by simpa using h
      subst e9
      exact ⟨a, x, y, z, t1, t2, t3, e, rfl, rfl, hm⟩
    | succ i => exact ih (by simpa using h)
theorem range_its (ds : List (Int × Int × Int)) : (List.range ds.length).map (fun i => its (ds.getD i (0, 0, 0)).1) = (ds.map (·.1)).map its := by
  rw [List.map_map]
  apply List.ext_getElem?
  intro j
  rw [List.getElem?_map, List.getElem?_map]
  by_cases hj : j < ds.length
  · rw [List.getElem?_range hj, List.getElem?_eq_getElem hj]
    simp [List.getD_eq_getElem?_getD, hj]
  · rw [List.getElem?_eq_none (by simp; (first | lia | omega)), List.getElem?_eq_none (by (first | lia | omega))]
    rfl
theorem mlen_n {prog : Program} {w : World} {A : Around} {E : Value → Shared → Prop} {s : Shared} {h₀ : Heap} {L : Addr} {nn : List (Addr × Obj)} {Q : Value → Shared → Prop} {l : Addr} {vs : List Value} {n e : Nat} (N : News h₀ L s.heap nn) (hm : (l, ({ cls := .type "list", data := .seq vs.toArray e } : Obj)) ∈ nn) (hn : vs.length = n) (hl : n ≤ 1000) (h : Q (.int n (s.toks + 1)) { s with toks := s.toks + 1 + 1 }) :
    wpAny (model prog w) A (call (.builtin "len") [.ref l]) Q E s := by
  subst hn
  exact len_list (N.isList hm) (by rw [List.size_toArray]; (first | lia | omega)) (by rw [List.size_toArray]; exact h)
local macro_rules | `(tactic| k_mem) => `(tactic| first | assumption | exact List.Mem.head _ | (refine List.Mem.tail _ ?_; k_mem))
section
variable {w : World} {mean : ExcName → Option Value} {mg mb : Str → Option Value} {dp un : Nat} {gd : Option (List Code)} {cn : Str} {cs : Scope} {a : Addr} {ccd : Value} {cl : List (Str × Addr)} {outer : List Env} {A₀ : Around} {base h₀ : Heap} {L : Addr} {m : Str → Option Value} {s : Shared} {Q E : Value → Shared → Prop} {news : List (Addr × Obj)}
theorem code184 {w : World} {h : Heap} (X : (HK w.params).In h) : CodeHd h 184 180 :=
  ⟨_, _, _, _, _, _, _, _, _, X 184 _ rfl, rfl, rfl, rfl, (by with_unfolding_all rfl), (by with_unfolding_all rfl), (by with_unfolding_all rfl), (by with_unfolding_all rfl), (by with_unfolding_all rfl), by decide⟩
end
namespace Zfw_ct
noncomputable def ctS (w : World) (mean : ExcName → Option Value) (mg : Str → Option Value) (mb : Str → Option Value) (dp : Nat) (un : Nat) (gd : Option (List Code)) (cn : Str) (cs : Scope) (a : Addr) (ccd : Value) (cl : List (Str × Addr)) (outer : List Env) (A₀ : Around) (base : Heap) (h₀ : Heap) (L : Addr) (m : Str → Option Value) (s : Shared) (Q : Value → Shared → Prop) (E : Value → Shared → Prop) (news : List (Addr × Obj)) (ps : Array Value) (nn : List (Addr × Obj)) (wl : Addr) (vs : List Value) (e : Nat) (ds : List (Int × Int × Int)) : Prop := Bx (
  ∀ (C : At w mean mg mb 1 dp un cs outer A₀ base h₀ L m ((180, tabObj ps) :: nn) s.heap) (G : AllBare s.gens) (hTab : TabOk ps) (hnP : ∀ q ∈ nn, q.1 ≠ 180) (mw : (wl, ({ cls := .type "list", data := .seq vs.toArray e } : Obj)) ∈ nn) (hT : TripsAre nn vs ds) (hb : ∀ d ∈ ds, 1 ≤ d.1 ∧ d.1 ≤ 6) (hlen : ds.length ≤ 20) (hret : ∀ (t : Tok) (h' : Heap) (tk' : Nat) (gs : Array GenState) (ps' : Array Value), TabOk ps' → AllBare gs → Fr h₀ L h' m → News h₀ L h' ((180, tabObj ps') :: nn) → Q (.str (wordsF (ds.map (·.1))) t) { s with heap := h', toks := tk', gens := gs }),
  wpAny (model PySem.Challenge.rw_xe0048_01.row.prog w) (ktrTop dp un gd cn cs L a ccd cl outer) (call (.ref 185) [.ref wl]) Q E s)
theorem ne : Nonempty (V0 × ((Array Value) × (List (Addr × Obj)) × (Addr) × (List Value) × (Nat) × (List (Int × Int × Int)))) := ne_V ⟨(default, default, default, default, default, default)⟩
noncomputable def ctc : V0 × ((Array Value) × (List (Addr × Obj)) × (Addr) × (List Value) × (Nat) × (List (Int × Int × Int))) := pk ne fun v => ctS v.1.w v.1.mean v.1.mg v.1.mb v.1.dp v.1.un v.1.gd v.1.cn v.1.cs v.1.a v.1.ccd v.1.cl v.1.outer v.1.A₀ v.1.base v.1.h₀ v.1.L v.1.m v.1.s v.1.Q v.1.E v.1.news v.2.1 v.2.2.1 v.2.2.2.1 v.2.2.2.2.1 v.2.2.2.2.2.1 v.2.2.2.2.2.2
noncomputable def w : World := ctc.1.w
noncomputable def mean : ExcName → Option Value := ctc.1.mean
noncomputable def mg : Str → Option Value := ctc.1.mg
noncomputable def mb : Str → Option Value := ctc.1.mb
noncomputable def dp : Nat := ctc.1.dp
noncomputable def un : Nat := ctc.1.un
noncomputable def gd : Option (List Code) := ctc.1.gd
noncomputable def cn : Str := ctc.1.cn
noncomputable def cs : Scope := ctc.1.cs
noncomputable def a : Addr := ctc.1.a
noncomputable def ccd : Value := ctc.1.ccd
noncomputable def cl : List (Str × Addr) := ctc.1.cl
noncomputable def outer : List Env := ctc.1.outer
noncomputable def A₀ : Around := ctc.1.A₀
noncomputable def base : Heap := ctc.1.base
noncomputable def h₀ : Heap := ctc.1.h₀
noncomputable def L : Addr := ctc.1.L
noncomputable def m : Str → Option Value := ctc.1.m
noncomputable def s : Shared := ctc.1.s
noncomputable def Q : Value → Shared → Prop := ctc.1.Q
noncomputable def E : Value → Shared → Prop := ctc.1.E
noncomputable def news : List (Addr × Obj) := ctc.1.news
noncomputable def ps : Array Value := ctc.2.1
noncomputable def nn : List (Addr × Obj) := ctc.2.2.1
noncomputable def wl : Addr := ctc.2.2.2.1
noncomputable def vs : List Value := ctc.2.2.2.2.1
noncomputable def e : Nat := ctc.2.2.2.2.2.1
noncomputable def ds : List (Int × Int × Int) := ctc.2.2.2.2.2.2
noncomputable def ctA : (ctR : (Heap) → (Addr) → (Heap) → Prop) ×' (∀ (C : At w mean mg mb 1 dp un cs outer A₀ base h₀ L m ((180, tabObj ps) :: nn) s.heap) (G : AllBare s.gens) (hTab : TabOk ps) (hnP : ∀ q ∈ nn, q.1 ≠ 180) (mw : (wl, ({ cls := .type "list", data := .seq vs.toArray e } : Obj)) ∈ nn) (hT : TripsAre nn vs ds) (hb : ∀ d ∈ ds, 1 ≤ d.1 ∧ d.1 ≤ 6) (hlen : ds.length ≤ 20) (hret : ∀ (t : Tok) (h' : Heap) (tk' : Nat) (gs : Array GenState) (ps' : Array Value), TabOk ps' → AllBare gs → Fr h₀ L h' m → News h₀ L h' ((180, tabObj ps') :: nn) → Q (.str (wordsF (ds.map (·.1))) t) { s with heap := h', toks := tk', gens := gs }), (∀ g0 L0 h0, Bx (ctR g0 L0 h0)) → wpAny (model PySem.Challenge.rw_xe0048_01.row.prog w) (ktrTop dp un gd cn cs L a ccd cl outer) (call (.ref 185) [.ref wl]) Q E s) := ⟨_, by
  intro C G hTab hnP mw hT hb hlen hret ctH
  k_with_none
  refine nmG fun gG9 kG9 => ?_
  obtain ⟨B, F, X, N, T, kf, hd, hu⟩ := C
  refine kG9 ?_
  clear kG9 gG9
  revert X
  k_fill
  intro X
  refine wpAny_call ?_
  k_dflt (refine' code_def ?k1 ?k2 ?k3 ?k4 ?k5 ?kA ?kF ?kK ?k6 ?k7 ?k8 ?k9 ?kB ?_ ?c2 ?c3 ?c4 ?c5; (case kA => exact rfl); (case kF => exact rfl); (case kK => assumption); (case k1 => k_asm); (case k2 => k_asm); (case k3 => k_asm); (case k4 => k_asm); (case k5 => k_asm); (case k6 => k_is); (case k7 => k_is); (case k8 => ktr_room); (case k9 => exact BindsTo.of_eq rfl); (case c5 => decide); (case kB => exact locs rfl); (case c2 => exact rfl); (case c3 => exact rfl); (case c4 => exact rfl); k_whole; exact fun g0 L0 h0 => (ctH g0 L0 h0).out)⟩
theorem ned : Nonempty ((Heap) × (Addr) × (Heap)) := ⟨(default, default, default)⟩
noncomputable def ctd := pk ned fun v => Bx (ctA.1 v.1 v.2.1 v.2.2)
noncomputable def g0 : Heap := ctd.1
noncomputable def L0 : Addr := ctd.2.1
noncomputable def h0 : Heap := ctd.2.2
theorem ctB (C : At w mean mg mb 1 dp un cs outer A₀ base h₀ L m ((180, tabObj ps) :: nn) s.heap) (G : AllBare s.gens) (hTab : TabOk ps) (hnP : ∀ q ∈ nn, q.1 ≠ 180) (mw : (wl, ({ cls := .type "list", data := .seq vs.toArray e } : Obj)) ∈ nn) (hT : TripsAre nn vs ds) (hb : ∀ d ∈ ds, 1 ≤ d.1 ∧ d.1 ≤ 6) (hlen : ds.length ≤ 20) (hret : ∀ (t : Tok) (h' : Heap) (tk' : Nat) (gs : Array GenState) (ps' : Array Value), TabOk ps' → AllBare gs → Fr h₀ L h' m → News h₀ L h' ((180, tabObj ps') :: nn) → Q (.str (wordsF (ds.map (·.1))) t) { s with heap := h', toks := tk', gens := gs }) : Bx (ctA.1 g0 L0 h0) := by
  refine ⟨?_⟩
  dsimp only [ctA]
  k_with_none
  k_with "eval GeneratorExp" => (refine hold ?_)
  k_with "call builtin:str.join" => (refine hold ?_)
  k_with "call builtin:len" => ((k_dflt (refine' mlen_n ?a.«_@»._hyg ?b.«_@»._hyg ?c.«_@»._hyg ?d.«_@»._hyg ?_; (case a => k_asm); (case b => k_mem); (case c => assumption); (case d => (first | lia | omega)))))
  k_with "binaryOp Add str str" => ((refine madds (by first | assumption | decide) (by first | assumption | decide) ?_; intro _ _))
  refine nmG fun gG9 kG9 => ?_
  obtain ⟨B, F, X, N, T, kf, hd, hu⟩ := C
  refine kG9 ?_
  clear kG9 gG9
  have CH := code184 X
  revert X
  k_fill
  intro X
  intro FG' F' N' B' X' T'
  (try dsimp only); (try k_lift B'); (try k_fold)
  k_steps
  unfold Hold
  (with_reducible rename News _ _ _ ((180, tabObj ps) :: nn) => N1)
  (with_reducible rename Fr _ _ _ (_ : Str → Option Value) => F1)
  (with_reducible rename Fr h₀ L _ m => FG1)
  (with_reducible rename Frag.In _ _ => X1)
  (with_reducible rename Top _ _ _ _ _ _ => T1)
  have CH := CH.keeps FG1.keep
  (with_unfolding_all refine' gen_make (c := 184) (P := 180) (sx := fun i => its (ds.getD i (0, 0, 0)).1) (cl := []) ?hh ?h1 ?h2 ?h3 ?h4 ?h5 ?h6 ?hroom ?h7 ?h8 F1 N1 T1 CH hTab.1 hTab.2 hnP mw ?hiter ?helt ?k ?hs)
  case hh => rfl
  case h1 => rfl
  case h2 => with_unfolding_all rfl
  case h3 => decide
  case h4 => rfl
  case h5 => rfl
  case h6 => rfl
  case hroom => ktr_room
  case h7 => rfl
  case h8 => rfl
  case hiter => exact fun Q' hq => ld F1 (by rfl) hq
  case helt =>
    intro A' E' i v s₂ m₂ C code hA hv F2 N2 hm
    refine nmG fun gG9 kG9 => ?_
    refine ex8 (hT.get hv) ?_
    intro b x y z t1 t2 t3 ee y9w1
    refine an3 (y9w1) ?_
    intro y9z2 hd hmem
    clear y9w1
    subst y9z2
    refine kG9 ?_
    clear kG9 gG9
    have hx : (ds.getD i (0, 0, 0)).1 = x := by rw [List.getD_eq_getElem?_getD, hd]; rfl
    rw [hx]
    have hbx := hb _ (List.mem_of_getElem? hd)
    refine gen_elt rfl rfl rfl F2 X1 (topRead_of T1) rfl (by k_is) (N2 _ hmem).1 hm (by dsimp only at hbx; (first | lia | omega)) (by dsimp only at hbx; (first | lia | omega))
  case hs => intro x; with_unfolding_all rfl
  case k =>
    intro a C I oa oC oI h' tk' ps' gs hgb hT2 hc2 F2 N2 hlt hPI hIC hCa hnI GJ
    have hvl := hT.length
    have hnP2 : ∀ q ∈ nn, q.1 ≠ C ∧ q.1 ≠ I := fun q hq => ⟨Nat.ne_of_lt (Nat.lt_trans (hlt q hq) hIC), Nat.ne_of_lt (hlt q hq)⟩
    k_steps
    · unfold Hold
      (with_reducible rename News _ _ _ ((a, oa) :: _) => N3)
      (with_reducible rename Fr _ _ _ (_ : Str → Option Value) => F3)
      (with_reducible rename (1 : Int) < _ => hlen1)
      have hN4 : ∀ q ∈ (180, tabObj ps') :: nn, q.1 ≠ C ∧ q.1 ≠ I := by
        intro q hq
        rcases mcs hq with rfl | hq
        · exact ⟨Nat.ne_of_lt (Nat.lt_trans hPI hIC), Nat.ne_of_lt hPI⟩
        · exact hnP2 q hq
      have hzz : ∀ z ∈ ds.map (·.1), 1 ≤ z ∧ z ≤ 6 := fun z hz => by
        obtain ⟨d, hd, rfl⟩ := List.mem_map.mp hz
        exact hb d hd
      have hsx : (List.range vs.length).map (fun i => its (ds.getD i (0, 0, 0)).1) = (ds.map (·.1)).map its := by rw [hvl]; exact range_its ds
      have hJ : (Txt.join (PySem.Str.ofString ", ") ((ds.map (·.1)).map its)).length ≤ 1000 := by
        rw [txt_join]
        refine Nat.le_trans (join_len _ _) ?_
        rw [its_sum hzz, show (PySem.Str.ofString ", ").length = 2 by decide]
        simp only [List.length_map]
        (first | lia | omega)
      refine gen_join GJ rfl (G.push hgb) F3 (fun q hq => N3 q (by
        rcases mcs hq with rfl | hq
        · exact .head _
        rcases mcs hq with rfl | hq
        · exact .tail _ (.head _)
        rcases mcs hq with rfl | hq
        · exact .tail _ (.tail _ (.head _))
        exact .tail _ (.tail _ (.tail _ (.tail _ hq))))) hN4 (fun q hq => N3 q (.tail _ (.tail _ (.tail _ hq)))) (N3 _ (.tail _ (.head _))).2.2 (N3 _ (.tail _ (.tail _ (.head _)))).2.2 (N3 _ (.tail _ (.head _))).2.1 (N3 _ (.tail _ (.tail _ (.head _)))).2.1 (by (first | lia | omega)) ?_ ?_
      · rw [hsx]
        refine joinOk_of_weight ?_ (by decide)
        rw [its_sum hzz]
        simp only [List.length_map]
        (first | lia | omega)
      · intro t' h4 tk4 gs4 G4 F4 N4
        rw [hsx]
        clear N3 F3
        k_steps
        have eW : wordsF (ds.map (·.1)) = ((PySem.Str.ofString "at tab size" ++ PySem.Str.ofString "s") ++ PySem.Str.ofString " ") ++ Txt.join (PySem.Str.ofString ", ") ((ds.map (·.1)).map its) := by unfold wordsF; rw [if_pos (by rw [List.length_map]; (first | lia | omega))]
        rw [eW, show PySem.Str.ofString "at tab size" ++ PySem.Str.ofString "s" = PySem.Str.ofString "at tab sizes" by decide +kernel] at hret
        exact hret _ _ _ _ _ ⟨hT2, .inr hc2⟩ G4 (by assumption) (by assumption)
    · unfold Hold
      (with_reducible rename News _ _ _ ((a, oa) :: _) => N3)
      (with_reducible rename Fr _ _ _ (_ : Str → Option Value) => F3)
      (with_reducible rename ¬ (1 : Int) < _ => hlen1)
      have hN4 : ∀ q ∈ (180, tabObj ps') :: nn, q.1 ≠ C ∧ q.1 ≠ I := by
        intro q hq
        rcases mcs hq with rfl | hq
        · exact ⟨Nat.ne_of_lt (Nat.lt_trans hPI hIC), Nat.ne_of_lt hPI⟩
        · exact hnP2 q hq
      have hzz : ∀ z ∈ ds.map (·.1), 1 ≤ z ∧ z ≤ 6 := fun z hz => by
        obtain ⟨d, hd, rfl⟩ := List.mem_map.mp hz
        exact hb d hd
      have hsx : (List.range vs.length).map (fun i => its (ds.getD i (0, 0, 0)).1) = (ds.map (·.1)).map its := by rw [hvl]; exact range_its ds
      have hJ : (Txt.join (PySem.Str.ofString ", ") ((ds.map (·.1)).map its)).length ≤ 1000 := by
        rw [txt_join]
        refine Nat.le_trans (join_len _ _) ?_
        rw [its_sum hzz, show (PySem.Str.ofString ", ").length = 2 by decide]
        simp only [List.length_map]
        (first | lia | omega)
      refine gen_join GJ rfl (G.push hgb) F3 (fun q hq => N3 q (by
        rcases mcs hq with rfl | hq
        · exact .head _
        rcases mcs hq with rfl | hq
        · exact .tail _ (.head _)
        rcases mcs hq with rfl | hq
        · exact .tail _ (.tail _ (.head _))
        exact .tail _ (.tail _ (.tail _ (.tail _ hq))))) hN4 (fun q hq => N3 q (.tail _ (.tail _ (.tail _ hq)))) (N3 _ (.tail _ (.head _))).2.2 (N3 _ (.tail _ (.tail _ (.head _)))).2.2 (N3 _ (.tail _ (.head _))).2.1 (N3 _ (.tail _ (.tail _ (.head _)))).2.1 (by (first | lia | omega)) ?_ ?_
      · rw [hsx]
        refine joinOk_of_weight ?_ (by decide)
        rw [its_sum hzz]
        simp only [List.length_map]
        (first | lia | omega)
      · intro t' h4 tk4 gs4 G4 F4 N4
        rw [hsx]
        clear N3 F3
        k_steps
        have eW : wordsF (ds.map (·.1)) = ((PySem.Str.ofString "at tab size" ++ PySem.Str.ofString "") ++ PySem.Str.ofString " ") ++ Txt.join (PySem.Str.ofString ", ") ((ds.map (·.1)).map its) := by unfold wordsF; rw [if_neg (by rw [List.length_map]; (first | lia | omega))]
        rw [eW, show PySem.Str.ofString "at tab size" ++ PySem.Str.ofString "" = PySem.Str.ofString "at tab size" by decide +kernel] at hret
        exact hret _ _ _ _ _ ⟨hT2, .inr hc2⟩ G4 (by assumption) (by assumption)
theorem ctT : ctS w mean mg mb dp un gd cn cs a ccd cl outer A₀ base h₀ L m s Q E news ps nn wl vs e ds := ⟨fun C G hTab hnP mw hT hb hlen hret => ctA.2 C G hTab hnP mw hT hb hlen hret (pk_all3 (ne := ned) (R := fun g0 L0 h0 => Bx (ctA.1 g0 L0 h0)) rfl rfl rfl (ctB C G hTab hnP mw hT hb hlen hret))⟩
theorem all : ∀ v : V0 × ((Array Value) × (List (Addr × Obj)) × (Addr) × (List Value) × (Nat) × (List (Int × Int × Int))), ctS v.1.w v.1.mean v.1.mg v.1.mb v.1.dp v.1.un v.1.gd v.1.cn v.1.cs v.1.a v.1.ccd v.1.cl v.1.outer v.1.A₀ v.1.base v.1.h₀ v.1.L v.1.m v.1.s v.1.Q v.1.E v.1.news v.2.1 v.2.2.1 v.2.2.2.1 v.2.2.2.2.1 v.2.2.2.2.2.1 v.2.2.2.2.2.2 := pk_all (ne := ne) (P := fun v => ctS v.1.w v.1.mean v.1.mg v.1.mb v.1.dp v.1.un v.1.gd v.1.cn v.1.cs v.1.a v.1.ccd v.1.cl v.1.outer v.1.A₀ v.1.base v.1.h₀ v.1.L v.1.m v.1.s v.1.Q v.1.E v.1.news v.2.1 v.2.2.1 v.2.2.2.1 v.2.2.2.2.1 v.2.2.2.2.2.1 v.2.2.2.2.2.2) ctT
end Zfw_ct
section
variable {w : World} {mean : ExcName → Option Value} {mg mb : Str → Option Value} {dp un : Nat} {gd : Option (List Code)} {cn : Str} {cs : Scope} {a : Addr} {ccd : Value} {cl : List (Str × Addr)} {outer : List Env} {A₀ : Around} {base h₀ : Heap} {L : Addr} {m : Str → Option Value} {s : Shared} {Q E : Value → Shared → Prop} {news : List (Addr × Obj)}
theorem fw_ct  {ps : Array Value} {nn : List (Addr × Obj)} (C : At w mean mg mb 1 dp un cs outer A₀ base h₀ L m ((180, tabObj ps) :: nn) s.heap) (G : AllBare s.gens) (hTab : TabOk ps) (hnP : ∀ q ∈ nn, q.1 ≠ 180)
  {wl : Addr} {vs : List Value} {e : Nat} {ds : List (Int × Int × Int)} (mw : (wl, ({ cls := .type "list", data := .seq vs.toArray e } : Obj)) ∈ nn) (hT : TripsAre nn vs ds) (hb : ∀ d ∈ ds, 1 ≤ d.1 ∧ d.1 ≤ 6) (hlen : ds.length ≤ 20)
  (hret : ∀ (t : Tok) (h' : Heap) (tk' : Nat) (gs : Array GenState) (ps' : Array Value), TabOk ps' → AllBare gs → Fr h₀ L h' m → News h₀ L h' ((180, tabObj ps') :: nn) → Q (.str (wordsF (ds.map (·.1))) t) { s with heap := h', toks := tk', gens := gs }) :
  wpAny (model PySem.Challenge.rw_xe0048_01.row.prog w) (ktrTop dp un gd cn cs L a ccd cl outer) (call (.ref 185) [.ref wl]) Q E s := by
  exact (Zfw_ct.all ⟨⟨w, mean, mg, mb, dp, un, gd, cn, cs, a, ccd, cl, outer, A₀, base, h₀, L, m, s, Q, E, []⟩, ps, nn, wl, vs, e, ds⟩).out C G hTab hnP mw hT hb hlen hret
end
end Mine
end
theorem Mine.rstL10 : True := by
  w_top off
  trivial
section
open PySem.Builtin PySem.Builtin.ObjectAttr PySem PySem.W PyProof.Rows PySem.Calls PySem.Spec PyProof.V
set_option Elab.async false
set_option maxRecDepth 100000
set_option maxHeartbeats 4000000
namespace Mine
section
variable {M : Model} {A : Around} {E : Value → Shared → Prop} {env : Env}
variable {nm q : Str} {C N : Addr} {bs bm : List Value} {hdct : Bool} {sn : List Str} {sub : List Value} {ab : Bool} {col : Option Bool} {dd : Option Addr} {k0 k1 k2 k3 k5 : Option Value} {newId : String}
theorem raise_made {s : Shared} {x : Sem Value} {Q : Flow → Shared → Prop} (hbase : bm.contains (.type "BaseException") = true) (hh : A.handled = none)
    (h : wpAny M A x (fun v s₁ => ∃ e oe t, v = .ref e ∧ s₁.heap.get? C = some (excClassObj nm q C N bs bm hdct sn sub ab col dd k0 k1 k2 k3 k5 newId) ∧
      s₁.heap.get? e = some oe ∧ oe.cls = .ref C ∧ oe.data = .fields #[.ref t, .none, .none, .none, .bool false, .none] ∧ E (.ref e) s₁) E s) :
    wpAny M A (raiseStmt env (some x) none) Q E s := by
  have hcB : (Value.ref C :: bm).contains (.type "BaseException") = true := by rw [List.contains_cons, hbase, Bool.or_true]
  unfold raiseStmt
  refine wpAny_bind (wpAny_mono h (fun v s₁ h₁ => ?_) fun _ _ x => x)
  refine nmG fun gG9 kG9 => ?_
  refine ex3 (h₁) ?_
  intro e oe t y9w1
  refine an6 (y9w1) ?_
  intro y9z2 hC he hc hd hE
  clear y9w1
  try clear h₁
  subst y9z2
  obtain ⟨hp, g, d, tk, os⟩ := s₁
  obtain ⟨oc, od, oda, osl⟩ := oe
  refine kG9 ?_
  clear kG9 gG9
  dsimp only at hc hd
  subst hc hd
  repeat (first | with_reducible refine wpAny_loadPart_at he ?_ | with_reducible refine wpAny_loadPart_at hC ?_ | (with_reducible refine wpAny_isSubtype_exc hC ?_; rw [hcB]) | wp_step)
  exact wpAny_raiseNew_none hh hE
theorem exec_raise {s : Shared} {f : Expr} {args : List Expr} {cpos pos : Pos} {Q : Flow → Shared → Prop} (hbase : bm.contains (.type "BaseException") = true) (hh : A.handled = none)
    (h : wpAny M A (eval (.Call f args [] cpos) env) (fun v s₁ => ∃ e oe t, v = .ref e ∧ s₁.heap.get? C = some (excClassObj nm q C N bs bm hdct sn sub ab col dd k0 k1 k2 k3 k5 newId) ∧
      s₁.heap.get? e = some oe ∧ oe.cls = .ref C ∧ oe.data = .fields #[.ref t, .none, .none, .none, .bool false, .none] ∧ E (.ref e) s₁) E s) :
    wpAny M A (exec (.Raise (some (.Call f args [] cpos)) none pos) env) Q E s := by
  rw [arm_exec_Raise]
  refine wpAny_bind (wpAny_standAt (raise_made (C := C) (nm := nm) (q := q) (N := N) (bs := bs) (bm := bm) (hdct := hdct) (sn := sn) (sub := sub) (ab := ab) (col := col) (dd := dd) (k0 := k0) (k1 := k1) (k2 := k2) (k3 := k3) (k5 := k5) (newId := newId) hbase hh ?_))
  exact wpAny_bind (wpAny_mono h (fun v s₃ h₃ => wpAny_bind (wpAny_standAt (wpAny_pure h₃))) fun _ _ x => x)
end
section
variable {prog : Program} {w : World} {A : Around} {R : Result → Shared → Prop} {h : Heap} {g : Array GenState} {d : Drawn} {t : Nat} {os : OsState}
variable {nm q : Str} {C N : Addr} {bs bm : List Value} {hdct : Bool} {sn : List Str} {sub : List Value} {ab : Bool} {col : Option Bool} {dd : Option Addr} {k0 k1 k2 k3 k5 : Option Value} {B newId initId : String}
theorem exc_type_call_own (F : ExcBaseFacts B newId initId bm) {rest : List Value} {f : Addr} {Q : Fin → Shared → Prop} {E : Value → Shared → Prop} (hC : h.get? C = some (excClassObj nm q C N bs bm hdct sn sub ab col dd k0 k1 k2 k3 k5 newId))
    (hi : Looks (model prog w) h (typeLookup (.ref C) "__init__") (some (.ref f))) (hb : ∀ self, Looks (model prog w) h (bindSpecial (.ref f) self) (.ref f, [self]))
    (hq : codeAny (model prog w) A (.call (.ref f) ⟨.ref (h.objs.size + 1) :: rest, []⟩) (fun r s' => match r with | .ok (.ret v) => v = .none ∧ Q (.done (.ret (.ref (h.objs.size + 1)))) s' | .ok _ => False | .error e => E e s')
      ⟨(h.push { cls := .type "tuple", data := .seq rest.toArray }).push { cls := .ref C, data := .fields #[.ref h.objs.size, .none, .none, .none, .bool false, .none] }, g, d, t, os⟩) (hrest : rest.length ≤ sizeLine := by size_fits) :
    wpAny (model prog w) A (Builtin.«type.__call__» ⟨.ref C :: rest, []⟩) Q E ⟨h, g, d, t, os⟩ := by
  repeat (first | with_reducible refine wpAny_loadPart_at hC ?_ | with_reducible refine wpAny_madeBy_exc hC ?_ | wp_step)
  refine codeAny_call_builtin_code (Code.quiet_builtin _ F.quiet) (wpAny_check_new_sub F hC ?_)
  refine codeAny_exc_new_sub F hC ?_ hrest
  show wpAny _ _ _ _ _ _
  have hC₁ := Heap.get?_push_of_some { cls := .ref C, data := .fields #[.ref h.objs.size, .none, .none, .none, .bool false, .none] }
    (Heap.get?_push_of_some { cls := .type "tuple", data := .seq rest.toArray } hC)
  have k : ∀ b o, h.get? b = some o → ((h.push { cls := .type "tuple", data := .seq rest.toArray }).push { cls := .ref C, data := .fields #[.ref h.objs.size, .none, .none, .none, .bool false, .none] }).get? b = some o := fun b o e => Heap.get?_push_of_some _ (Heap.get?_push_of_some _ e)
  have hget : ((h.push { cls := .type "tuple", data := .seq rest.toArray }).push
      { cls := .ref C, data := .fields #[.ref h.objs.size, .none, .none, .none, .bool false, .none] }).get? (h.objs.size + 1) = some
      { cls := .ref C, data := .fields #[.ref h.objs.size, .none, .none, .none, .bool false, .none] } := by heap_get
  have hcC : (Value.ref C :: bm).contains (.ref C) = true := by simp
  unfold isInstance
  repeat (first | with_reducible refine wpAny_loadPart_at hget ?_ | (with_reducible refine wpAny_isSubtype_exc hC₁ ?_; rw [hcC]) | wp_step)
  show wpAny _ _ (typeLookup (.ref C) _) _ _ _
  refine (hi.keeps k).at ?_
  refine wpAny_holding (wpAny_bind ((((hb _).keeps k)).at ?_))
  refine wpAny_bind (wpAny_call ?_)
  refine codeAny_mono hq fun r s' z => ?_
  rcases r with e | (v | _ | _ | _) <;> first | exact z | exact z.elim | skip
  obtain ⟨rfl, z⟩ := z
  wp_walk
  exact z
theorem exc_call_own (F : ExcBaseFacts B newId initId bm) {rest : List Value} {f : Addr} {Q E : Value → Shared → Prop} (hC : h.get? C = some (excClassObj nm q C N bs bm hdct sn sub ab col dd k0 k1 k2 k3 k5 newId))
    (hi : Looks (model prog w) h (typeLookup (.ref C) "__init__") (some (.ref f))) (hb : ∀ self, Looks (model prog w) h (bindSpecial (.ref f) self) (.ref f, [self]))
    (hq : codeAny (model prog w) (A.under (.builtin "type.__call__" ⟨.ref C :: rest, []⟩)) (.call (.ref f) ⟨.ref (h.objs.size + 1) :: rest, []⟩) (fun r s' => match r with | .ok (.ret v) => v = .none ∧ Q (.ref (h.objs.size + 1)) s' | .ok _ => False | .error e => E e s')
      ⟨(h.push { cls := .type "tuple", data := .seq rest.toArray }).push { cls := .ref C, data := .fields #[.ref h.objs.size, .none, .none, .none, .bool false, .none] }, g, d, t, os⟩) (hrest : rest.length ≤ sizeLine) :
    wpAny (model prog w) A (call (.ref C) rest) Q E ⟨h, g, d, t, os⟩ := by
  have f1 := tc_lookup
  have f2 := tc_bind (.ref C)
  have hT : (⟨h, g, d, t, os⟩ : Shared).TypeIs (.ref C) "type" := ⟨_, hC, rfl⟩
  refine wpAny_call (codeAny_of_tree ?_)
  show wpAny _ _ (callAny (.ref C) _) _ _ _
  repeat (any_goals (first | assumption | with_reducible refine wpAny_loadPart_at hC ?_ | wp_step))
  refine ⟨rfl, ?_⟩
  refine codeAny_call_builtin_at (Code.quiet_builtin _ (by decide +kernel)) entry_typeCall (wpAny_check_type_call_sub hC (exc_type_call_own (hrest := hrest) F hC hi hb ?_))
  exact hq
end
section
variable {prog : Program} {w : World} {A : Around} {K : Frag} {C x : Addr} {s : Shared} {h₀ : Heap} {L : Addr} {m : Str → Option Value} {news : List (Addr × Obj)} {R : Result → Shared → Prop}
theorem refuse_exc (self : Value) (C : Addr) : refuseLoop self "__setattr__" [.ref C, .type "Exception", .type "BaseException", .type "object"] = pure () := by
  rw [refuseLoop_ref]
  kernel_rfl
theorem osa_exc {ox : Obj} {od : Option Obj} {name : Str} {tk : Tok} {v : Value} {cd : ClassData} (X : K.In s.heap) (I : InstAt s.heap x ox C od) (hc : clsIn K C = some cd) (hmro : cd.mro = [.ref C, .type "Exception", .type "BaseException", .type "object"]) (ht : takerIn K C name = some none)
    (h : ∀ b, wpAny (model prog w) A.in1 (storeInOwnDict (.ref x) (.ref C) (.str name tk) name v b)
      (fun fin s' => match fin with | .done f => R (.ok f) s' | .again c' => c'.quiet = true ∧ codeAny (model prog w) A c' R s') (fun e s' => R (.error e) s') s) :
    codeAny (model prog w) A (.call (.builtin "object.__setattr__") ⟨[.ref x, .str name tk, v], []⟩) R s := by
  have SF := PySem.F.store_object
  have ne : cd.mro.isEmpty = false := by rw [hmro]; rfl
  have sub : Looks (model prog w) s.heap (isInstance (.ref x) (.type "object")) true := I.type.andThen (looks_mroIn X (by unfold mroIn; rw [hc, Option.bind_some, if_neg (by rw [ne]; decide), hmro]; simp))
  refine codeAny_call_builtin SF.slot.plain SF.entry (@check_slot (model prog w) _ _ s "object.__setattr__" "object" "__setattr__" (.ref x) [.str name tk, v] [] _ SF.kind SF.split sub (SF.args (.ref x) (.str name tk) v) ?_)
  refine nmG fun gG9 kG9 => ?_
  obtain ⟨attr, ha, hr⟩ := Option.bind_eq_some_iff.mp ht
  refine kG9 ?_
  clear kG9 gG9
  have hm : Looks (model prog w) s.heap (mroOf (.ref C)) cd.mro := (looks_clsIn X hc).andThen .now
  have L3 : Looks (model prog w) s.heap (storeTaker? attr) none := by
    cases attr with
    | none => exact .now
    | some a =>
      refine nmG fun gG9 kG9 => ?_
      obtain ⟨b, hb, hb2⟩ := Option.map_eq_some_iff.mp hr
      refine kG9 ?_
      clear kG9 gG9
      refine (looks_takesIn X hb).andThen ?_
      cases b
      · exact .now
      · cases hb2
  rw [osa_eq, refuse_eq]
  refine wpAny_bind (wpAny_bind (I.type.here (wpAny_bind (hm.here ?_))))
  rw [hmro, refuse_exc]
  refine wpAny_pure (wpAny_bind (I.type.here (wpAny_bind ((looks_findIn X ha).here (wpAny_bind (L3.here ?_))))))
  exact h _
theorem exc_set_dict {E : Value → Shared → Prop} {ox : Obj} {od od' : Obj} {dx : Addr} {name : Str} {v : Value} {pre post : List (Addr × Obj)} {es : List DictEntry} {n : Nat} {cd : ClassData} {Q : Unit → Shared → Prop} (F : Fr h₀ L s.heap m) (X₀ : K.In h₀) (N : News h₀ L s.heap (pre ++ (dx, od) :: post))
    (I : InstAt s.heap x ox C (some od)) (hd : ox.dict = some dx) (hc : clsIn K C = some cd) (hmro : cd.mro = [.ref C, .type "Exception", .type "BaseException", .type "object"]) (hd' : cd.hasDict = true) (ht : takerIn K C name = some none)
    (hs : findIn K (.ref C) "__setattr__" = some (some (.builtin "object.__setattr__")))
    (hl : (lookIn name od).isSome = true) (h1 : ∀ p ∈ pre, p.1 ≠ dx) (h2 : ∀ p ∈ post, p.1 ≠ dx)
    (e : Obj.putName name (PyData.keyHash w.params name) (.str name (s.toks + 1)) v od = od') (e' : od'.data = .dict es.toArray n) (hz : es.length ≤ 1000)
    (h : ∀ h', Fr h₀ L h' m → News h₀ L h' (pre ++ (dx, od') :: post) → Q () { s with heap := h', toks := s.toks + 2 }) :
    wpAny (model prog w) A (setAttr (.ref x) name v) Q E s := by
  have X := X₀.keeps F.keep
  refine set_plain X I hs (osa_exc (s := { s with toks := s.toks + 1 }) X I hc hmro ht fun b => ?_)
  refine nmG fun gG9 kG9 => ?_
  obtain ⟨U1, U2⟩ := PySem.W.news_upd (f := Obj.putName name (PyData.keyHash w.params name) (.str name (s.toks + 1)) v) F N h1 h2 e (by obtain ⟨_, _, dd, _⟩ := od'; cases e'; rfl)
  have D := (N (dx, od) (by simp)).1
  have D' := (U2 (dx, od') (by simp)).1
  obtain ⟨hx, hcl, hn, -⟩ := I
  obtain ⟨oc, odi, oda, osl⟩ := ox
  refine kG9 ?_
  clear kG9 gG9
  dsimp only at hcl hd
  subst hcl hd
  refine wpAny_bind (wpAny_pure (wpAny_bind (wpAny_bind (wpAny_loadPart hx (wpAny_bind ((looks_clsIn X hc).at ?_))))))
  rw [hd']
  refine wpAny_pure (a := some dx) (wpAny_bind (wpAny_pure (wpAny_bind ?_)))
  unfold nsSet
  refine wpAny_bind (wpAny_bind (wpAny_askSetting (wpAny_pure (wpAny_bind (wpAny_mkText (wpAny_bind (wpAny_loadPart D ?_)))))))
  unfold lookIn at hl
  split at hl
  · rename_i es₀ n₀ q
    rw [q]
    dsimp only
    have c : (!es₀.any (·.key.isStr name) && es₀.any (·.refKey)) = false := by
      rw [← Array.any_toList, ← Array.any_toList]
      split at hl
      · rename_i en he
        rw [List.any_eq_true.mpr ⟨en, List.mem_of_find?_eq_some he, List.find?_some he⟩]; rfl
      · split at hl
        · cases hl
        · rename_i z; rw [Bool.not_eq_true] at z; rw [z, Bool.and_false]
    rw [aRefKeyMayBeTheName_at, c]
    refine wpAny_updatePart D ?_
    refine wpAny_bind (wpAny_lookBehind D' (by rw [e']; exact pastItsLine_dict (by rw [List.size_toArray, sizeLine_eq]; omega)) ?_)
    exact wpAny_pure (h _ U1 U2)
  · cases hl
end
section
variable {prog : Program} {w : World} {A : Around} {K : Frag} {C x : Addr} {s : Shared} {h₀ : Heap} {L : Addr} {m : Str → Option Value} {news : List (Addr × Obj)}
theorem exc_set_first {E : Value → Shared → Prop} {oda : Array Value} {osl : Array (Option Value)} {name : Str} {v : Value} {pre post : List (Addr × Obj)} {cd : ClassData} {Q : Unit → Shared → Prop} (F : Fr h₀ L s.heap m) (X₀ : K.In h₀) (N : News h₀ L s.heap (pre ++ (x, ⟨.ref C, none, .fields oda, osl⟩) :: post))
    (hc : clsIn K C = some cd) (hmro : cd.mro = [.ref C, .type "Exception", .type "BaseException", .type "object"]) (hd' : cd.hasDict = true) (ht : takerIn K C name = some none)
    (hs : findIn K (.ref C) "__setattr__" = some (some (.builtin "object.__setattr__")))
    (h1 : ∀ p ∈ pre, p.1 ≠ x) (h2 : ∀ p ∈ post, p.1 ≠ x)
    (h : ∀ dx od' h', Obj.putName name (PyData.keyHash w.params name) (.str name (s.toks + 1)) v emptyDict = od' → Fr h₀ L h' m → News h₀ L h' ((dx, od') :: (pre ++ (x, ⟨.ref C, some dx, .fields oda, osl⟩) :: post)) → (∀ p ∈ pre ++ (x, (⟨.ref C, none, .fields oda, osl⟩ : Obj)) :: post, p.1 < dx) → Q () { s with heap := h', toks := s.toks + 2 }) :
    wpAny (model prog w) A (setAttr (.ref x) name v) Q E s := by
  have X := X₀.keeps F.keep
  have hx : s.heap.get? x = some ⟨.ref C, none, .fields oda, osl⟩ := (N (x, ⟨.ref C, none, .fields oda, osl⟩) (by simp)).1
  have I : InstAt s.heap x ⟨.ref C, none, .fields oda, osl⟩ C none := ⟨hx, rfl, rfl, trivial⟩
  refine set_plain X I hs (osa_exc (s := { s with toks := s.toks + 1 }) X I hc hmro ht fun b => ?_)
  refine wpAny_bind (wpAny_pure (wpAny_bind (wpAny_bind (wpAny_loadPart hx (wpAny_bind ((looks_clsIn X hc).at ?_))))))
  rw [hd']
  have N1 := N.push F emptyDict
  have F1 := F.push emptyDict
  have lt : ∀ p ∈ pre ++ (x, (⟨.ref C, none, .fields oda, osl⟩ : Obj)) :: post, p.1 < s.heap.objs.size := fun p hp => Heap.lt_size (N p hp).1
  have hxs : x ≠ s.heap.objs.size := Nat.ne_of_lt (lt _ (by simp : (x, (⟨.ref C, none, .fields oda, osl⟩ : Obj)) ∈ _))
  refine nmG fun gG9 kG9 => ?_
  obtain ⟨F2, N2⟩ := PySem.W.news_upd (f := fun o : Obj => { o with dict := some s.heap.objs.size }) (pre := (s.heap.objs.size, emptyDict) :: pre) F1 N1 (fun p hp => by
    rcases mcs hp with rfl | hp
    · exact hxs.symm
    · exact h1 p hp) h2 rfl rfl
  obtain ⟨F3, N3⟩ := PySem.W.news_upd (f := Obj.putName name (PyData.keyHash w.params name) (.str name (s.toks + 1)) v) (pre := []) F2 N2 (fun p hp => nomatch hp) (fun p hp => by
    have hp' : p ∈ pre ∨ p.1 = x ∨ p ∈ post := by
      rcases List.mem_append.mp hp with hp | hp
      · exact .inl hp
      rcases mcs hp with rfl | hp
      · exact .inr (.inl rfl)
      · exact .inr (.inr hp)
    rcases hp' with hp | hp | hp
    · exact Nat.ne_of_lt (lt p (List.mem_append_left _ hp))
    · rw [hp]; exact hxs
    · exact Nat.ne_of_lt (lt p (List.mem_append_right _ (.tail _ hp)))) rfl (by rfl)
  refine kG9 ?_
  clear kG9 gG9
  rw [if_neg (by decide)]
  show wpAny _ _ (alloc emptyDict >>= fun d => update x (fun o => { o with dict := some d }) >>= fun _ => dictMade (.ref C) x d) _ _ _
  refine wpAny_bind (wpAny_alloc (wpAny_bind (wpAny_update (o := ⟨.ref C, none, .fields oda, osl⟩) (Heap.get?_push_of_some _ hx) (wpAny_bind (wpAny_pure (wpAny_pure ?_))))))
  refine wpAny_bind (wpAny_pure (wpAny_bind ?_))
  have D := (N2 (s.heap.objs.size, emptyDict) (.head _)).1
  have D' := (N3 (s.heap.objs.size, Obj.putName name (PyData.keyHash w.params name) (.str name (s.toks + 1)) v emptyDict) (.head _)).1
  unfold nsSet
  refine wpAny_bind (wpAny_bind (wpAny_askSetting (wpAny_pure (wpAny_bind (wpAny_mkText (wpAny_bind (wpAny_loadPart D ?_)))))))
  refine wpAny_updatePart D ?_
  refine wpAny_bind (wpAny_lookBehind D' ?_ ?_)
  · have e0 : Obj.putName name (PyData.keyHash w.params name) (.str name (s.toks + 1)) v emptyDict = PySem.W.dictOf (putL name (PyData.keyHash w.params name) (.str name (s.toks + 1)) v []) (putN name [] 0) := putName_dict _ _ _ _ [] 0
    rw [e0]
    exact pastItsLine_dict (by rw [sizeLine_eq]; show (putL name (PyData.keyHash w.params name) (.str name (s.toks + 1)) v []).toArray.size ≤ _; rw [List.size_toArray]; show 1 ≤ _; decide)
  · exact wpAny_pure (h _ _ _ rfl F3 N3 lt)
end
section
variable {w : World} {mean : ExcName → Option Value} {mg mb : Str → Option Value} {dp un : Nat} {gd : Option (List Code)} {cn : Str} {cs : Scope} {a : Addr} {ccd : Value} {cl : List (Str × Addr)} {outer : List Env} {A₀ : Around} {base h₀ : Heap} {L : Addr} {m : Str → Option Value} {s : Shared} {Q E : Value → Shared → Prop} {news : List (Addr × Obj)}
noncomputable def NagD (es : List DictEntry) (v1 v2 v3 : Value) : Prop := ∃ h1 h2 h3 k1 k2 k3, es = [⟨h1, .str "lineno" k1, v1⟩, ⟨h2, .str "msg" k2, v2⟩, ⟨h3, .str "line" k3, v3⟩]
noncomputable abbrev nagO (t : Addr) (d : Option Addr) : Obj := { cls := .ref 109, dict := d, data := .fields #[.ref t, .none, .none, .none, .bool false, .none] }
theorem under_tc (C : Addr) (vals : List Value) : (ktrTop dp un gd cn cs L a ccd cl outer).under (.builtin "type.__call__" ⟨.ref C :: vals, []⟩) = ktrTop (dp + 1) (un + 1) gd cn cs L a ccd cl outer := by rfl
theorem lt_ne {pre nn : List (Addr × Obj)} {e dx : Addr} {o o' : Obj} (h : ∀ p ∈ pre ++ (e, o) :: nn, p.1 < dx) : ∀ p ∈ pre ++ (e, o') :: nn, p.1 ≠ dx := by
  intro p hp
  rcases List.mem_append.mp hp with hp | hp
  · exact Nat.ne_of_lt (h p (List.mem_append_left _ hp))
  rcases mcs hp with rfl | hp
  · exact Nat.ne_of_lt (h (e, o) (List.mem_append_right _ (.head _)))
  · exact Nat.ne_of_lt (h p (List.mem_append_right _ (.tail _ hp)))
theorem put1 (h : Int) (t : Tok) (v : Value) : putL "lineno" h (.str "lineno" t) v [] = [⟨h, .str "lineno" t, v⟩] := rfl
theorem put2 (h h1 : Int) (t t1 : Tok) (v v1 : Value) : putL "msg" h (.str "msg" t) v [⟨h1, .str "lineno" t1, v1⟩] = [⟨h1, .str "lineno" t1, v1⟩, ⟨h, .str "msg" t, v⟩] := by with_unfolding_all rfl
theorem put3 (h h1 h2 : Int) (t t1 t2 : Tok) (v v1 v2 : Value) : putL "line" h (.str "line" t) v [⟨h1, .str "lineno" t1, v1⟩, ⟨h2, .str "msg" t2, v2⟩] = [⟨h1, .str "lineno" t1, v1⟩, ⟨h2, .str "msg" t2, v2⟩, ⟨h, .str "line" t, v⟩] := by with_unfolding_all rfl
theorem news_nag {h₀ h : Heap} {L dx e : Addr} {es : List DictEntry} {n : Nat} {D : Addr × Obj} {nn : List (Addr × Obj)} {o1 : Obj} (N : News h₀ L h ([] ++ (dx, dictOf es n) :: ([D] ++ (e, o1) :: nn))) : News h₀ L h ((e, o1) :: (dx, dictOf es n) :: nn) := by
  intro p hp
  rcases mcs hp with rfl | hp
  · exact N _ (.tail _ (.tail _ (.head _)))
  rcases mcs hp with rfl | hp
  · exact N _ (.head _)
  · exact N _ (.tail _ (.tail _ (.tail _ hp)))
theorem nag_init (C : At w mean mg mb 1 dp un cs outer A₀ base h₀ L m news s.heap) {e t : Addr} {k : Int} {x y : Str} {t1 t2 t3 : Tok} {nn : List (Addr × Obj)} (hnw : news = (e, nagO t none) :: nn) (hne : ∀ p ∈ nn, p.1 ≠ e)
  {R : Result → Shared → Prop}
  (hret : ∀ (dx : Addr) (es : List DictEntry) (n : Nat) (h' : Heap) (tk' : Nat), NagD es (.int k t1) (.str x t2) (.str y t3) → (∀ p ∈ nn, p.1 ≠ dx) → dx ≠ e →
    Fr h₀ L h' m → News h₀ L h' ((e, nagO t (some dx)) :: (dx, dictOf es n) :: nn) → R (.ok (.ret .none)) { s with heap := h', toks := tk' }) :
  codeAny (model PySem.Challenge.rw_xe0048_01.row.prog w) (ktrTop (dp + 1) (un + 1) gd cn cs L a ccd cl outer) (.call (.ref 85) ⟨[.ref e, .int k t1, .str x t2, .str y t3], []⟩) R s := by
  k_with_none
  refine nmG fun gG9 kG9 => ?_
  obtain ⟨B, F, X, N, T, kf, hd, hu⟩ := C
  refine kG9 ?_
  clear kG9 gG9
  revert X
  k_fill
  intro X
  k_dflt cell_enter
  k_steps
  (with_reducible rename News _ _ _ _ => N1)
  (with_reducible rename Fr _ _ _ _ => F1)
  (with_reducible rename Frag.In _ _ => X1)
  rw [hnw] at N1
  refine exc_set_first (pre := [_]) (post := nn) F1 X1 N1 (by rfl) (by rfl) (by rfl) (by k_is) (by k_is) (fun p hp => ?_) hne ?_
  · rw [List.mem_singleton.mp hp]; exact ne_data N1 (.head _) (.tail _ (.head _)) (by simp)
  intro dx od' h2 e2 F2 N2 l2
  rw [show emptyDict = dictOf [] 0 from rfl, putName_dict] at e2
  subst e2
  have hde : e ≠ dx := Nat.ne_of_lt (l2 _ (by simp : (e, nagO t none) ∈ _))
  have hdo := lt_ne (o' := nagO t (some dx)) l2
  rw [put1] at N2
  k_steps
  refine exc_set_dict (pre := []) F2 X1 N2 (ox := nagO t (some dx)) ⟨(N2 _ (by simp : (e, nagO t (some dx)) ∈ _)).1, rfl, rfl, (N2 _ (.head _)).1⟩ rfl (by rfl) (by rfl) (by rfl) (by k_is) (by k_is) (by with_unfolding_all rfl) (fun p hp => nomatch hp) hdo (putName_dict _ _ _ _ _ _) rfl ?_ ?_
  · rw [put2]; exact Nat.le_of_ble_eq_true rfl
  intro h3 F3 N3
  rw [put2] at N3
  k_steps
  refine exc_set_dict (pre := []) F3 X1 N3 (ox := nagO t (some dx)) ⟨(N3 _ (by simp : (e, nagO t (some dx)) ∈ _)).1, rfl, rfl, (N3 _ (.head _)).1⟩ rfl (by rfl) (by rfl) (by rfl) (by k_is) (by k_is) (by with_unfolding_all rfl) (fun p hp => nomatch hp) hdo (putName_dict _ _ _ _ _ _) rfl ?_ ?_
  · rw [put3]; exact Nat.le_of_ble_eq_true rfl
  intro h4 F4 N4
  rw [put3] at N4
  k_steps
  (with_reducible rename News h₀ _ _ _ => N5)
  (with_reducible rename Fr h₀ _ _ _ => F5)
  refine hret dx _ _ h4 _ ?_ (fun p hp => hdo p (List.mem_append_right _ (.tail _ hp))) hde.symm F5 (news_nag N5)
  exact ⟨_, _, _, _, _, _, rfl⟩
noncomputable abbrev nagT (k : Int) (x y : Str) (t1 t2 t3 : Tok) : Obj := { cls := .type "tuple", data := .seq [.int k t1, .str x t2, .str y t3].toArray }
theorem nag_make (C : At w mean mg mb 2 dp un cs outer A₀ base h₀ L m news s.heap) {k : Int} {x y : Str} {t1 t2 t3 : Tok}
  (hret : ∀ (e t dx : Addr) (es : List DictEntry) (n : Nat) (h' : Heap) (tk' : Nat), NagD es (.int k t1) (.str x t2) (.str y t3) → (∀ p ∈ news, p.1 ≠ dx) → (∀ p ∈ news, p.1 ≠ e) → dx ≠ e →
    Fr h₀ L h' m → News h₀ L h' ((e, nagO t (some dx)) :: (dx, dictOf es n) :: (t, nagT k x y t1 t2 t3) :: news) → Q (.ref e) { s with heap := h', toks := tk' }) :
  wpAny (model PySem.Challenge.rw_xe0048_01.row.prog w) (ktrTop dp un gd cn cs L a ccd cl outer) (call (.ref 109) [.int k t1, .str x t2, .str y t3]) Q E s := by
  have CX := C
  refine nmG fun gG9 kG9 => ?_
  obtain ⟨B, F, X, N, T, kf, hd, hu⟩ := C
  obtain ⟨hh, g, d, t, os⟩ := s
  refine kG9 ?_
  clear kG9 gG9
  have XH := X.keeps F.keep
  have N1 := (N.push F (nagT k x y t1 t2 t3)).push (F.push _) (nagO hh.objs.size none)
  rw [Heap.size_push] at N1
  have F1 := (F.push (nagT k x y t1 t2 t3)).push (nagO hh.objs.size none)
  have hlt : ∀ p ∈ news, p.1 < hh.objs.size := fun p hp => Heap.lt_size (N p hp).1
  refine exc_call_own (B := "Exception") (initId := "Exception.__init__") PySem.F.excBase_Exception (f := 85) (XH 109 _ rfl) (looks_findIn XH (by rfl)) (fun self => bind_fn XH self (by rfl)) ?_ (by rw [sizeLine_eq]; show 3 ≤ _; decide)
  rw [under_tc]
  refine nag_init (mean := mean) (mg := mg) (mb := mb) (base := base) (A₀ := A₀) (s := ⟨_, g, d, t, os⟩) ⟨B, F1, X, N1, T, kf, by omega, by omega⟩ rfl ?_ ?_
  · intro p hp
    rcases mcs hp with rfl | hp
    · exact Nat.ne_of_lt (Nat.lt_succ_self _)
    · exact Nat.ne_of_lt (Nat.lt_succ_of_lt (hlt p hp))
  · intro dx es n h' tk' g1 h1 h2 F2 N2
    exact ⟨rfl, hret _ _ dx es n h' tk' g1 (fun p hp => h1 p (.tail _ hp)) (fun p hp => Nat.ne_of_lt (Nat.lt_succ_of_lt (hlt p hp))) h2 F2 N2⟩
end
end Mine
end
theorem Mine.rstL11 : True := by
  w_top off
  trivial
section
open PySem PySem.W PyProof.Rows PySem.Calls PySem.Spec PyProof.V
set_option Elab.async false
set_option maxRecDepth 100000
set_option maxHeartbeats 1000000
namespace Mine
/-- a tree that calls nothing and leaves the `dict` of every object alone -/
inductive Tame {α : Type} : Sem α → Prop
  | pure (a : α) : Tame (.pure a)
  | raise (e : Value) : Tame (.raise e)
  | unsup (x : String) : Tame (.unsupported x)
  | reg (a : Addr) (k : Unit → Sem α) : Tame (.register a k)
  | rule (x : String) (k : Unit → Sem α) : Tame (k ()) → Tame (.rule x k)
  | at (p : Pos) (k : Unit → Sem α) : Tame (k ()) → Tame (.at p k)
  | load (a : Addr) (p : Option Value) (k : Obj → Sem α) : (∀ o, Tame (k o)) → Tame (.load a p k)
  | update (a : Addr) (p : Option Value) (f : Obj → Obj) (k : Unit → Sem α) : (∀ o : Obj, o.isFreed = false → (f o).dict = o.dict ∧ (f o).isFreed = false) → Tame (k ()) → Tame (.update a p f k)
  | alloc (o : Obj) (k : Addr → Sem α) : (∀ a, Tame (k a)) → Tame (.alloc o k)
  | stack (k : List (Code × Pos) → Sem α) : (∀ a, Tame (k a)) → Tame (.stack k)
noncomputable def DictKept (h h' : Heap) : Prop := ∀ b o, h.get? b = some o → ∃ o', h'.get? b = some o' ∧ o'.dict = o.dict
theorem DictKept.refl (h : Heap) : DictKept h h := fun _ o e => ⟨o, e, rfl⟩
theorem DictKept.trans {h₁ h₂ h₃ : Heap} (a : DictKept h₁ h₂) (b : DictKept h₂ h₃) : DictKept h₁ h₃ := fun x o e =>
  let ⟨o1, e1, d1⟩ := a x o e
  let ⟨o2, e2, d2⟩ := b x o1 e1
  ⟨o2, e2, d2.trans d1⟩
theorem dictKept_update {h : Heap} {a : Addr} {f : Obj → Obj} (hf : ∀ o : Obj, o.isFreed = false → (f o).dict = o.dict ∧ (f o).isFreed = false) : DictKept h (h.update a f) := by
  intro b o e
  by_cases q : a = b
  · subst q
    have hn := (Heap.get?_some_iff.mp e).2
    exact ⟨f o, Heap.get?_update_self f e (hf o hn).2, (hf o hn).1⟩
  · exact ⟨o, (Heap.get?_update_other _ _ q).trans e, rfl⟩
theorem dictKept_push {h : Heap} {o : Obj} : DictKept h (h.push o) := fun _ o' e => ⟨o', Heap.get?_push_of_some _ e, rfl⟩
theorem tame_wp {M : Model} {Γ : PySem.Ctx} {α : Type} {t : Sem α} (T : Tame t) : ∀ (h₀ : Heap) (Q : α → Pos → Shared → Prop) (E : Value → Pos → Shared → Prop) (p : Pos) (s : Shared), DictKept h₀ s.heap → Sem.wp M Γ t Q E p s →
    Sem.wp M Γ t (fun a p' s' => Q a p' s' ∧ DictKept h₀ s'.heap) (fun e p' s' => E e p' s' ∧ DictKept h₀ s'.heap) p s := by
  induction T with
  | pure a => exact fun _ _ _ _ _ d h => ⟨h, d⟩
  | raise e => exact fun _ _ _ _ _ d h => ⟨h, d⟩
  | unsup x => exact fun _ _ _ _ _ _ h => h
  | reg a k => exact fun _ _ _ _ _ _ h => h
  | rule x k _ ih => exact fun h₀ Q E p s d h => ih h₀ Q E p s d h
  | «at» p' k _ ih => exact fun h₀ Q E p s d h => ih h₀ Q E p' s d h
  | load a p' k _ ih => exact fun h₀ Q E p s d h => let ⟨o, e, h⟩ := h; ⟨o, e, ih o h₀ Q E p s d h⟩
  | update a p' f k hf _ ih => exact fun h₀ Q E p s d h => ⟨h.1, ih h₀ Q E p _ (d.trans (dictKept_update hf)) h.2⟩
  | alloc o k _ ih => exact fun h₀ Q E p s d h => ih _ h₀ Q E p _ (d.trans dictKept_push) h
  | stack k _ ih => exact fun h₀ Q E p s d h => ih _ h₀ Q E p _ d h
theorem tame_any {M : Model} {A : Around} {α : Type} {t : Sem α} (T : Tame t) {Q : α → Shared → Prop} {E : Value → Shared → Prop} {s : Shared} (h : wpAny M A t Q E s) :
    wpAny M A t (fun a s' => Q a s' ∧ DictKept s.heap s'.heap) (fun e s' => E e s' ∧ DictKept s.heap s'.heap) s :=
  fun Γ p hΓ => tame_wp T s.heap _ _ p s (.refl _) (h Γ p hΓ)
theorem Tame.bind {α β : Type} {f : α → Sem β} {t : Sem α} (T : Tame t) (g : ∀ a, Tame (f a)) : Tame (t >>= f) := by
  induction T with
  | pure a => exact g a
  | raise e => exact .raise e
  | unsup x => exact .unsup x
  | reg a k => exact .reg a _
  | rule x k _ ih => exact .rule x _ ih
  | «at» p' k _ ih => exact .at p' _ ih
  | load a p' k _ ih => exact .load a p' _ ih
  | update a p' f k hf _ ih => exact .update a p' f _ hf ih
  | alloc o k _ ih => exact .alloc o _ ih
  | stack k _ ih => exact .stack _ ih
theorem tame_load (a : Addr) : Tame (load a) := .load _ _ _ fun o => .pure o
theorem mapFields_tame (f : Array Value → Array Value) : ∀ o : Obj, o.isFreed = false → (o.mapFields f).dict = o.dict ∧ (o.mapFields f).isFreed = false := by
  intro hz9
  refine nmG fun gG9 kG9 => ?_
  obtain ⟨c, d, dt, sl⟩ := hz9
  refine kG9 ?_
  clear kG9 gG9
  intro h
  cases dt <;> first | exact ⟨rfl, rfl⟩ | exact ⟨rfl, h⟩
theorem tame_update (a : Addr) (f : Obj → Obj) (hf : ∀ o : Obj, o.isFreed = false → (f o).dict = o.dict ∧ (f o).isFreed = false) : Tame (update a f) := .update _ _ _ _ hf (.pure ())
theorem tame_field (v : Value) (i : Nat) : Tame (field v i) := by
  unfold field fieldsOf
  refine Tame.bind ?_ fun x => ?_
  · split
    · refine Tame.bind (tame_load _) fun o => ?_
      split
      · exact .pure _
      · exact .unsup _
    · exact .unsup _
  · split
    · exact .pure _
    · exact .unsup _
theorem tame_setField (v : Value) (i : Nat) (x : Value) : Tame (setField v i x) := by
  unfold setField updateField
  split
  · refine Tame.bind (tame_load _) fun o => ?_
    split
    · split
      · exact tame_update _ _ (mapFields_tame _)
      · exact .unsup _
    · exact .unsup _
  · exact .unsup _
theorem tame_setFlight (e : Value) (f : Option Addr) : Tame (setFlight e f) := by
  unfold setFlight
  refine Tame.bind (tame_field _ _) fun tb => ?_
  split
  · exact tame_setField _ _ _
  · exact .pure _
theorem tame_stack : Tame stack := .stack _ fun a => .pure a
theorem tame_frameEnvs : Tame frameEnvs := tame_stack.bind fun _ => .pure _
theorem tame_behind (env : Env) (outer : List Env) : Tame (behindIsImport env outer) := by
  unfold behindIsImport
  split
  · exact .pure _
  · split
    · exact .pure _
    · exact (tame_field _ _).bind fun _ => .pure _
theorem tame_keptBack (env : Env) (i : Bool) (l : List Env) : Tame (keptBack env i l) := by
  unfold keptBack
  split
  · split
    · exact .pure _
    · unfold underTheClaimsCaller
      exact (tame_stack.bind fun _ => .pure _).bind fun _ => .pure _
  · exact .pure _
theorem tame_ready : ∀ l : List Env, Tame (readyFrames l)
  | [] => .pure _
  | env :: outer => by
    unfold readyFrames
    split
    · refine (tame_load _).bind fun o => ?_
      split
      · exact .pure _
      · refine (tame_behind _ _).bind fun i => (tame_keptBack _ _ _).bind fun b => (tame_update _ _ ?_).bind fun _ => tame_ready outer
        intro hz9
        refine nmG fun gG9 kG9 => ?_
        obtain ⟨c, d, dt, sl⟩ := hz9
        refine kG9 ?_
        clear kG9 gG9
        intro h
        cases dt <;> first | exact ⟨rfl, rfl⟩ | exact ⟨rfl, h⟩
    · exact .unsup _
theorem tame_frameObject (l : List Env) : Tame (frameObject l) := by
  cases l with
  | nil => exact .pure _
  | cons e r => exact (tame_ready _).bind fun _ => .pure _
theorem tame_frameOf (env : Env) : Tame (PySem.frameOf env) := by
  unfold PySem.frameOf
  refine tame_frameEnvs.bind fun l => (tame_frameObject _).bind fun x => ?_
  split
  · exact .pure _
  · exact .unsup _
theorem tame_entryPlaceOf (f : Addr) (b : Bool) : Tame (entryPlaceOf f b) := by
  unfold entryPlaceOf
  refine tame_stack.bind fun l => ?_
  split
  · exact .pure _
  · exact .pure _
theorem tame_newFields (n : String) (vs : List Value) : Tame (newFields n vs) := by
  unfold newFields newObj
  dsimp only
  split
  · exact .unsup _
  · exact .alloc _ _ fun a => .pure _
theorem tame_newEntry (a b c d e : Value) (p : List Value) : Tame (EntryCells.newEntry a b c d e p) := tame_newFields _ _
theorem tame_noteFrame (e : Value) (env : Env) : Tame (noteFrame e env) := by
  unfold noteFrame
  split
  · refine (tame_field _ _).bind fun hd => ?_
    have last : Tame (do setField e 1 (← EntryCells.newEntry hd (← PySem.frameOf env) .none (rawInt ‹Addr›) .none (← entryPlaceOf ‹Addr› (hd != .none)))) :=
      (tame_frameOf _).bind fun a => (tame_entryPlaceOf _ _).bind fun b => (tame_newEntry _ _ _ _ _ _).bind fun c => tame_setField _ _ _
    split
    · refine (tame_field _ _).bind fun x => ?_
      split
      · exact .pure _
      · exact (tame_setField _ _ _).bind fun _ => last
    · exact last
  · exact .unsup _
theorem tame_leaving (env : Env) (e : Value) : Tame (leaving env e) := (tame_noteFrame _ _).bind fun _ => tame_setFlight _ _
end Mine
end
theorem Mine.rstL12 : True := by
  w_top off
  trivial
section
open PySem PySem.W PyProof.Rows PySem.Calls PySem.Spec PyProof.V
set_option Elab.async false
set_option maxRecDepth 100000
set_option maxHeartbeats 1000000
namespace Mine
noncomputable def RaisedD (base G : Heap) (l : List Env) (e : Addr) (cls : Value) (dx : Addr) (news : List (Addr × Obj)) (h : Heap) : Prop :=
  ∃ B a0, base.StaysIn B ∧ (∀ b o, G.get? b = some o → b ∉ l.filterMap (·.frame) → B.get? b = some o) ∧ (∀ q ∈ news, B.get? q.1 = some q.2 ∧ G.get? q.1 = none ∧ base.get? q.1 = none) ∧ Heap.FlyingW B l e cls a0 h ∧ ∃ oe, h.get? e = some oe ∧ oe.dict = some dx
section
variable {M : Model} {A : Around} {E : Value → Shared → Prop} {s' : Shared} {base g g₂ h : Heap} {outer : List Env} {L a e t : Addr} {m : Str → Option Value} {name : Str} {scope : Scope} {cd : Value} {Q : Unit → Shared → Prop} {news : List (Addr × Obj)} {cells : List (Str × Addr)}
theorem push_X (K : Below A base outer g) (F : Fr g L h m) (hk : scope.kind = .function) : Below (A.deeper (envX name scope L a cd cells)) base (envX name scope L a cd cells :: outer) h := by
  have hnew : base.get? L = none := by
    cases hq : base.get? L with
    | none => rfl
    | some o => exact absurd (Nat.lt_of_lt_of_le (Heap.lt_size (K.stays L o hq)) F.above) (Nat.lt_irrefl _)
  refine ⟨Around.frames_deeper K.stack, fun b o e => F.keep b o (K.stays b o e), ?_⟩
  exact .cons (by show scope.kind ≠ .module; rw [hk]; decide) rfl F.ns hnew (K.frames.of_keeps fun b o e _ => ⟨o, F.keep b o e, rfl⟩)
theorem mem_X {b : Addr} (hm : b ∈ (envX name scope L a cd cells :: outer).filterMap (·.frame)) : b = L ∨ b ∈ outer.filterMap (·.frame) := by
  refine nmG fun gG9 kG9 => ?_
  obtain ⟨env, he, hf⟩ := List.mem_filterMap.mp hm
  refine kG9 ?_
  clear kG9 gG9
  rcases mcs he with rfl | he
  · exact .inl (Option.some.inj hf).symm
  · exact .inr (List.mem_filterMap.mpr ⟨env, he, hf⟩)
theorem leave_nag {dx : Addr} {cls t' : Value} {sl : Array (Option Value)} (K : Below A base outer g) (F : Fr g L s'.heap m) (N : News g L s'.heap ((e, ⟨cls, some dx, .fields #[t', .none, .none, .none, .bool false, .none], sl⟩) :: news)) (hne : ∀ q ∈ news, q.1 ≠ e) (hk : scope.kind = .function)
    (hQ : ∀ h', RaisedD base g outer e cls dx news h' → g.UpToSlots h' → Q () { s' with heap := h' }) :
    wpAny M (A.deeper (envX name scope L a cd cells)) (leaving (envX name scope L a cd cells) (.ref e)) Q E s' := by
  have K' := push_X (name := name) (a := a) (cd := cd) (cells := cells) K F hk
  have hin : ∀ env ∈ (envX name scope L a cd cells :: outer), ∀ b, env.frame = some b → b ∈ e :: (envX name scope L a cd cells :: outer).filterMap (·.frame) := fun env he b hb => .tail _ (List.mem_filterMap.mpr ⟨env, he, hb⟩)
  have he := N _ (.head _)
  have hbe : base.get? e = none := fresh_of_stays K.stays he.2.2
  have st : base.StaysIn (hideAll s'.heap (e :: (envX name scope L a cd cells :: outer).filterMap (·.frame))) := fun b o q => hideAll_get _ (K'.stays b o q) fun hm => by
    rcases mcs hm with rfl | hm
    · rw [hbe] at q; cases q
    · rw [(K'.frames.mem hm).1] at q; cases q
  have sg : ∀ b o, g.get? b = some o → b ∉ outer.filterMap (·.frame) → (hideAll s'.heap (e :: (envX name scope L a cd cells :: outer).filterMap (·.frame))).get? b = some o := fun b o q nm => hideAll_get _ (F.keep b o q) fun hm => by
    rcases mcs hm with rfl | hm
    · rw [he.2.2] at q; cases q
    rcases mem_X hm with z | z
    · rw [z, kts_self F] at q
      cases q
    · exact nm z
  have hl : ∀ q ∈ news, (hideAll s'.heap (e :: (envX name scope L a cd cells :: outer).filterMap (·.frame))).get? q.1 = some q.2 ∧ g.get? q.1 = none ∧ base.get? q.1 = none := fun q hq => by
    have hN := N q (.tail _ hq)
    refine ⟨hideAll_get _ hN.1 fun hm => ?_, hN.2.2, fresh_of_stays K.stays hN.2.2⟩
    rcases List.mem_cons.mp hm with hm | hm
    · exact hne q hq hm
    rcases mem_X hm with z | z
    · exact hN.2.1 z
    · obtain ⟨_, o, ho, _⟩ := K.frames.mem z
      rw [hN.2.2] at ho; cases ho
  have W := tame_any (tame_leaving (envX name scope L a cd cells) (.ref e)) (wpAny_leaving_firstW (M := M) (E := E) (Q := fun _ s'' => ∃ h', s'' = { s' with heap := h' } ∧ Heap.LeftW (hideAll s'.heap (e :: (envX name scope L a cd cells :: outer).filterMap (·.frame))) (envX name scope L a cd cells :: outer) e cls t' s'.heap h') (a0 := t') K'.stack (funFrames_hide K'.frames hin) rfl he.1 (fun b o hb => of_hideAll _ hb) (hideAll_none _ (.head _)) rfl rfl rfl fun h' hL => ⟨h', rfl, hL⟩)
  refine wpAny_mono W (fun _ s'' z => ?_) fun _ _ z => z.1
  refine nmG fun gG9 kG9 => ?_
  obtain ⟨⟨h', rfl, k1, ⟨_, _, k2⟩, k3, k4⟩, dk⟩ := z
  obtain ⟨oe, hoe, hde⟩ := dk e _ he.1
  refine kG9 ?_
  clear kG9 gG9
  exact hQ h' ⟨_, t', st, sg, hl, ⟨k1, hideAll_none _ (.head _), k2, k3⟩, oe, hoe, hde⟩ ((Heap.UpToSlots.of_keeps F.keep).trans k4)
end
section
variable {prog : Program} {w : World} {A₀ : Around} {E : Value → Shared → Prop} {s' : Shared} {base g g₀ G : Heap} {outer : List Env} {L a e C dx : Addr} {m : Str → Option Value} {name : Str} {scope : Scope} {cd : Value}
  {n : Str} {b₀ : Stmt} {suite : List Stmt} {pos np : Pos} {rest : List ExceptHandler} {Q : Flow → Shared → Prop} {news : List (Addr × Obj)} {KF : Frag}
  {p : Program} {loose : List Str} {mean : ExcName → Option Value} {mg mb : Str → Option Value} {x y : Str}
theorem caught_nag (R : RaisedD base G (envOf name scope L a cd :: outer) e (.ref C) dx news s'.heap) (F : Fr g L G m) (K : Below A₀ base outer g) (hsm : G.UpToSlots s'.heap) (XB : KF.In base) (TB : Top p loose mean mg mb base)
    (D : KtsDicts (outer.filterMap (·.frame)) g) (T0 : KtsTurn (outer.filterMap (·.frame)) g₀ g)
    (ex : nsIn KF mainGlobals x = some (some (.ref C))) (q : ktsIn KF C "BaseException" = true)
    (k : ∀ h' g' oe vs tk, KtsTurn (outer.filterMap (·.frame)) g₀ g' → Fr g' L h' (fun y => if y = n then some (.ref e) else m y) → News g' L h' ((e, oe) :: news) → oe.cls = .ref C → oe.data = .fields vs → oe.dict = some dx → Below A₀ base outer g' → KF.In g' → Top p loose mean mg mb g' → KtsDicts (outer.filterMap (·.frame)) g' →
      wpAny (model prog w) ((A₀.deeper (envOf name scope L a cd)).mark (some (.ref e))) (execs (b₀ :: suite) (envOf name scope L a cd))
        (fun f s₄ => wpAny (model prog w) (A₀.deeper (envOf name scope L a cd)) (do bindName (envOf name scope L a cd) n .none; unbindBehindTheSuite (envOf name scope L a cd) n pos) (fun _ s₅ => Q f s₅) E s₄)
        (AsSuiteRaised (model prog w) ((A₀.deeper (envOf name scope L a cd)).mark (some (.ref e))) (envOf name scope L a cd) n pos (notedBy (model prog w) ((A₀.deeper (envOf name scope L a cd)).mark (some (.ref e))) (envOf name scope L a cd) (cameBackBy (model prog w) (A₀.deeper (envOf name scope L a cd)) (envOf name scope L a cd) E)))
        { s' with heap := h', toks := tk })
    (hk : scope.kind = .function := by rfl) (hlo : (envOf name scope L a cd).kindOf n = some .local := by rfl) (hx : (envOf name scope L a cd).kindOf x = some .globalImplicit := by rfl) (hd : (x == ("__debug__" : Str)) = false := by decide) :
    wpAny (model prog w) (A₀.deeper (envOf name scope L a cd)) (noteFrame (.ref e) (envOf name scope L a cd))
      (fun _ s₂ => wpAny (model prog w) (A₀.deeper (envOf name scope L a cd)) (setFlight (.ref e) none) (fun _ s₃ =>
        wpAny (model prog w) (A₀.deeper (envOf name scope L a cd)) (handleBy (.ref e) (envOf name scope L a cd) (.ExceptHandler (some (.Name x np)) (some n) (b₀ :: suite) pos :: rest)) Q E s₃) E s₂) E s' := by
  refine nmG fun gG9 kG9 => ?_
  refine ex2 (R) ?_
  intro B a0 y9w1
  refine an5 (y9w1) ?_
  intro hB hBG hl hfl y9w2
  refine ex1 (y9w2) ?_
  intro oe0 y9w3
  refine an2 (y9w3) ?_
  intro hoe0 hde0
  clear y9w3 y9w2 y9w1
  try clear R
  refine kG9 ?_
  clear kG9 gG9
  have hL : B.get? L = none := by
    refine nmG fun gG9 kG9 => ?_
    obtain ⟨_, ⟨L', _, hf, hn', _⟩, _⟩ := hfl.2.2.1
    refine kG9 ?_
    clear kG9 gG9
    obtain rfl : L = L' := Option.some.inj hf
    exact hn'
  refine wpAny_mono (tame_any (tame_noteFrame _ _) (wpAny_looks_onW (E := E) (Q := fun _ s₂ => ∃ h₄, s₂ = { s' with heap := h₄ } ∧ Heap.HeldW B (envOf name scope L a cd :: outer) e (.ref C) a0 L h₄ ∧ s'.heap.UpToSlots h₄) (Around.frames_deeper K.stack) rfl hfl fun h₄ z1 z2 => ⟨h₄, rfl, z1, z2⟩)) ?_ fun _ _ z => z.1
  intro _ s₂ hz9
  refine nmG fun gG9 kG9 => ?_
  obtain ⟨⟨h₄, rfl, hheld₄, hsm₄⟩, dk⟩ := hz9
  obtain ⟨oe1, hoe1, hde1⟩ := dk e _ hoe0
  refine kG9 ?_
  clear kG9 gG9
  refine wpAny_mono (tame_any (tame_setFlight _ _) (wpAny_landsW (E := E) (Q := fun _ s₃ => ∃ h₅, s₃ = { s' with heap := h₅ } ∧ Heap.FlyingW B (envOf name scope L a cd :: outer) e (.ref C) a0 h₅ ∧ h₄.UpToSlots h₅) hheld₄ fun h₅ z1 z2 => ⟨h₅, rfl, z1, z2⟩)) ?_ fun _ _ z => z.1
  intro _ s₃ hz9
  refine nmG fun gG9 kG9 => ?_
  obtain ⟨⟨h₅, rfl, hheld, hsm₅'⟩, dk⟩ := hz9
  obtain ⟨oe2, hoe2, hde2⟩ := dk e _ hoe1
  have hsm₅ := hsm₄.trans hsm₅'
  obtain ⟨g₅, T₅, F₅, K₅⟩ := kts_ground K F hBG hheld.1 (hsm.trans hsm₅)
  have X₅ : KF.In g₅ := XB.keeps K₅.stays
  have P₅ : TopRead p loose mg mb g₅ := topRead_of (TB.keeps K₅.stays)
  obtain ⟨ob, hob, hobc⟩ := hheld.there
  refine ex17 (kts_cls X₅ q) ?_
  intro nm q' N bs bm hdct sn sub ab col dd k0 k1 k2 k3 k5 newId y9w1
  refine an3 (y9w1) ?_
  intro hC hbase hbT
  clear y9w1
  refine kG9 ?_
  clear kG9 gG9
  have hC₅ := F₅.keep _ _ hC
  refine wpAny_handleBy_cons (codeAny_handlers_test (name_K F₅ X₅ P₅ ex ?_ hk hx hd)) (by intro q; cases q)
  refine wpAny_excMatches_sub_self hC₅ hob hobc hbase (codeAny_handlers_suite_as ?_)
  refine wpAny_mono (tame_any (tame_setFlight _ _) (lands_againW (Q := fun _ s₃ => ∃ h₆, s₃ = { s' with heap := h₆ } ∧ Heap.FlyingW B (envOf name scope L a cd :: outer) e (.ref C) a0 h₆ ∧ h₅.UpToSlots h₆) hheld fun h₆ z1 z2 => ⟨h₆, rfl, z1, z2⟩)) ?_ fun _ _ z => z.1
  intro _ s₄ hz9
  refine nmG fun gG9 kG9 => ?_
  obtain ⟨⟨h₆, rfl, hfl₆, hsm₆⟩, dk⟩ := hz9
  obtain ⟨oe3, hoe3, hde3⟩ := dk e _ hoe2
  obtain ⟨g₆, T₆, F₆, K₆⟩ := kts_ground K F hBG hfl₆.1 ((hsm.trans hsm₅).trans hsm₆)
  refine ex2 (hfl₆.first) ?_
  intro oe ws y9w1
  refine an4 (y9w1) ?_
  intro hoe hoec hoed y9z3
  clear y9w1
  clear y9z3
  refine kG9 ?_
  clear kG9 gG9
  have eoe : oe3 = oe := by rw [hoe3] at hoe; exact Option.some.inj hoe
  subst eoe
  have ne₆ : g₆.get? e = none := T₆.none_ _ (kts_fresh F hBG hfl₆.2.1 fun o ho m => by
    refine nmG fun gG9 kG9 => ?_
    obtain ⟨_, o', ho', hd⟩ := K.frames.mem m
    refine kG9 ?_
    clear kG9 gG9
    rw [ho] at ho'
    cases ho'
    obtain ⟨sl, hs⟩ := ((hsm.trans hsm₅).trans hsm₆) _ _ (F.keep _ _ ho) hd
    rw [hoe] at hs
    cases hs
    exact hd _ hoed)
  have N₆ := News.more F₆ News.nil hoe (fun es n q => by rw [hoed] at q; cases q) ne₆
  have Nl : News g₆ L h₆ news := fun q hq => ⟨hfl₆.1 _ _ (hl q hq).1, (fun z => by have := (hl q hq).1; rw [z, hL] at this; cases this), T₆.none_ _ (kts_none F.keep (hl q hq).2.1)⟩
  have X₆ : KF.In g₆ := XB.keeps K₆.stays
  have P₆ : Top p loose mean mg mb g₆ := TB.keeps K₆.stays
  have D₆ : KtsDicts (outer.filterMap (·.frame)) g₆ := D.turn T₆
  refine stN F₆ (news := (e, oe3) :: news) (fun q hq => (List.mem_cons.mp hq).elim (fun z => z ▸ N₆ _ (.head _)) (Nl q)) (fun h₇ F₇ N₇ => ?_) hk hlo
  exact k h₇ g₆ oe3 _ _ (T0.trans T₆) F₇ N₇ hoec hoed (hde3.trans (hde2.trans (hde1.trans hde0))) K₆ X₆ P₆ D₆
end
end Mine
end
theorem Mine.rstL13 : True := by
  w_top off
  trivial
section
open PySem PySem.W PyProof.Rows PySem.Calls PySem.Spec PyProof.V
set_option Elab.async false
set_option maxRecDepth 100000
set_option maxHeartbeats 1000000
namespace Mine
noncomputable def mkWs (t : St) : WsD := { n := t.n, nt := t.nt, b := t.b, cnt := t.cnt, raw := PySem.Str.empty, dx := default, tn := default, tc := default, h1 := 0, h2 := 0, h3 := 0, h4 := 0, h5 := 0, k1 := default, k2 := default, k3 := default, k4 := default, k5 := default, tr := default, tt := default, t2 := default, tb := default, vs := [], e := 0, e1 := 0, e2 := 0 }
noncomputable def stW (W : WsD) : St := ⟨W.cnt, W.b, W.n, W.nt⟩
theorem less_st (W V : WsD) : lessF W V = lessF (mkWs (stW W)) (mkWs (stW V)) := rfl
theorem wit_st (W V : WsD) (n : Nat) : witF W V n = witF (mkWs (stW W)) (mkWs (stW V)) n := rfl
theorem lng_st (W : WsD) : lng W = lng (mkWs (stW W)) := rfl
noncomputable def wsAt (ps : List (List Nat × Nat)) (k : Nat) : WsD := mkWs (scan ((rowAt ps k).cps.toList.takeWhile isB))
noncomputable def WsOf (ps : List (List Nat × Nat)) (k : Nat) (W : WsD) : Prop := stW W = scan ((rowAt ps k).cps.toList.takeWhile isB)
theorem WsOf.mk {ps : List (List Nat × Nat)} {k : Nat} {W : WsD} (h : WsOf ps k W) : mkWs (stW W) = wsAt ps k := by unfold wsAt; rw [h]
noncomputable def lessA (ps : List (List Nat × Nat)) (i j : Nat) : Bool := lessF (wsAt ps i) (wsAt ps j)
noncomputable def eqA (ps : List (List Nat × Nat)) (i j : Nat) : Bool := decide ((wsAt ps i).cnt = (wsAt ps j).cnt ∧ (wsAt ps i).b = (wsAt ps j).b)
noncomputable def witA (ps : List (List Nat × Nat)) (i j : Nat) : List (Int × Int × Int) := witF (wsAt ps i) (wsAt ps j) ((max (lng (wsAt ps i)) (lng (wsAt ps j))).toNat + 1)
theorem less_at {ps : List (List Nat × Nat)} {i j : Nat} {W V : WsD} (h : WsOf ps i W) (h' : WsOf ps j V) : lessF W V = lessA ps i j := by rw [less_st, h.mk, h'.mk]; rfl
theorem eq_at {ps : List (List Nat × Nat)} {i j : Nat} {W V : WsD} (h : WsOf ps i W) (h' : WsOf ps j V) : decide (W.cnt = V.cnt ∧ W.b = V.b) = eqA ps i j := by
  have e : (W.cnt = V.cnt ∧ W.b = V.b) = ((mkWs (stW W)).cnt = (mkWs (stW V)).cnt ∧ (mkWs (stW W)).b = (mkWs (stW V)).b) := rfl
  unfold eqA
  rw [← h.mk, ← h'.mk]
  rfl
theorem wit_at {ps : List (List Nat × Nat)} {i j : Nat} {W V : WsD} (h : WsOf ps i W) (h' : WsOf ps j V) : witF W V ((max (lng W) (lng V)).toNat + 1) = witA ps i j := by rw [wit_st, lng_st W, lng_st V, h.mk, h'.mk]; rfl
/-- the pile's items, the bottom first: pairs of a Whitespace object and its place -/
inductive PileAre (nn : List (Addr × Obj)) (ps : List (List Nat × Nat)) : List Value → List Nat → Prop
  | nil : PileAre nn ps [] []
  | cons {a x : Addr} {W : WsD} {k : Nat} {t : Tok} {e : Nat} {vs : List Value} {ks : List Nat} :
      (a, ({ cls := .type "tuple", data := .seq [.ref x, .int (k : Int) t].toArray e } : Obj)) ∈ nn → WsIn nn x W → WsOf ps k W → PileAre nn ps vs ks → PileAre nn ps (.ref a :: vs) (k :: ks)
section
variable {nn nn' : List (Addr × Obj)} {ps : List (List Nat × Nat)} {vs : List Value} {ks : List Nat}
theorem PileAre.mono (h : PileAre nn ps vs ks) (hs : ∀ p ∈ nn, p ∈ nn') : PileAre nn' ps vs ks := by
  induction h with
  | nil => exact .nil
  | cons hm hw ho _ ih => exact .cons (hs _ hm) (hw.mono hs) ho ih
theorem PileAre.length (h : PileAre nn ps vs ks) : vs.length = ks.length := by
  induction h with
  | nil => rfl
  | cons _ _ _ _ ih => simp [ih]
theorem PileAre.snoc (h : PileAre nn ps vs ks) {a x : Addr} {W : WsD} {k : Nat} {t : Tok} {e : Nat} (hm : (a, ({ cls := .type "tuple", data := .seq [.ref x, .int (k : Int) t].toArray e } : Obj)) ∈ nn) (hw : WsIn nn x W) (ho : WsOf ps k W) :
    PileAre nn ps (vs ++ [.ref a]) (ks ++ [k]) := by
  induction h with
  | nil => exact .cons hm hw ho .nil
  | cons hm' hw' ho' _ ih => exact .cons hm' hw' ho' ih
theorem PileAre.get (h : PileAre nn ps vs ks) : ∀ {i k : Nat}, ks[i]? = some k → ∃ a x W t e, vs[i]? = some (.ref a) ∧ (a, ({ cls := .type "tuple", data := .seq [.ref x, .int (k : Int) t].toArray e } : Obj)) ∈ nn ∧ WsIn nn x W ∧ WsOf ps k W := by
  induction h with
  | nil => intro i k h; simp at h
  | @cons a x W k' t e vs ks hm hw ho _ ih =>
    intro i k h
    cases i with
    | zero =>
      have e9 : k' = k := by simpa using h
      subst e9
      exact ⟨a, x, W, t, e, rfl, hm, hw, ho⟩
    | succ i => exact ih (by simpa using h)
theorem PileAre.dropLast (h : PileAre nn ps vs ks) : PileAre nn ps vs.dropLast ks.dropLast := by
  induction h with
  | nil => exact .nil
  | cons hm hw ho h2 ih =>
    cases h2 with
    | nil => exact .nil
    | cons _ _ _ _ => exact .cons hm hw ho ih
theorem PileAre.take (h : PileAre nn ps vs ks) (n : Nat) : PileAre nn ps (vs.take n) (ks.take n) := by
  induction h generalizing n with
  | nil => simp only [List.take_nil]; exact .nil
  | cons hm hw ho _ ih =>
    cases n with
    | zero => exact .nil
    | succ n => exact .cons hm hw ho (ih n)
end
/-- the places above the bottom whose leads are equal to that of `place` -/
noncomputable def sameF (ps : List (List Nat × Nat)) (ks : List Nat) (place n : Nat) : List Int := ((List.range n).filter fun i => eqA ps (ks.getD (i + 1) 0) place).map fun (i : Nat) => (i : Int) + 1
theorem sameF_succ (ps : List (List Nat × Nat)) (ks : List Nat) (place n : Nat) : sameF ps ks place (n + 1) = sameF ps ks place n ++ (if eqA ps (ks.getD (n + 1) 0) place = true then [(n : Int) + 1] else []) := filt_succ _ _ _
theorem sameF_len (ps : List (List Nat × Nat)) (ks : List Nat) (place n : Nat) : (sameF ps ks place n).length ≤ n := by
  unfold sameF
  rw [List.length_map]
  exact Nat.le_trans (List.length_filter_le _ _) (by simp)
theorem sameF_bd (ps : List (List Nat × Nat)) (ks : List Nat) (place n : Nat) : ∀ k ∈ sameF ps ks place n, 1 ≤ k ∧ k ≤ n := by
  intro k hk
  unfold sameF at hk
  obtain ⟨j, hj, rfl⟩ := List.mem_map.mp hk
  have := List.mem_range.mp (List.mem_filter.mp hj).1
  omega
/-- what _law_settle does to the pile: the new pile and the parent; none where it raises -/
noncomputable def settleF (ps : List (List Nat × Nat)) (ks : List Nat) (place : Nat) : Option (List Nat × Nat) :=
  if lessA ps (ks.getLastD 0) place then some (ks ++ [place], ks.getLastD 0)
  else match sameF ps ks place (ks.length - 1) with
    | [] => none
    | i :: _ => some (ks.take i.toNat ++ [place], (ks.take i.toNat).getLastD 0)
theorem news_front2 {h₀ h : Heap} {L a b : Addr} {nn : List (Addr × Obj)} {oa ob : Obj} (N : News h₀ L h nn) (ha : (a, oa) ∈ nn) (hb : (b, ob) ∈ nn) :
    ∃ rest, News h₀ L h ((a, oa) :: (b, ob) :: rest) ∧ (∀ p ∈ rest, p.1 ≠ a ∧ p.1 ≠ b) ∧ (∀ p ∈ nn, p.1 ≠ a → p.1 ≠ b → p ∈ rest) := by
  refine ⟨nn.filter fun p => p.1 != a && p.1 != b, fun p hp => ?_, fun p hp => ?_, fun p hp h1 h2 => List.mem_filter.mpr ⟨hp, by simp [h1, h2]⟩⟩
  · rcases mcs hp with rfl | hp
    · exact N _ ha
    rcases mcs hp with rfl | hp
    · exact N _ hb
    exact N _ (List.mem_filter.mp hp).1
  · have h := (List.mem_filter.mp hp).2
    simp only [Bool.and_eq_true, bne_iff_ne, ne_eq] at h
    exact h
section
variable {prog : Program} {w : World} {A : Around} {E : Value → Shared → Prop} {s : Shared} {h₀ : Heap} {L : Addr} {m : Str → Option Value} {nn cc : List (Addr × Obj)} {ps : List (List Nat × Nat)}
theorem mitem_pile {Q : Value → Shared → Prop} {value slice : Expr} {l : Addr} {vs : List Value} {ks : List Nat} {k : Int} {u : Tok} {e q : Nat} (N : News h₀ L s.heap nn) (hm : (l, ({ cls := .type "list", data := .seq vs.toArray e } : Obj)) ∈ nn) (hp : PileAre cc ps vs ks)
    (h0 : 0 ≤ k) (hk : k < 1000) (hc : ks[k.toNat]? = some q) (h : ∀ b x W t e, (b, ({ cls := .type "tuple", data := .seq [.ref x, .int (q : Int) t].toArray e } : Obj)) ∈ cc → WsIn cc x W → WsOf ps q W → Q (.ref b) s)
    (hs : subscripted slice false (.ref l) (.int k u) = operate [.ref l, .int k u] (getItem (.ref l) (.int k u)) := by with_unfolding_all rfl) :
    wpAny (model prog w) A (subscriptTail value slice (.ref l) (.int k u)) Q E s := by
  refine nmG fun gG9 kG9 => ?_
  refine ex5 (hp.get hc) ?_
  intro b x W t e y9w1
  refine an4 (y9w1) ?_
  intro hu hb hw ho
  clear y9w1
  refine kG9 ?_
  clear kG9 gG9
  have hL := N.isList hm
  exact tail_any hL.typeIs slot_list_getitem.lookup (wpAny_getItem_list hL h0 (by omega) (by simpa using hu) (h b x W t e hb hw ho)) hs
theorem mitem_pileN {Q : Value → Shared → Prop} {value slice : Expr} {l : Addr} {vs : List Value} {ks : List Nat} {k : Int} {u : Tok} {e q i : Nat} (N : News h₀ L s.heap nn) (hm : (l, ({ cls := .type "list", data := .seq vs.toArray e } : Obj)) ∈ nn) (hp : PileAre cc ps vs ks)
    (h0 : k < 0) (hk : k + ks.length = i) (hl : ks.length ≤ 1000) (hc : ks[i]? = some q) (h : ∀ b x W t e, (b, ({ cls := .type "tuple", data := .seq [.ref x, .int (q : Int) t].toArray e } : Obj)) ∈ cc → WsIn cc x W → WsOf ps q W → Q (.ref b) s)
    (hs : subscripted slice false (.ref l) (.int k u) = operate [.ref l, .int k u] (getItem (.ref l) (.int k u)) := by with_unfolding_all rfl) :
    wpAny (model prog w) A (subscriptTail value slice (.ref l) (.int k u)) Q E s := by
  refine nmG fun gG9 kG9 => ?_
  refine ex5 (hp.get hc) ?_
  intro b x W t e y9w1
  refine an4 (y9w1) ?_
  intro hu hb hw ho
  clear y9w1
  refine kG9 ?_
  clear kG9 gG9
  have hL := N.isList hm
  have hv := hp.length
  have e1 : (k + (vs.toArray.size : Int)).toNat = i := by rw [List.size_toArray, hv]; omega
  exact tail_any hL.typeIs slot_list_getitem.lookup (wpAny_getItem_list_neg hL h0 (by rw [List.size_toArray]; omega) (by omega) (by rw [e1]; simpa using hu) (h b x W t e hb hw ho)) hs
theorem mitem_tup2 {Q : Value → Shared → Prop} {value slice : Expr} {b x : Addr} {q : Int} {t u : Tok} {e : Nat} {k : Int} {y : Value} (N : News h₀ L s.heap nn) (hm : (b, ({ cls := .type "tuple", data := .seq [.ref x, .int q t].toArray e } : Obj)) ∈ nn) (hk : (k = 0 ∧ y = .ref x) ∨ (k = 1 ∧ y = .int q t)) (h : Q y s)
    (hs : subscripted slice false (.ref b) (.int k u) = operate [.ref b, .int k u] (getItem (.ref b) (.int k u)) := by with_unfolding_all rfl) :
    wpAny (model prog w) A (subscriptTail value slice (.ref b) (.int k u)) Q E s := by
  have ht : IsTup s.heap b [Value.ref x, .int q t].toArray := ⟨_, (N _ hm).1, rfl, e, rfl⟩
  rcases hk with ⟨rfl, rfl⟩ | ⟨rfl, rfl⟩
  · exact item_tupleT (l := [.ref x, .int q t]) (j := 0) ht (by decide) (by decide) (by rfl) (by rfl) h hs
  · exact item_tupleT (l := [.ref x, .int q t]) (j := 1) ht (by decide) (by decide) (by rfl) (by rfl) h hs
theorem getLast_at {ks : List Nat} (h : ks ≠ []) : ks[ks.length - 1]? = some (ks.getLastD 0) := by
  rw [List.getLastD_eq_getLast?, List.getLast?_eq_getElem?]
  have : ks.length - 1 < ks.length := by cases ks with | nil => exact absurd rfl h | cons _ _ => simp
  rw [List.getElem?_eq_getElem this]
  rfl
end
theorem upd_split {pre post : List (Addr × Obj)} {l : Addr} {o o' : Obj} (h1 : ∀ p ∈ pre, p.1 ≠ l) (h2 : ∀ p ∈ post, p.1 ≠ l) : pre ++ (l, o') :: post ⊆ upd (pre ++ (l, o) :: post) l o' := by
  intro p hp
  rcases List.mem_append.mp hp with hp | hp
  · exact upd_old (List.mem_append_left _ hp) (h1 p hp)
  rcases mcs hp with rfl | hp
  · exact upd_mem
  · exact upd_old (List.mem_append_right _ (.tail _ hp)) (h2 p hp)
theorem pile_push {h₀ h : Heap} {L D x : Addr} {r R : List (Addr × Obj)} {ps : List (List Nat × Nat)} {vs : List Value} {ks : List Nat} {place e : Nat} {t : Tok} {W : WsD} (_ : News h₀ L h ((D, ({ cls := .type "tuple", data := .seq [.ref x, .int (place : Int) t].toArray e } : Obj)) :: r))
    (hp : PileAre R ps vs ks) (hw : WsIn R x W) (ho : WsOf ps place W) : PileAre ((D, ({ cls := .type "tuple", data := .seq [.ref x, .int (place : Int) t].toArray e } : Obj)) :: R) ps (vs ++ [.ref D]) (ks ++ [place]) :=
  (hp.mono (fun _ hp => List.Mem.tail _ hp)).snoc (List.Mem.head _) (hw.mono (fun _ hp => List.Mem.tail _ hp)) ho
theorem news_rot4 {h₀ h : Heap} {L : Addr} {d a b c e : Addr × Obj} {r : List (Addr × Obj)} (N : News h₀ L h (d :: a :: b :: c :: e :: r)) : News h₀ L h (a :: b :: c :: e :: d :: r) := by
  refine news_sub N ?_
  intro p hp
  simp only [List.mem_cons] at hp ⊢
  rcases hp with h | h | h | h | h | h <;> simp [h]
theorem exec_raise_nag {w : World} {A : Around} {E : Value → Shared → Prop} {env : Env} {h₀ : Heap} {s : Shared} {f : Expr} {args : List Expr} {cpos pos : Pos} {Q : Flow → Shared → Prop} (X : (HK w.params).In h₀) (hh : A.handled = none)
    (h : wpAny (model PySem.Challenge.rw_xe0048_01.row.prog w) A (eval (.Call f args [] cpos) env) (fun v s₁ => Hold (∃ e oe t, v = .ref e ∧ (∀ b o, h₀.get? b = some o → s₁.heap.get? b = some o) ∧
      s₁.heap.get? e = some oe ∧ oe.cls = .ref 109 ∧ oe.data = .fields #[.ref t, .none, .none, .none, .bool false, .none] ∧ E (.ref e) s₁)) E s) :
    wpAny (model PySem.Challenge.rw_xe0048_01.row.prog w) A (exec (.Raise (some (.Call f args [] cpos)) none pos) env) Q E s := by
  refine nmG fun gG9 kG9 => ?_
  refine ex17 (kts_cls X (C := 109) (T := "BaseException") (by rfl)) ?_
  intro nm q' N bs bm hdct sn sub ab col dd k0 k1 k2 k3 k5 newId y9w1
  refine an3 (y9w1) ?_
  intro hC hbase y9z3
  clear y9w1
  clear y9z3
  refine kG9 ?_
  clear kG9 gG9
  refine exec_raise (C := 109) (nm := nm) (q := q') (N := N) (bs := bs) (bm := bm) (hdct := hdct) (sn := sn) (sub := sub) (ab := ab) (col := col) (dd := dd) (k0 := k0) (k1 := k1) (k2 := k2) (k3 := k3) (k5 := k5) (newId := newId) hbase hh (wpAny_mono h (fun v s₁ z => ?_) fun _ _ z => z)
  refine nmG fun gG9 kG9 => ?_
  refine ex3 (z) ?_
  intro e oe t y9w1
  refine an6 (y9w1) ?_
  intro e1 k e2 e3 e4 e5
  clear y9w1
  try clear z
  refine kG9 ?_
  clear kG9 gG9
  exact ⟨e, oe, t, e1, k _ _ hC, e2, e3, e4, e5⟩
theorem news_swap {h₀ h : Heap} {L : Addr} {a b : Addr × Obj} {r : List (Addr × Obj)} (N : News h₀ L h (a :: b :: r)) : News h₀ L h (b :: a :: r) := by
  refine news_sub N ?_
  intro p hp
  simp only [List.mem_cons] at hp ⊢
  rcases hp with h | h | h <;> simp [h]
theorem witA_len (ps : List (List Nat × Nat)) (i j : Nat) : (witA ps i j).length ≤ (max (lng (wsAt ps i)) (lng (wsAt ps j))).toNat + 1 := witF_len _ _ _
theorem witA_bd (ps : List (List Nat × Nat)) (i j : Nat) : ∀ d ∈ witA ps i j, 1 ≤ d.1 ∧ d.1 ≤ (max (lng (wsAt ps i)) (lng (wsAt ps j))).toNat + 1 := by
  intro d hd
  unfold witA witF at hd
  obtain ⟨k, hk, rfl⟩ := List.mem_map.mp hd
  have := List.mem_range.mp (List.mem_filter.mp hk).1
  dsimp only
  omega
theorem news_raise {h₀ h : Heap} {L : Addr} {e d t a b : Addr × Obj} {r : List (Addr × Obj)} (N : News h₀ L h (e :: d :: t :: a :: b :: r)) : News h₀ L h (e :: d :: b :: a :: r) := by
  refine news_sub N ?_
  intro p hp
  simp only [List.mem_cons] at hp ⊢
  rcases hp with h | h | h | h | h <;> simp [h]
theorem mpopF {prog : Program} {w : World} {A : Around} {E : Value → Shared → Prop} {s : Shared} {h₀ : Heap} {L : Addr} {m : Str → Option Value} {rest : List (Addr × Obj)} {Q : Value → Shared → Prop} {l : Addr} {vs : List Value} {e : Nat} (F : Fr h₀ L s.heap m) (N : News h₀ L s.heap ((l, ({ cls := .type "list", data := .seq vs.toArray e } : Obj)) :: rest)) (hr : ∀ p ∈ rest, p.1 ≠ l)
    (hne : 0 < vs.length) (hl : vs.length ≤ 1000) (h : ∀ h' y, Fr h₀ L h' m → News h₀ L h' ((l, ({ cls := .type "list", data := .seq vs.dropLast.toArray (e + 1) } : Obj)) :: rest) → Q y { s with heap := h' }) : wpAny (model prog w) A (call (.builtin "list.pop") [.ref l]) Q E s := by
  have hn : vs ≠ [] := fun q => by rw [q] at hne; exact absurd hne (Nat.lt_irrefl _)
  refine kl_pop (its := vs.toArray) (p := vs.dropLast) (y := vs.getLast hn) (n := e) F N ?_ (.head hr) (by rw [sizeLine_eq]; simp; omega) fun h' F' N' => h h' _ F' N'
  have e1 := kpa_last (vs.getLast hn) vs.dropLast
  rw [List.dropLast_concat_getLast] at e1
  simpa using e1
theorem dropLast_take' {α : Type} {l : List α} {c : Nat} (h : c ≤ l.length) : (l.take c).dropLast = l.take (c - 1) := by
  rw [List.dropLast_eq_take, List.length_take, List.take_take, Nat.min_eq_left h, Nat.min_eq_left (Nat.sub_le c 1)]
theorem news_rot2 {h₀ h : Heap} {L : Addr} {d a b : Addr × Obj} {r : List (Addr × Obj)} (N : News h₀ L h (d :: a :: b :: r)) : News h₀ L h (a :: b :: d :: r) := by
  refine news_sub N ?_
  intro p hp
  simp only [List.mem_cons] at hp ⊢
  rcases hp with h | h | h | h <;> simp [h]
end Mine
end
theorem Mine.rstP1 : True := by
  w_top off
  trivial
section
open PySem PySem.W PyProof.Rows PySem.Calls PySem.Spec
set_option Elab.async false
set_option maxRecDepth 100000
set_option maxHeartbeats 4000000
namespace Mine
/-- tabs' counts by the run ahead of them -/
noncomputable def cntOf (rs : List Nat) : List Int := rs.foldl (fun c (r : Nat) => bump c (r : Int)) []
theorem cntOf_snoc (rs : List Nat) (r : Nat) : cntOf (rs ++ [r]) = bump (cntOf rs) r := by
  unfold cntOf; rw [List.foldl_append]; rfl
theorem fold_sp (n : Nat) : ∀ st : St, (List.replicate n 32).foldl stp st = ⟨st.cnt, st.b + n, st.n + n, st.nt⟩ := by
  induction n with
  | zero => intro st; simp
  | succ n ih =>
    intro st
    rw [List.replicate_succ, List.foldl_cons, ih]
    simp only [stp, if_true]
    congr 1 <;> (first | lia | omega)
theorem fold_enc (rs : List Nat) (b : Nat) : ∀ (pre : List Nat) (n : Int), (enc rs b).foldl stp ⟨cntOf pre, 0, n, pre.length⟩ = ⟨cntOf (pre ++ rs), b, n + ((rs.map (· + 1)).sum + b : Nat), ((pre ++ rs).length : Nat)⟩ := by
  induction rs with
  | nil =>
    intro pre n
    rw [enc_nil, fold_sp]
    simp
  | cons r rs ih =>
    intro pre n
    rw [enc_cons, List.foldl_append, fold_sp, List.foldl_cons]
    have e : stp ⟨cntOf pre, 0 + (r : Int), n + (r : Int), (pre.length : Int)⟩ 9 = ⟨cntOf (pre ++ [r]), 0, n + r + 1, ((pre ++ [r]).length : Nat)⟩ := by
      rw [cntOf_snoc]
      unfold stp
      rw [if_neg (by decide)]
      congr 1
      · rw [Int.zero_add]
      · simp
    dsimp only at e ⊢
    rw [e, ih (pre ++ [r]) (n + r + 1)]
    rw [List.append_assoc]
    congr 1
    simp only [List.map_cons, List.sum_cons]
    (first | lia | omega)
theorem scan_enc (rs : List Nat) (b : Nat) : scan (enc rs b) = ⟨cntOf rs, b, ((rs.map (· + 1)).sum + b : Nat), rs.length⟩ := by
  have h := fold_enc rs b [] 0
  simp only [List.nil_append, List.length_nil] at h
  unfold scan
  have e : (⟨[], 0, 0, 0⟩ : St) = ⟨cntOf [], 0, 0, ((0 : Nat) : Int)⟩ := rfl
  rw [e, h]
  congr 1
  (first | lia | omega)
theorem getD_append_zeros (c : List Int) (n k : Nat) : (c ++ List.replicate n (0 : Int)).getD k 0 = c.getD k 0 := by
  rw [List.getD_eq_getElem?_getD, List.getD_eq_getElem?_getD, List.getElem?_append]
  split
  · rfl
  · rename_i h
    rw [List.getElem?_eq_none (by (first | lia | omega) : c.length ≤ k), List.getElem?_replicate]
    split <;> rfl
theorem bump_getD (c : List Int) (r k : Nat) : (bump c (r : Int)).getD k 0 = c.getD k 0 + if k = r then 1 else 0 := by
  have h0 : bump c (r : Int) = (c ++ List.replicate (r + 1 - c.length) 0).set r (c.getD r 0 + 1) := by
    unfold bump
    dsimp only
    by_cases h : (r : Int) ≥ (c.length : Int)
    · rw [if_pos h]
      have e : ((r : Int) - c.length + 1).toNat = r + 1 - c.length := by (first | lia | omega)
      rw [e, Int.toNat_natCast, getD_append_zeros]
    · rw [if_neg h]
      have e : r + 1 - c.length = 0 := by (first | lia | omega)
      rw [e, Int.toNat_natCast]
      simp
  rw [h0, List.getD_eq_getElem?_getD, List.getElem?_set]
  have hl : r < (c ++ List.replicate (r + 1 - c.length) (0 : Int)).length := by rw [List.length_append, List.length_replicate]; (first | lia | omega)
  by_cases h : r = k
  · subst h
    rw [if_pos rfl, if_pos hl, if_pos rfl]
    rfl
  · rw [if_neg h, if_neg (fun q => h q.symm), ← List.getD_eq_getElem?_getD, getD_append_zeros]
    (first | lia | omega)
theorem cnt_rec {P : List Nat → Prop} (h0 : P []) (h1 : ∀ l a, P l → P (l ++ [a])) (l : List Nat) : P l := by
  have : ∀ r : List Nat, P r.reverse := by
    intro r
    induction r with
    | nil => exact h0
    | cons a r ih => rw [List.reverse_cons]; exact h1 _ _ ih
  have := this l.reverse
  rwa [List.reverse_reverse] at this
theorem cntOf_getD (rs : List Nat) (k : Nat) : (cntOf rs).getD k 0 = (rs.count k : Nat) := by
  induction rs using cnt_rec with
  | h0 => simp [cntOf]
  | h1 l a ih =>
    rw [cntOf_snoc, bump_getD, ih, List.count_append, List.count_singleton]
    by_cases h : k = a
    · subst h; simp
    · rw [if_neg h]
      have : (a == k) = false := by simp; exact fun q => h q.symm
      rw [this]; simp
theorem cntOf_lt (rs : List Nat) : ∀ r ∈ rs, r < (cntOf rs).length := by
  induction rs using cnt_rec with
  | h0 => simp
  | h1 l a ih =>
    intro r hr
    have hb := bump_len (cntOf l) (a : Int) (by (first | lia | omega))
    rw [← cntOf_snoc] at hb
    rcases List.mem_append.mp hr with hr | hr
    · have := ih r hr; (first | lia | omega)
    · rw [List.mem_singleton.mp hr]; (first | lia | omega)
theorem cntOf_top (rs : List Nat) : (cntOf rs).length = 0 ∨ (cntOf rs).length - 1 ∈ rs := by
  induction rs using cnt_rec with
  | h0 => exact .inl rfl
  | h1 l a ih =>
    have hb := bump_len (cntOf l) (a : Int) (by (first | lia | omega))
    rw [← cntOf_snoc] at hb
    right
    by_cases h : (a : Int) + 1 ≥ (cntOf l).length
    · have e : (cntOf (l ++ [a])).length - 1 = a := by (first | lia | omega)
      rw [e]; simp
    · have e : (cntOf (l ++ [a])).length - 1 = (cntOf l).length - 1 := by (first | lia | omega)
      rw [e]
      rcases ih with ih | ih
      · (first | lia | omega)
      · exact List.mem_append_left _ ih
theorem cntOf_eq {rs qs : List Nat} (h : ∀ k, rs.count k = qs.count k) : cntOf rs = cntOf qs := by
  have hl : ∀ {rs qs : List Nat}, (∀ k, rs.count k = qs.count k) → (cntOf rs).length ≤ (cntOf qs).length := by
    intro rs qs h
    rcases cntOf_top rs with h1 | h1
    · (first | lia | omega)
    · have h2 : 0 < qs.count ((cntOf rs).length - 1) := by rw [← h]; exact List.count_pos_iff.mpr h1
      have := cntOf_lt qs _ (List.count_pos_iff.mp h2)
      (first | lia | omega)
  have e : (cntOf rs).length = (cntOf qs).length := Nat.le_antisymm (hl h) (hl fun k => (h k).symm)
  apply List.ext_getElem? 
  intro k
  have h1 := cntOf_getD rs k
  have h2 := cntOf_getD qs k
  rw [h k, ← h2, List.getD_eq_getElem?_getD, List.getD_eq_getElem?_getD] at h1
  by_cases hk : k < (cntOf rs).length
  · rw [List.getElem?_eq_getElem hk, List.getElem?_eq_getElem (by (first | lia | omega))] at h1 ⊢
    exact congrArg some h1
  · rw [List.getElem?_eq_none (by (first | lia | omega)), List.getElem?_eq_none (by (first | lia | omega))]
/-- the sum of the runs' parts -/
noncomputable def sumF (ts : Nat) (rs : List Nat) : Nat := (rs.map (· / ts)).sum
noncomputable def colP (ts : Nat) (p : List Nat × Nat) : Nat := p.2 + ts * (sumF ts p.1 + p.1.length)
theorem sumF_snoc (ts : Nat) (rs : List Nat) (r : Nat) : sumF ts (rs ++ [r]) = sumF ts rs + r / ts := by simp [sumF]
theorem lvF_zero {ts : Int} (c : List Int) {m : Nat} (hm : (c.length : Int) ≤ ts + m) (hts : 0 ≤ ts) : ∀ d, lvF ts c (m + d) = lvF ts c m := by
  intro d
  induction d with
  | zero => rfl
  | succ d ih =>
    rw [← Nat.add_assoc, lvF_succ, ih, List.getD_eq_getElem?_getD, List.getElem?_eq_none (by (first | lia | omega))]
    simp
theorem lvF_bump {ts : Nat} (hts : 1 ≤ ts) (c : List Int) (r : Nat) : ∀ m : Nat, lvF ts (bump c r) m = lvF ts c m + if ts ≤ r ∧ r < ts + m then ((r / ts : Nat) : Int) else 0 := by
  intro m
  induction m with
  | zero => rw [if_neg (by (first | lia | omega))]; simp [lvF]
  | succ m ih =>
    rw [lvF_succ, lvF_succ, ih]
    have e1 : ((ts : Int) + (m : Int)).toNat = ts + m := by (first | lia | omega)
    have e2 : ((ts : Int) + (m : Int)).fdiv ts = (((ts + m) / ts : Nat) : Int) := by
      rw [Int.fdiv_eq_ediv_of_nonneg _ (by (first | lia | omega))]
      simp [Int.natCast_ediv]
    rw [e1, bump_getD, Int.mul_add, e2]
    by_cases h : ts + m = r
    · subst h
      rw [if_pos rfl, if_neg (by (first | lia | omega)), if_pos (by (first | lia | omega))]
      (first | lia | omega)
    · rw [if_neg h]
      by_cases h2 : ts ≤ r ∧ r < ts + m
      · rw [if_pos h2, if_pos (by (first | lia | omega))]; (first | lia | omega)
      · rw [if_neg h2, if_neg (by (first | lia | omega))]; (first | lia | omega)
theorem lvF_cnt {ts : Nat} (hts : 1 ≤ ts) (rs : List Nat) : ∀ m : Nat, ((cntOf rs).length : Int) ≤ ts + m → lvF ts (cntOf rs) m = sumF ts rs := by
  induction rs using cnt_rec with
  | h0 =>
    intro m _
    have h := lvF_zero (ts := (ts : Int)) (cntOf []) (m := 0) (by simp [cntOf]) (by (first | lia | omega)) m
    rw [Nat.zero_add] at h
    rw [h]; simp [lvF, sumF]
  | h1 l a ih =>
    intro m hm
    have hb := bump_len (cntOf l) (a : Int) (by (first | lia | omega))
    rw [cntOf_snoc] at hm ⊢
    rw [lvF_bump hts, ih m (by (first | lia | omega)), sumF_snoc]
    by_cases h : ts ≤ a
    · rw [if_pos (by (first | lia | omega))]; (first | lia | omega)
    · rw [if_neg (by (first | lia | omega)), Nat.div_eq_of_lt (by (first | lia | omega))]; (first | lia | omega)
theorem lev_scan {ts : Nat} (hts : 1 ≤ ts) (p : List Nat × Nat) : lev (mkWs (scan (enc p.1 p.2))) ts = (colP ts p : Nat) := by
  rw [scan_enc]
  unfold lev mkWs colP
  dsimp only
  rw [lvF_cnt hts _ _ (by (first | lia | omega))]
  simp
theorem colF_sp (ts : Int) (n : Nat) : ∀ c : Int, (List.replicate n 32).foldl (fun (c : Int) (k : Nat) => if k = 32 then c + 1 else if k = 9 then c.fdiv ts * ts + ts else c) c = c + n := by
  induction n with
  | zero => intro c; simp
  | succ n ih => intro c; rw [List.replicate_succ, List.foldl_cons, ih, if_pos rfl]; (first | lia | omega)
theorem colF_enc {ts : Nat} (hts : 1 ≤ ts) (rs : List Nat) (b : Nat) : ∀ q : Nat, (enc rs b).foldl (fun (c : Int) (k : Nat) => if k = 32 then c + 1 else if k = 9 then c.fdiv ts * ts + ts else c) ((ts * q : Nat) : Int) = ((b + ts * (q + (sumF ts rs + rs.length)) : Nat) : Int) := by
  induction rs with
  | nil =>
    intro q
    rw [enc_nil, colF_sp]
    simp [sumF]
    (first | lia | omega)
  | cons r rs ih =>
    intro q
    rw [enc_cons, List.foldl_append, colF_sp, List.foldl_cons, if_neg (by decide), if_pos rfl]
    have e : ((((ts * q : Nat) : Int) + (r : Int)).fdiv (ts : Int)) * (ts : Int) + (ts : Int) = ((ts * (q + r / ts + 1) : Nat) : Int) := by
      rw [Int.fdiv_eq_ediv_of_nonneg _ (by (first | lia | omega))]
      have e1 : (((ts * q : Nat) : Int) + (r : Int)) / (ts : Int) = ((q + r / ts : Nat) : Int) := by
        rw [← Int.natCast_add, ← Int.natCast_ediv]
        congr 1
        rw [Nat.add_comm, Nat.add_mul_div_left _ _ (by (first | lia | omega))]
        (first | lia | omega)
      rw [e1]
      rw [← Int.natCast_mul, ← Int.natCast_add]
      congr 1
      rw [Nat.mul_add, Nat.mul_one, Nat.mul_comm]
    rw [e, ih]
    congr 1
    congr 1
    congr 1
    simp only [sumF, List.map_cons, List.sum_cons, List.length_cons]
    (first | lia | omega)
end Mine
end
theorem Mine.rstP2 : True := by
  w_top off
  trivial
section
open PySem PySem.W PyProof.Rows PySem.Calls PySem.Spec
set_option Elab.async false
set_option maxRecDepth 100000
set_option maxHeartbeats 4000000
namespace Mine
noncomputable def leadP (ps : List (List Nat × Nat)) (k : Nat) : List Nat × Nat := if k = 0 then ([], 0) else ps.getD (k - 1) ([], 0)
theorem enc_mem (rs : List Nat) (b : Nat) : ∀ x ∈ enc rs b, x = 32 ∨ x = 9 := by
  intro x hx
  unfold enc at hx
  rcases List.mem_append.mp hx with hx | hx
  · obtain ⟨r, _, hx⟩ := List.mem_flatMap.mp hx
    rcases List.mem_append.mp hx with hx | hx
    · exact .inl (List.mem_replicate.mp hx).2
    · exact .inr (List.mem_singleton.mp hx)
  · exact .inl (List.mem_replicate.mp hx).2
theorem row_zero (ps : List (List Nat × Nat)) : rowAt ps 0 = PySem.Str.ofString "local" := by simp [rowAt, rowsF]
theorem row_succ {ps : List (List Nat × Nat)} (h : LOk 4 ps) {k : Nat} (hk : k < 5) : rowAt ps (k + 1) = enc1 (leadP ps (k + 1)) ++ (⟨#[97 + k]⟩ : Str) := by
  refine nmG fun gG9 kG9 => ?_
  obtain ⟨p, e1, e2, _⟩ := h.get (show k < 4 + 1 from hk)
  refine kG9 ?_
  clear kG9 gG9
  have e3 : leadP ps (k + 1) = p := by unfold leadP; rw [if_neg (by (first | lia | omega)), List.getD_eq_getElem?_getD, Nat.add_sub_cancel, e2]; rfl
  rw [e3, ← e1]
  unfold rowAt rowsF
  rw [List.getD_eq_getElem?_getD, List.getElem?_cons_succ, List.getElem?_map, List.getElem?_range hk]
  rfl
theorem row_list {ps : List (List Nat × Nat)} (h : LOk 4 ps) {k : Nat} (hk : k ≤ 5) : ∃ t, (rowAt ps k).cps.toList = enc (leadP ps k).1 (leadP ps k).2 ++ t ∧ t ≠ [] ∧ ∀ x ∈ t, x ≠ 32 ∧ x ≠ 9 := by
  cases k with
  | zero =>
    rw [row_zero]
    refine ⟨(PySem.Str.ofString "local").cps.toList, ?_, ?_, ?_⟩
    · simp [leadP, enc]
    · decide
    · decide
  | succ k =>
    rw [row_succ h (by (first | lia | omega))]
    refine ⟨[97 + k], ?_, by simp, ?_⟩
    · rw [PySem.Str.cps_append, Array.toList_append]
      rfl
    · intro x hx
      rw [List.mem_singleton.mp hx]; (first | lia | omega)
theorem ws_at {ps : List (List Nat × Nat)} (h : LOk 4 ps) {k : Nat} (hk : k ≤ 5) : wsAt ps k = mkWs (scan (enc (leadP ps k).1 (leadP ps k).2)) := by
  refine nmG fun gG9 kG9 => ?_
  obtain ⟨t, e, ht, h2⟩ := row_list h hk
  refine kG9 ?_
  clear kG9 gG9
  unfold wsAt
  rw [e, List.takeWhile_append_of_pos]
  · cases t with
    | nil => exact absurd rfl ht
    | cons a r =>
      have ha := h2 a (.head _)
      have e1 : isB a = false := by
        unfold isB
        simp
        exact ha
      rw [List.takeWhile_cons, e1, if_neg (by decide), List.append_nil]
  · intro x hx
    rcases enc_mem _ _ x hx with rfl | rfl <;> rfl
theorem col_at {ps : List (List Nat × Nat)} (h : LOk 4 ps) {k : Nat} (hk : k ≤ 5) {j : Nat} (hj : j < 6) : (colAt ps k).getD j 0 = (colP (j + 1) (leadP ps k) : Nat) := by
  refine nmG fun gG9 kG9 => ?_
  obtain ⟨t, e, ht, h2⟩ := row_list h hk
  refine kG9 ?_
  clear kG9 gG9
  unfold colAt colsF
  rw [List.getD_eq_getElem?_getD, List.getElem?_map, List.getElem?_range hj]
  show colF (1 + (j : Int)) (rowAt ps k).cps.toList = _
  rw [e]
  unfold colF
  have e1 : (1 + (j : Int)) = ((j + 1 : Nat) : Int) := by (first | lia | omega)
  rw [List.foldl_append, e1]
  have e2 := colF_enc (ts := j + 1) (by (first | lia | omega)) (leadP ps k).1 (leadP ps k).2 0
  rw [Nat.mul_zero, Nat.zero_add] at e2
  have e3 : ∀ (c : Int), t.foldl (fun (c : Int) (k : Nat) => if k = 32 then c + 1 else if k = 9 then c.fdiv ((j + 1 : Nat) : Int) * ((j + 1 : Nat) : Int) + ((j + 1 : Nat) : Int) else c) c = c := by
    clear e ht
    induction t with
    | nil => intro c; rfl
    | cons a r ih =>
      intro c
      have ha := h2 a (.head _)
      rw [List.foldl_cons, if_neg ha.1, if_neg ha.2]
      exact ih (fun x hx => h2 x (.tail _ hx)) c
  rw [e3]
  exact e2
theorem col_len (ps : List (List Nat × Nat)) (k : Nat) : (colAt ps k).length = 6 := by simp [colAt, colsF]
structure Ld (p : List Nat × Nat) : Prop where
  r : ∀ r ∈ p.1, r ≤ 5
  b : p.2 ≤ 5
theorem lead_ok {ps : List (List Nat × Nat)} (h : LOk 4 ps) {k : Nat} (hk : k ≤ 5) : Ld (leadP ps k) := by
  unfold leadP
  split
  · exact ⟨by simp, by simp⟩
  · have hk' : k - 1 < ps.length := by rw [h.n]; (first | lia | omega)
    rw [List.getD_eq_getElem?_getD, List.getElem?_eq_getElem hk']
    have := h.a _ (List.getElem_mem hk')
    exact ⟨this.r, this.b⟩
theorem sumF_zero {ts : Nat} {rs : List Nat} (h : ∀ r ∈ rs, r < ts) : sumF ts rs = 0 := by
  induction rs with
  | nil => rfl
  | cons a r ih =>
    have := h a (.head _)
    have e : a / ts = 0 := Nat.div_eq_of_lt this
    simp only [sumF, List.map_cons, List.sum_cons, e] at ih ⊢
    rw [ih fun r hr => h r (.tail _ hr)]
/-- the longest run of a lead, the trailing one too -/
noncomputable def topP (p : List Nat × Nat) : Nat := max ((cntOf p.1).length - 1) p.2
theorem lng_lead (p : List Nat × Nat) : lng (mkWs (scan (enc p.1 p.2))) = (topP p : Nat) := by
  rw [scan_enc]
  unfold lng mkWs topP
  dsimp only
  (first | lia | omega)
theorem topP_run (p : List Nat × Nat) : ∀ r ∈ p.1, r ≤ topP p := by
  intro r hr
  have := cntOf_lt p.1 r hr
  unfold topP
  (first | lia | omega)
theorem topP_le {p : List Nat × Nat} (h : Ld p) : topP p ≤ 5 := by
  unfold topP
  have := h.b
  rcases cntOf_top p.1 with h1 | h1
  · (first | lia | omega)
  · have := h.r _ h1; (first | lia | omega)
theorem lng_at {ps : List (List Nat × Nat)} (hO : LOk 4 ps) {k : Nat} (hk : k ≤ 5) : 0 ≤ lng (wsAt ps k) ∧ lng (wsAt ps k) ≤ 5 := by
  rw [ws_at hO hk, lng_lead]
  have := topP_le (lead_ok hO hk)
  (first | lia | omega)
/-- below at each tab size -/
noncomputable def ltP (p q : List Nat × Nat) : Prop := ∀ j, j < 6 → colP (j + 1) p < colP (j + 1) q
theorem gt_at {ps : List (List Nat × Nat)} (h : LOk 4 ps) {i j : Nat} (hi : i ≤ 5) (hj : j ≤ 5) : gtF (colAt ps j) (colAt ps i) = true ↔ ltP (leadP ps i) (leadP ps j) := by
  unfold gtF ltP
  rw [List.all_eq_true]
  constructor
  · intro hh k hk
    have := of_decide_eq_true (hh k (List.mem_range.mpr hk))
    rw [col_at h hi hk, col_at h hj hk] at this
    (first | lia | omega)
  · intro hh k hk
    have hk' := List.mem_range.mp hk
    have := hh k hk'
    rw [decide_eq_true_eq, col_at h hi hk', col_at h hj hk']
    (first | lia | omega)
theorem all6 {P : Nat → Prop} : (∀ j, j < 6 → P j) ↔ P 0 ∧ P 1 ∧ P 2 ∧ P 3 ∧ P 4 ∧ P 5 := by
  constructor
  · intro h; exact ⟨h 0 (by decide), h 1 (by decide), h 2 (by decide), h 3 (by decide), h 4 (by decide), h 5 (by decide)⟩
  · intro hz9
    refine nmG fun gG9 kG9 => ?_
    obtain ⟨h0, h1, h2, h3, h4, h5⟩ := hz9
    refine kG9 ?_
    clear kG9 gG9
    intro j hj
    have : j = 0 ∨ j = 1 ∨ j = 2 ∨ j = 3 ∨ j = 4 ∨ j = 5 := by (first | lia | omega)
    rcases this with rfl | rfl | rfl | rfl | rfl | rfl <;> assumption
theorem sum_one (rs : List Nat) : (rs.map (· + 1)).sum = sumF 1 rs + rs.length := by
  induction rs with
  | nil => rfl
  | cons a r ih => simp only [sumF, List.map_cons, List.sum_cons, List.length_cons, Nat.div_one] at ih ⊢; (first | lia | omega)
theorem far {b b' l l' M d : Nat} (hb : b < M) (hb' : b' < M) (h : b + M * (0 + l) < b' + M * (0 + l')) : b + (M + d) * (0 + l) < b' + (M + d) * (0 + l') := by
  rw [Nat.zero_add, Nat.zero_add] at h ⊢
  have hl : l ≤ l' := by
    refine Nat.le_of_not_lt fun q => ?_
    have := Nat.mul_le_mul_left M (show l' + 1 ≤ l from q)
    rw [Nat.mul_add, Nat.mul_one] at this
    (first | lia | omega)
  have := Nat.mul_le_mul_left d hl
  rw [Nat.add_mul, Nat.add_mul]
  (first | lia | omega)
theorem less_lead {p q : List Nat × Nat} (hp : Ld p) (hq : Ld q) : lessF (mkWs (scan (enc p.1 p.2))) (mkWs (scan (enc q.1 q.2))) = true ↔ ltP p q := by
  have hpb := hp.b
  have hqb := hq.b
  unfold lessF
  rw [lng_lead, lng_lead]
  have n1 : (mkWs (scan (enc p.1 p.2))).n = (colP 1 p : Nat) := by rw [scan_enc, sum_one]; unfold colP mkWs; dsimp only; congr 1; (first | lia | omega)
  have n2 : (mkWs (scan (enc q.1 q.2))).n = (colP 1 q : Nat) := by rw [scan_enc, sum_one]; unfold colP mkWs; dsimp only; congr 1; (first | lia | omega)
  have c1 : (mkWs (scan (enc p.1 p.2))).cnt = cntOf p.1 := by rw [scan_enc]; rfl
  have c2 : (mkWs (scan (enc q.1 q.2))).cnt = cntOf q.1 := by rw [scan_enc]; rfl
  have t1 : (mkWs (scan (enc p.1 p.2))).nt = p.1.length := by rw [scan_enc]; rfl
  have t2 : (mkWs (scan (enc q.1 q.2))).nt = q.1.length := by rw [scan_enc]; rfl
  rw [n1, n2, c1, c2, t1, t2]
  by_cases h1 : ((colP 1 p : Nat) : Int) ≥ ((colP 1 q : Nat) : Int)
  · rw [if_pos h1]
    constructor
    · intro h; cases h
    · intro h
      have := h 0 (by decide)
      rw [Nat.zero_add] at this
      (first | lia | omega)
  rw [if_neg h1]
  have h1' : colP 1 p < colP 1 q := by (first | lia | omega)
  by_cases h2 : (cntOf p.1).length ≤ 1 ∧ (cntOf q.1).length ≤ 1
  · rw [if_pos (by simp [h2.1, h2.2]), decide_eq_true_eq]
    have zp : ∀ ts, 1 ≤ ts → sumF ts p.1 = 0 := fun ts h => sumF_zero fun r hr => by have := cntOf_lt p.1 r hr; (first | lia | omega)
    have zq : ∀ ts, 1 ≤ ts → sumF ts q.1 = 0 := fun ts h => sumF_zero fun r hr => by have := cntOf_lt q.1 r hr; (first | lia | omega)
    constructor
    · intro hl j hj
      unfold colP at h1' ⊢
      rw [zp _ (by (first | lia | omega)), zq _ (by (first | lia | omega))] at h1' ⊢
      have hl' : p.1.length ≤ q.1.length := by (first | lia | omega)
      have := Nat.mul_le_mul_left j hl'
      rw [Nat.zero_add, Nat.zero_add, Nat.one_mul, Nat.one_mul] at h1'
      rw [Nat.zero_add, Nat.zero_add, Nat.add_mul, Nat.add_mul, Nat.one_mul, Nat.one_mul]
      (first | lia | omega)
    · intro h
      have h6 := h 5 (by decide)
      unfold colP at h6
      rw [zp _ (by (first | lia | omega)), zq _ (by (first | lia | omega))] at h6
      (first | lia | omega)
  · rw [if_neg (by simp; (first | lia | omega))]
    have tp := topP_le hp
    have tq := topP_le hq
    have e1 : (max ((topP p : Nat) : Int) ((topP q : Nat) : Int)).toNat = max (topP p) (topP q) := by (first | lia | omega)
    rw [e1]
    generalize hN : max (topP p) (topP q) = N
    have zp : ∀ ts, N < ts → sumF ts p.1 = 0 := fun ts h => sumF_zero fun r hr => by have := topP_run p r hr; (first | lia | omega)
    have zq : ∀ ts, N < ts → sumF ts q.1 = 0 := fun ts h => sumF_zero fun r hr => by have := topP_run q r hr; (first | lia | omega)
    have bp : p.2 ≤ N := by have : p.2 ≤ topP p := by { unfold topP; (first | lia | omega) }; (first | lia | omega)
    have bq : q.2 ≤ N := by have : q.2 ≤ topP q := by { unfold topP; (first | lia | omega) }; (first | lia | omega)
    have l2 : ∀ (i : Nat) (r : List Nat × Nat), lev (mkWs (scan (enc r.1 r.2))) (2 + (i : Int)) = (colP (i + 2) r : Nat) := by
      intro i r
      have e : (2 + (i : Int)) = ((i + 2 : Nat) : Int) := by (first | lia | omega)
      rw [e, lev_scan (by (first | lia | omega))]
    rw [List.all_eq_true]
    constructor
    · intro h j hj
      have h' : ∀ i, i < N → colP (i + 2) p < colP (i + 2) q := fun i hi => by
        have := of_decide_eq_true (h i (List.mem_range.mpr hi))
        rw [l2, l2] at this
        (first | lia | omega)
      have low : ∀ j, j ≤ N → colP (j + 1) p < colP (j + 1) q := by
        intro j hj
        cases j with
        | zero => exact h1'
        | succ j => exact h' j hj
      by_cases hjN : j ≤ N
      · exact low j hjN
      · have h3 := low N (Nat.le_refl _)
        obtain ⟨d, rfl⟩ : ∃ d, j = N + d := ⟨j - N, by (first | lia | omega)⟩
        unfold colP at h3 ⊢
        rw [zp _ (by (first | lia | omega)), zq _ (by (first | lia | omega))] at h3 ⊢
        rw [show N + d + 1 = N + 1 + d by (first | lia | omega)]
        exact far (by (first | lia | omega)) (by (first | lia | omega)) h3
    · intro h i hi
      have hi' := List.mem_range.mp hi
      have := h (i + 1) (by (first | lia | omega))
      rw [decide_eq_true_eq, l2, l2]
      have e : i + 1 + 1 = i + 2 := rfl
      rw [e] at this
      (first | lia | omega)
theorem less_gt {ps : List (List Nat × Nat)} (h : LOk 4 ps) {i j : Nat} (hi : i ≤ 5) (hj : j ≤ 5) : lessA ps i j = gtF (colAt ps j) (colAt ps i) := by
  have h1 := less_lead (lead_ok h hi) (lead_ok h hj)
  rw [← ws_at h hi, ← ws_at h hj, ← gt_at h hi hj] at h1
  unfold lessA
  cases e1 : lessF (wsAt ps i) (wsAt ps j) <;> cases e2 : gtF (colAt ps j) (colAt ps i) <;> simp_all
theorem sumF_cons (ts a : Nat) (r : List Nat) : sumF ts (a :: r) = a / ts + sumF ts r := rfl
theorem sumF_counts (rs : List Nat) (h : ∀ r ∈ rs, r ≤ 5) : rs.length = rs.count 0 + rs.count 1 + rs.count 2 + rs.count 3 + rs.count 4 + rs.count 5 ∧ sumF 1 rs = rs.count 1 + 2 * rs.count 2 + 3 * rs.count 3 + 4 * rs.count 4 + 5 * rs.count 5 ∧ sumF 2 rs = rs.count 2 + rs.count 3 + 2 * rs.count 4 + 2 * rs.count 5 ∧ sumF 3 rs = rs.count 3 + rs.count 4 + rs.count 5 ∧ sumF 4 rs = rs.count 4 + rs.count 5 ∧ sumF 5 rs = rs.count 5 := by
  induction rs with
  | nil => simp [sumF]
  | cons a r ih =>
    refine nmG fun gG9 kG9 => ?_
    obtain ⟨i0, i1, i2, i3, i4, i5⟩ := ih fun x hx => h x (.tail _ hx)
    refine kG9 ?_
    clear kG9 gG9
    have ha := h a (.head _)
    have : a = 0 ∨ a = 1 ∨ a = 2 ∨ a = 3 ∨ a = 4 ∨ a = 5 := by (first | lia | omega)
    simp only [sumF_cons, List.length_cons, List.count_cons]
    rw [i0, i1, i2, i3, i4, i5]
    clear i0 i1 i2 i3 i4 i5 ih h ha
    rcases this with rfl | rfl | rfl | rfl | rfl | rfl <;> refine ⟨?_, ?_, ?_, ?_, ?_, ?_⟩ <;> simp <;> (first | lia | omega)
theorem tri {a0 a1 a2 a3 a4 a5 b0 b1 b2 b3 b4 b5 : Nat} (h5 : a5 = b5) (h4 : a4 + a5 = b4 + b5) (h3 : a3 + a4 + a5 = b3 + b4 + b5) (h2 : a2 + a3 + 2 * a4 + 2 * a5 = b2 + b3 + 2 * b4 + 2 * b5)
    (h1 : a1 + 2 * a2 + 3 * a3 + 4 * a4 + 5 * a5 = b1 + 2 * b2 + 3 * b3 + 4 * b4 + 5 * b5) (h0 : a0 + a1 + a2 + a3 + a4 + a5 = b0 + b1 + b2 + b3 + b4 + b5) : a0 = b0 ∧ a1 = b1 ∧ a2 = b2 ∧ a3 = b3 ∧ a4 = b4 ∧ a5 = b5 := by
  subst h5
  have e4 : a4 = b4 := by clear h0 h1 h2 h3; (first | lia | omega)
  subst e4
  have e3 : a3 = b3 := by clear h0 h1 h2 h4; (first | lia | omega)
  subst e3
  have e2 : a2 = b2 := by clear h0 h1 h3 h4; (first | lia | omega)
  subst e2
  have e1 : a1 = b1 := by clear h0 h2 h3 h4; (first | lia | omega)
  subst e1
  have e0 : a0 = b0 := by clear h1 h2 h3 h4; (first | lia | omega)
  exact ⟨e0, rfl, rfl, rfl, rfl, rfl⟩
theorem six {b b' l l' : Nat} (hb : b ≤ 5) (hb' : b' ≤ 5) (h : b + 6 * (0 + l) = b' + 6 * (0 + l')) : b = b' ∧ l = l' := by (first | lia | omega)
theorem one {b l s s' t : Nat} (ht : 0 < t) (h : b + t * (s + l) = b + t * (s' + l)) : s = s' := by
  have h1 : t * (s + l) = t * (s' + l) := by (first | lia | omega)
  have h2 := Nat.eq_of_mul_eq_mul_left ht h1
  (first | lia | omega)
theorem eq_lead {p q : List Nat × Nat} (hp : Ld p) (hq : Ld q) : (cntOf p.1 = cntOf q.1 ∧ p.2 = q.2) ↔ ∀ j, j < 6 → colP (j + 1) p = colP (j + 1) q := by
  have s6p := sumF_zero (ts := 6) (rs := p.1) fun r hr => by have := hp.r r hr; (first | lia | omega)
  have s6q := sumF_zero (ts := 6) (rs := q.1) fun r hr => by have := hq.r r hr; (first | lia | omega)
  constructor
  · rintro ⟨h1, h2⟩
    have hc : ∀ k, p.1.count k = q.1.count k := by
      intro k
      have e1 := cntOf_getD p.1 k
      rw [h1, cntOf_getD] at e1
      exact (Int.ofNat_inj.mp e1).symm
    refine nmG fun gG9 kG9 => ?_
    obtain ⟨a0, a1, a2, a3, a4, a5⟩ := sumF_counts p.1 hp.r
    obtain ⟨b0, b1, b2, b3, b4, b5⟩ := sumF_counts q.1 hq.r
    refine kG9 ?_
    clear kG9 gG9
    rw [all6]
    unfold colP
    simp only [Nat.zero_add, Nat.reduceAdd]
    rw [a0, a1, a2, a3, a4, a5, b0, b1, b2, b3, b4, b5, s6p, s6q, hc, hc, hc, hc, hc, hc, h2]
    exact ⟨rfl, rfl, rfl, rfl, rfl, rfl⟩
  · intro h
    have h5 := h 5 (by decide)
    unfold colP at h5
    rw [show 5 + 1 = 6 from rfl, s6p, s6q] at h5
    obtain ⟨hb, hl⟩ := six hp.b hq.b h5
    have e : ∀ j, j < 5 → sumF (j + 1) p.1 = sumF (j + 1) q.1 := fun j hj => by
      have h' := h j (by (first | lia | omega))
      unfold colP at h'
      rw [hb, hl] at h'
      exact one (Nat.succ_pos j) h'
    have e1 := e 0 (by decide)
    have e2 := e 1 (by decide)
    have e3 := e 2 (by decide)
    have e4 := e 3 (by decide)
    have e5 := e 4 (by decide)
    rw [show 0 + 1 = 1 from rfl] at e1
    rw [show 1 + 1 = 2 from rfl] at e2
    rw [show 2 + 1 = 3 from rfl] at e3
    rw [show 3 + 1 = 4 from rfl] at e4
    rw [show 4 + 1 = 5 from rfl] at e5
    refine nmG fun gG9 kG9 => ?_
    obtain ⟨a0, a1, a2, a3, a4, a5⟩ := sumF_counts p.1 hp.r
    obtain ⟨b0, b1, b2, b3, b4, b5⟩ := sumF_counts q.1 hq.r
    rw [a0, b0] at hl
    rw [a1, b1] at e1
    rw [a2, b2] at e2
    rw [a3, b3] at e3
    rw [a4, b4] at e4
    rw [a5, b5] at e5
    obtain ⟨k0, k1, k2, k3, k4, k5⟩ := tri e5 e4 e3 e2 e1 hl
    refine kG9 ?_
    clear kG9 gG9
    refine ⟨cntOf_eq fun k => ?_, hb⟩
    by_cases hk : k ≤ 5
    · have : k = 0 ∨ k = 1 ∨ k = 2 ∨ k = 3 ∨ k = 4 ∨ k = 5 := by clear a0 a1 a2 a3 a4 a5 b0 b1 b2 b3 b4 b5 e1 e2 e3 e4 e5 hl k0 k1 k2 k3 k4 k5; (first | lia | omega)
      rcases this with rfl | rfl | rfl | rfl | rfl | rfl <;> assumption
    · rw [List.count_eq_zero.mpr fun hm => hk (hp.r _ hm), List.count_eq_zero.mpr fun hm => hk (hq.r _ hm)]
theorem eqA_iff {ps : List (List Nat × Nat)} (h : LOk 4 ps) {i j : Nat} (hi : i ≤ 5) (hj : j ≤ 5) : eqA ps i j = decide (colAt ps i = colAt ps j) := by
  unfold eqA
  refine decide_eq_decide.mpr ?_
  have h1 := eq_lead (lead_ok h hi) (lead_ok h hj)
  have c : ∀ {k}, k ≤ 5 → (wsAt ps k).cnt = cntOf (leadP ps k).1 ∧ (wsAt ps k).b = ((leadP ps k).2 : Nat) := fun hk => by rw [ws_at h hk, scan_enc]; exact ⟨rfl, rfl⟩
  rw [(c hi).1, (c hi).2, (c hj).1, (c hj).2]
  have h2 : (cntOf (leadP ps i).1 = cntOf (leadP ps j).1 ∧ ((leadP ps i).2 : Int) = ((leadP ps j).2 : Int)) ↔ (cntOf (leadP ps i).1 = cntOf (leadP ps j).1 ∧ (leadP ps i).2 = (leadP ps j).2) := by
    constructor
    · rintro ⟨a, b⟩; exact ⟨a, by (first | lia | omega)⟩
    · rintro ⟨a, b⟩; exact ⟨a, by (first | lia | omega)⟩
  rw [h2, h1]
  constructor
  · intro hh
    apply List.ext_getElem (by rw [col_len, col_len])
    intro k hk1 hk2
    have hk : k < 6 := by rw [col_len] at hk1; exact hk1
    have e1 := col_at h hi hk
    have e2 := col_at h hj hk
    rw [List.getD_eq_getElem?_getD, List.getElem?_eq_getElem hk1] at e1
    rw [List.getD_eq_getElem?_getD, List.getElem?_eq_getElem hk2] at e2
    have := hh k hk
    simp only [Option.getD_some] at e1 e2
    (first | lia | omega)
  · intro hh k hk
    have e1 := col_at h hi hk
    have e2 := col_at h hj hk
    rw [hh, e2] at e1
    (first | lia | omega)
theorem fmax_app : ∀ (l : List Nat) (a : Nat), l.foldl max a = max a (l.foldl max 0) := by
  intro l
  induction l with
  | nil => intro a; simp
  | cons b r ih => intro a; rw [List.foldl_cons, List.foldl_cons, ih, ih (max 0 b), Nat.zero_max, Nat.max_assoc]
theorem fmax_top (rs : List Nat) : rs.foldl max 0 = (cntOf rs).length - 1 := by
  apply Nat.le_antisymm
  · have : ∀ (l : List Nat) (a M : Nat), a ≤ M → (∀ x ∈ l, x ≤ M) → l.foldl max a ≤ M := by
      intro l
      induction l with
      | nil => intro a M h _; exact h
      | cons b r ih => intro a M h h2; exact ih _ _ (Nat.max_le.mpr ⟨h, h2 b (.head _)⟩) fun x hx => h2 x (.tail _ hx)
    exact this _ _ _ (Nat.zero_le _) fun x hx => by have := cntOf_lt rs x hx; (first | lia | omega)
  · rcases cntOf_top rs with h | h
    · (first | lia | omega)
    · have : ∀ (l : List Nat) (a x : Nat), x ∈ l → x ≤ l.foldl max a := by
        intro l
        induction l with
        | nil => intro a x hx; cases hx
        | cons b r ih =>
          intro a x hx
          rw [List.foldl_cons]
          rcases mcs hx with rfl | hx
          · rw [fmax_app]; (first | lia | omega)
          · exact ih _ _ hx
      exact this _ _ _ h
theorem most_top {ps : List (List Nat × Nat)} {i j : Nat} (hi : 1 ≤ i) (hj : 1 ≤ j) : mostF ps i j = max (topP (leadP ps i)) (topP (leadP ps j)) := by
  unfold mostF runsAt leadP topP
  rw [if_neg (by (first | lia | omega)), if_neg (by (first | lia | omega))]
  dsimp only
  rw [List.foldl_append, fmax_app, List.foldl_append, List.foldl_append, fmax_top, fmax_top]
  rfl
theorem words_eq {ps : List (List Nat × Nat)} (h : LOk 4 ps) {i j : Nat} (hi : 1 ≤ i ∧ i ≤ 5) (hj : 1 ≤ j ∧ j ≤ 5) : (witA ps i j).map (·.1) = sizesF (colAt ps i) (colAt ps j) (mostF ps i j + 1) := by
  unfold witA witF sizesF
  rw [List.map_map, most_top hi.1 hj.1, ws_at h hi.2, ws_at h hj.2, lng_lead, lng_lead]
  have e1 : (max ((topP (leadP ps i) : Nat) : Int) ((topP (leadP ps j) : Nat) : Int)).toNat = max (topP (leadP ps i)) (topP (leadP ps j)) := by (first | lia | omega)
  rw [e1]
  have t1 := topP_le (lead_ok h hi.2)
  have t2 := topP_le (lead_ok h hj.2)
  have e2 : (List.range (max (topP (leadP ps i)) (topP (leadP ps j)) + 1)).filter (fun (k : Nat) => decide (lev (mkWs (scan (enc (leadP ps i).1 (leadP ps i).2))) (1 + (k : Int)) ≥ lev (mkWs (scan (enc (leadP ps j).1 (leadP ps j).2))) (1 + (k : Int)))) =
      (List.range (max (topP (leadP ps i)) (topP (leadP ps j)) + 1)).filter (fun k => decide ((colAt ps i).getD k 0 ≥ (colAt ps j).getD k 0)) := by
    apply List.filter_congr
    intro k hk
    have hk' := List.mem_range.mp hk
    have e3 : (1 + (k : Int)) = ((k + 1 : Nat) : Int) := by (first | lia | omega)
    rw [e3, lev_scan (by (first | lia | omega)), lev_scan (by (first | lia | omega)), col_at h hi.2 (by (first | lia | omega)), col_at h hj.2 (by (first | lia | omega))]
  rw [e2]
  apply List.map_congr_left
  intro k _
  show (1 : Int) + k = k + 1
  (first | lia | omega)
end Mine
end
theorem Mine.rstL14 : True := by
  w_top off
  trivial
section
open PySem PySem.W PyProof.Rows PySem.Calls PySem.Spec PyProof.V
set_option Elab.async false
set_option maxRecDepth 100000
set_option maxHeartbeats 1000000
namespace Mine
noncomputable def LeaveT (L₀ : Addr) (h₀ : Heap) (m : Str → Option Value) (g : Heap) (R : Result → Shared → Prop) (v : Value) (s' : Shared) : Prop :=
  ∃ g' L' m' news', KtsTurn [L₀] g g' ∧ Fr g' L' s'.heap m' ∧ News g' L' s'.heap news' ∧ (Fr h₀ L₀ s'.heap m → News h₀ L₀ s'.heap news' → R (.ok (.ret v)) s')
section
variable {prog : Program} {w : World} {A₀ A : Around} {s : Shared} {base h₀ g₀ : Heap} {L a : Addr} {m : Str → Option Value} {cn : Str} {cs : Scope} {ccd : Value} {cl : List (Str × Addr)} {news : List (Addr × Obj)} {K : Frag} {p : Program} {loose : List Str} {mean : ExcName → Option Value} {mg mb : Str → Option Value}
    {R : Result → Shared → Prop} {name qual : Str} {params : Arguments} {body : List Stmt} {scope : Scope} {dV kV doc pm cdv ct oc : Value} {an od : Option Addr} {osl : Array (Option Value)} {f : Addr} {args : Args} {binds : List (Str × Value)}
theorem code_defT (B : Below A₀ base [] h₀) (F : Fr h₀ L s.heap m) (X₀ : K.In h₀) (N : News h₀ L s.heap news) (T : Top p loose mean mg mb h₀) (hA : A.frames = some [envX cn cs L a ccd cl])
    (ho : K.lookup f = some ⟨oc, od, .func (fnOf name qual params body scope dV kV doc pm an cdv ct), osl⟩) (hcd : codeIn K cdv qual = true) (hroom : A.depth < recursionLimit)
    (hbind : BindsTo s (fnOf name qual params body scope dV kV doc pm an cdv ct) args binds) (hloc : ∀ y ∈ binds, scope.names.lookup y.1 = some .local)
    (h : ∀ g L' h₁, Fr h₀ L g m → Fr g L' h₁ (fun y => binds.reverse.lookup y) → News g L' h₁ news → Below A base [envX cn cs L a ccd cl] g → K.In g → Top p loose mean mg mb g → KtsDicts [L] g →
      wpAny (model prog w) (A.deeper (envOf qual scope L' f cdv)) (execs body (envOf qual scope L' f cdv))
        (fun fl s' => LeaveT L h₀ m g R (match fl with | .ret v => v | _ => .none) s')
        (fun e s' => wpAny (model prog w) (A.deeper (envOf qual scope L' f cdv)) (leaving (envOf qual scope L' f cdv) e) (fun _ s'' => R (.error e) s'') (fun e' s'' => R (.error e') s'') s')
        { s with heap := h₁, toks := s.toks + binds.length })
    (hck : cs.kind = .function) (hco : scope.isCoroutine = false) (hgen : scope.isGenerator = false) (hk : scope.kind = .function)
    (hcell : ∀ x ∈ scope.names, x.2 ≠ .cell) : codeAny (model prog w) A (.call (.ref f) args) R s := by
  have X := X₀.keeps F.keep
  refine codeAny_call_def (fd := fnOf name qual params body scope dV kV doc pm an cdv ct) (body := body) (binds := binds) hroom (X _ _ ho) rfl (T.nolimit.keeps F.keep) (codeRec_of X hcd) rfl hbind hcell hloc (fun h₁ hns hk₁ => ?_) hco hgen hk
  have nm : ∀ b o, h₀.get? b = some o → b ∉ news.map (·.1) := fun b o e q => by
    obtain ⟨p, hp, rfl⟩ := List.mem_map.mp q
    rw [(N p hp).2.2] at e; cases e
  have st : h₀.StaysIn (hideAll s.heap (news.map (·.1))) := fun b o e => hideAll_get _ (F.keep b o e) (nm b o e)
  refine nmG fun gG9 kG9 => ?_
  refine ex3 (F.ns) ?_
  intro oL es ep y9w1
  refine an4 (y9w1) ?_
  intro hL hLd hLk hLf
  clear y9w1
  refine kG9 ?_
  clear kG9 gG9
  have nL : L ∉ news.map (·.1) := fun q => by
    refine nmG fun gG9 kG9 => ?_
    obtain ⟨p, hp, e⟩ := List.mem_map.mp q
    refine kG9 ?_
    clear kG9 gG9
    exact (N p hp).2.1 e
  have hLg := hideAll_get (news.map (·.1)) hL nL
  have B₁ := push_X (name := cn) (a := a) (cd := ccd) (cells := cl) B F hck
  have hN : ∀ h', h'.get? L = some oL → Heap.Ns h' L m := fun h' e => ⟨oL, es, ep, e, hLd, hLk, hLf⟩
  have hNs : ∀ (sl : Array (Option Value)) h', h'.get? L = some { oL with slots := sl } → Heap.Ns h' L m := fun sl h' e => ⟨_, es, ep, e, hLd, hLk, hLf⟩
  have B₂ : Below A base [envX cn cs L a ccd cl] (hideAll s.heap (news.map (·.1))) := ⟨hA, fun b o e => st b o (B.stays b o e), funFrames_hideAll B₁.frames fun env he b hb hf => by
    rcases mcs he with rfl | he
    · exact nL ((Option.some.inj hf : L = b) ▸ hb)
    · exact nomatch he⟩
  refine wpAny_mono (h _ s.heap.objs.size h₁ ⟨hN _ hLg, st, F.above⟩ ⟨hns, fun b o e => hk₁ b o (of_hideAll _ e), Nat.le_of_eq (hideAll_size _ _)⟩
    (fun p hp => ⟨hk₁ _ _ (N p hp).1, Nat.ne_of_lt (Heap.lt_size (N p hp).1), hideAll_none _ (List.mem_map_of_mem hp)⟩) B₂ (X₀.keeps st) (T.keeps st) (fun b hb => by
      rw [List.mem_singleton.mp hb]
      exact ⟨oL, es, ep, hLg, hLd⟩)) (fun fl s' hl => ?_) fun _ _ y => y
  refine nmG fun gG9 kG9 => ?_
  refine ex4 (hl) ?_
  intro g' L' m' news' y9w1
  refine an4 (y9w1) ?_
  intro T' F' N' k
  clear y9w1
  try clear hl
  have nL₀ : h₀.get? L = none := kts_self F
  obtain ⟨sl, hs⟩ := T'.up hLg
  refine kG9 ?_
  clear kG9 gG9
  refine k ⟨hNs sl _ (F'.keep _ _ hs), fun b o e => F'.keep b o (T'.other b o (st b o e) (fun q => by
    rw [List.mem_singleton.mp q, nL₀] at e
    cases e)), F.above⟩ fun p hp => ⟨(N' p hp).1, fun q => ?_, ?_⟩
  · have := (N' p hp).2.2; rw [q, hs] at this; cases this
  · cases q : h₀.get? p.1 with
    | none => rfl
    | some o =>
      obtain ⟨sl', hs'⟩ := T'.up (st _ _ q)
      have := (N' p hp).2.2
      rw [hs'] at this
      cases this
end
section
variable {prog : Program} {w : World} {A : Around} {E : Value → Shared → Prop} {s : Shared} {env : Env} {x : Str} {body : List Stmt} {Q : Flow → Shared → Prop}
noncomputable def StepT (L I : Addr) (J : Heap → (Str → Option Value) → List (Addr × Obj) → Prop) (oI : Obj) (s₁ : Shared) (f : Flow) (s₂ : Shared) : Prop :=
  f = .next ∧ ∃ g h' tk gs m₂ nn, s₂ = { s₁ with heap := h', toks := tk, gens := gs } ∧ AllBare gs ∧ Fr g L h' m₂ ∧ News g L h' ((I, oI) :: nn) ∧ (∀ p ∈ nn, p.1 ≠ I) ∧ J g m₂ nn
theorem For_T {px pos : Pos} {iter : Expr} (hx : env.kindOf x = some .local) (hp : (env.scope.kind == .class || (env.scope.kind == .module && env.locals != env.globals)) = false) (hh : A.handled = none)
    (h : wpAny (model prog w) A (eval iter env) (fun xv s₁ => Hold (∃ (r : Addr) (a₀ b₀ : Int) (t₀ u₀ v₀ : Tok) (n : Nat) (g₀ : Heap) (m₀ : Str → Option Value) (news : List (Addr × Obj)) (J : Nat → Heap → (Str → Option Value) → List (Addr × Obj) → Prop),
      xv = .ref r ∧ IsRange s₁.heap r a₀ b₀ 1 t₀ u₀ v₀ ∧ (-1000000 ≤ a₀ ∧ a₀ ≤ 1000000) ∧ (-1000000 ≤ b₀ ∧ b₀ ≤ 1000000) ∧ n = (b₀ - a₀).toNat ∧ Fr g₀ env.locals s₁.heap m₀ ∧ News g₀ env.locals s₁.heap news ∧ AllBare s₁.gens ∧ J 0 g₀ m₀ news ∧
      (∀ (i : Nat) (t : Tok) g m₁ nn h tk gs I oI, AllBare gs → i < n → oI.cls = .type "range_iterator" → J i g m₁ nn → (∀ p ∈ nn, p.1 ≠ I) → Fr g env.locals h (fun y => if y = x then some (.int (a₀ + (i : Int)) t) else m₁ y) → News g env.locals h ((I, oI) :: nn) →
        wpAny (model prog w) A (execs body env) (StepT env.locals I (J (i + 1)) oI { s₁ with heap := h, toks := tk, gens := gs }) E { s₁ with heap := h, toks := tk, gens := gs }) ∧
      (∀ g m' nn h' tk gs, AllBare gs → J n g m' nn → Fr g env.locals h' m' → News g env.locals h' nn → Q .next { s₁ with heap := h', toks := tk, gens := gs }))) E s)
    (hs : ∀ x, foldedSetIterable iter env x = pure x) (hE : PassesOwn (model prog w) A env E) :
    wpAny (model prog w) A (exec (.For (.Name x px) iter body [] pos) env) Q E s := by
  refine wpAny_For (wpAny_mono h (fun xv s₁ h₁ => ?_) fun _ _ e => e) hs
  refine nmG fun gG9 kG9 => ?_
  refine ex11 (h₁) ?_
  intro r a₀ b₀ t₀ u₀ v₀ n g₀ m₀ news J y9w1
  refine an11 (y9w1) ?_
  intro y9z2 hr ha hb hn F N G hJ0 step hQ
  clear y9w1
  try clear h₁
  subst y9z2
  obtain ⟨hsz, hsmall⟩ := rsize' ha hb hn
  refine kG9 ?_
  clear kG9 gG9
  refine wpAny_pyIter_range hr hsmall ?_
  rw [hsz]
  have W : Walks prog w A s₁.heap.objs.size [s₁.heap.objs.size] [s₁.heap.objs.size] n (fun i v => ∃ t, v = .int (a₀ + i * 1) t)
      (fun i h => IsRangeIter h s₁.heap.objs.size (a₀ + (i : Nat) * 1) ((n : Int) - (i : Nat)) 1) := Walks.range hh _ a₀ 1 n
  have hN1 : ∀ p ∈ news, p.1 ≠ s₁.heap.objs.size := fun p hp => Nat.ne_of_lt (Heap.lt_size (N p hp).1)
  have hIg : g₀.get? s₁.heap.objs.size = none := next_is_new F
  have hIL : env.locals ≠ s₁.heap.objs.size := Nat.ne_of_lt F.ns.lt
  have F0 := F.push { cls := .type "range_iterator", data := .fields #[.int a₀ 0, .int n 0, .int 1 0] }
  refine codeAny_forLoop
    (fun k s' => ∃ g h' tk gs m' nn i, s' = { s₁ with heap := h', toks := tk, gens := gs } ∧ AllBare gs ∧ IsRangeIter h' s₁.heap.objs.size (a₀ + (i : Nat) * 1) ((n : Int) - (i : Nat)) 1 ∧ Fr g env.locals h' m' ∧ News g env.locals h' nn ∧ (∀ p ∈ nn, p.1 ≠ s₁.heap.objs.size) ∧ g.get? s₁.heap.objs.size = none ∧ J i g m' nn ∧ i ≤ n ∧ k = n + 1 - i) ?_ (n + 1)
    ⟨g₀, _, _, s₁.gens, m₀, news, 0, rfl, G, by simpa using Heap.get?_push_size _ rfl, F.push _, fun p hp => ⟨Heap.get?_push_of_some _ (N p hp).1, (N p hp).2⟩, hN1, hIg, hJ0, Nat.zero_le _, rfl⟩
  intro k s' hz9
  refine nmG fun gG9 kG9 => ?_
  refine ex7 (hz9) ?_
  intro g h' tk gs m' nn i y9w1
  refine an10 (y9w1) ?_
  intro y9z2 G' hst' F' N' hnI hgI hJ hi y9z4
  clear y9w1
  try clear hz9
  subst y9z2
  subst y9z4
  refine kG9 ?_
  clear kG9 gG9
  have next : ∀ h₁ : Heap, (∀ b o, b ∉ [s₁.heap.objs.size] → h'.get? b = some o → h₁.get? b = some o) → Fr g env.locals h₁ m' ∧ News g env.locals h₁ nn := fun h₁ hk₁ =>
    ⟨⟨F'.ns.at' fun o e => hk₁ _ o (by simpa using hIL) e, fun b o e => hk₁ b o (by
      intro hm
      rw [List.mem_singleton.mp hm, hgI] at e; cases e) (F'.keep b o e), F'.above⟩, fun p hp => ⟨hk₁ _ _ (by simpa using hnI p hp) (N' p hp).1, (N' p hp).2⟩⟩
  by_cases hlt : i < n
  · refine W.item i _ _ _ hlt hst' fun v h₁ tk₁ hP hst₁ hk₁ => ?_
    obtain ⟨F₁, N₁⟩ := next h₁ hk₁
    refine wpAny_assign_Name (wpAny_storeName_local hx F₁.ns (fun h₂ hn₂ hs₂ => ?_) hp)
    have F₂ := F₁.set hn₂ hs₂
    have hI2 := hs₂.2 s₁.heap.objs.size hIL.symm
    obtain ⟨t, rfl⟩ := hP
    have e1 : a₀ + (i : Int) * 1 = a₀ + (i : Int) := by omega
    rw [e1] at F₂
    have NI : News g env.locals h₂ ((s₁.heap.objs.size, _) :: nn) := fun p hp => by
      rcases mcs hp with rfl | hp
      · exact ⟨hI2.trans hst₁, hIL.symm, hgI⟩
      · exact (N₁.set hs₂) p hp
    refine wpAny_mono (wpAny_passesOwn hE (step i t g m' nn _ _ _ _ _ G' hlt rfl hJ hnI F₂ NI)) (fun f s₃ h₃ => ?_) fun _ _ e => e
    refine nmG fun gG9 kG9 => ?_
    refine an2 (h₃) ?_
    intro y9z1 y9w2
    refine ex6 (y9w2) ?_
    intro g₃ h₃' tk₃ gs₃ m₂ nn₂ y9w3
    refine an6 (y9w3) ?_
    intro y9z4 G₃ F₃ N₃ hn₃ hJ₃
    clear y9w3 y9w2
    try clear h₃
    subst y9z1
    subst y9z4
    refine kG9 ?_
    clear kG9 gG9
    exact ⟨n + 1 - (i + 1), by omega, g₃, h₃', tk₃, gs₃, m₂, nn₂, i + 1, rfl, G₃, (N₃ _ (.head _)).1, F₃, fun p hp => N₃ p (.tail _ hp), hn₃, (N₃ _ (.head _)).2.2, hJ₃, hlt, rfl⟩
  · have hin : i = n := by omega
    subst hin
    refine W.done _ _ _ hst' fun h₁ tk₁ hk₁ => wpAny_execs_nil ?_
    obtain ⟨F₁, N₁⟩ := next h₁ hk₁
    exact hQ g m' nn h₁ tk₁ gs G' hJ F₁ N₁
end
end Mine
end
theorem Mine.rstB11 : True := by
  w_top off
  trivial
section
open PySem PySem.W PyProof.Rows PySem.Calls PySem.Spec PyProof.V
set_option Elab.async false
set_option maxRecDepth 100000
set_option maxHeartbeats 8000000
namespace Mine
local macro_rules | `(tactic| k_mem) => `(tactic| first | assumption | exact List.Mem.head _ | (refine List.Mem.tail _ ?_; k_mem))
local macro_rules | `(tactic| k_all) => `(tactic| first | assumption | exact ne_of_l1 (by assumption))
local macro_rules | `(tactic| k_ne) => `(tactic| first | assumption | (refine Ne.symm ?_; assumption))
section
variable {w : World} {mean : ExcName → Option Value} {mg mb : Str → Option Value} {dp un : Nat} {gd : Option (List Code)} {cn : Str} {cs : Scope} {a : Addr} {ccd : Value} {cl : List (Str × Addr)} {outer : List Env} {A₀ : Around} {base h₀ : Heap} {L : Addr} {m : Str → Option Value} {s : Shared} {Q E : Value → Shared → Prop} {news : List (Addr × Obj)}
end
namespace Zsettle_ct
noncomputable def ctS (w : World) (mean : ExcName → Option Value) (mg : Str → Option Value) (mb : Str → Option Value) (dp : Nat) (un : Nat) (gd : Option (List Code)) (cn : Str) (cs : Scope) (a : Addr) (ccd : Value) (cl : List (Str × Addr)) (outer : List Env) (A₀ : Around) (base : Heap) (h₀ : Heap) (L : Addr) (m : Str → Option Value) (s : Shared) (Q : Value → Shared → Prop) (E : Value → Shared → Prop) (news : List (Addr × Obj)) (ps : List (List Nat × Nat)) (pl : Addr) (pg : Addr) (vs : List Value) (pv : List Value) (e : Nat) (ep : Nat) (ks : List Nat) (tb : Array Value) (R : List (Addr × Obj)) (place : Nat) (t : Tok) : Prop := Bx (
  ∀ (hO : LOk 4 ps) (C : At w mean mg mb 3 dp un cs outer A₀ base h₀ L m ((pl, { cls := .type "list", data := .seq vs.toArray e }) :: (180, tabObj tb) :: R) s.heap) (G : AllBare s.gens) (hTab : TabOk tb) (hR : ∀ q ∈ R, q.1 ≠ pl ∧ q.1 ≠ 180) (hp : PileAre R ps vs ks) (hks : ks ≠ []) (hkl : ks.length ≤ 6) (hk5 : ∀ k ∈ ks, k ≤ 5) (mp : (pg, ({ cls := .type "list", data := .seq pv.toArray ep } : Obj)) ∈ R) (hS : StrsAre pv (rowsF ps)) (h1 : 1 ≤ place) (h5 : place ≤ 5) (hret : ∀ ks' v, settleF ps ks place = some (ks', v) → ∀ vs' e' tb' R' t' h' tk' gs, TabOk tb' → AllBare gs → Fr h₀ L h' m → News h₀ L h' ((pl, { cls := .type "list", data := .seq vs'.toArray e' }) :: (180, tabObj tb') :: R') → (∀ q ∈ R', q.1 ≠ pl ∧ q.1 ≠ 180) → (∀ q ∈ R, q ∈ R') → PileAre R' ps vs' ks' → Q (.int (v : Int) t') { s with heap := h', toks := tk', gens := gs }) (hexc : settleF ps ks place = none → ∀ G' x dx es n tb' R' t1 t2 t3 h' tk' gs, TabOk tb' → AllBare gs → Fr h₀ L G' m → RaisedD base G' (envX cn cs L a ccd cl :: outer) x (.ref 109) dx ((dx, dictOf es n) :: (pl, { cls := .type "list", data := .seq vs.toArray e }) :: (180, tabObj tb') :: R') h' → G'.UpToSlots h' → (∀ q ∈ R', q.1 ≠ pl ∧ q.1 ≠ 180) → (∀ q ∈ R, q ∈ R') →     NagD es (.int ((place : Int) + 1) t1) (.str (wordsF ((witA ps (ks.getLastD 0) place).map (·.1))) t2) (.str (rowAt ps place) t3) → E (.ref x) { s with heap := h', toks := tk', gens := gs }),
  wpAny (model PySem.Challenge.rw_xe0048_01.row.prog w) (ktrTop dp un gd cn cs L a ccd cl outer) (call (.ref 216) [.ref pl, .ref pg, .int (place : Int) t]) Q E s)
theorem ne : Nonempty (V0 × ((List (List Nat × Nat)) × (Addr) × (Addr) × (List Value) × (List Value) × (Nat) × (Nat) × (List Nat) × (Array Value) × (List (Addr × Obj)) × (Nat) × (Tok))) := ne_V ⟨(default, default, default, default, default, default, default, default, default, default, default, default)⟩
noncomputable def ctc : V0 × ((List (List Nat × Nat)) × (Addr) × (Addr) × (List Value) × (List Value) × (Nat) × (Nat) × (List Nat) × (Array Value) × (List (Addr × Obj)) × (Nat) × (Tok)) := pk ne fun v => ctS v.1.w v.1.mean v.1.mg v.1.mb v.1.dp v.1.un v.1.gd v.1.cn v.1.cs v.1.a v.1.ccd v.1.cl v.1.outer v.1.A₀ v.1.base v.1.h₀ v.1.L v.1.m v.1.s v.1.Q v.1.E v.1.news v.2.1 v.2.2.1 v.2.2.2.1 v.2.2.2.2.1 v.2.2.2.2.2.1 v.2.2.2.2.2.2.1 v.2.2.2.2.2.2.2.1 v.2.2.2.2.2.2.2.2.1 v.2.2.2.2.2.2.2.2.2.1 v.2.2.2.2.2.2.2.2.2.2.1 v.2.2.2.2.2.2.2.2.2.2.2.1 v.2.2.2.2.2.2.2.2.2.2.2.2
noncomputable def w : World := ctc.1.w
noncomputable def mean : ExcName → Option Value := ctc.1.mean
noncomputable def mg : Str → Option Value := ctc.1.mg
noncomputable def mb : Str → Option Value := ctc.1.mb
noncomputable def dp : Nat := ctc.1.dp
noncomputable def un : Nat := ctc.1.un
noncomputable def gd : Option (List Code) := ctc.1.gd
noncomputable def cn : Str := ctc.1.cn
noncomputable def cs : Scope := ctc.1.cs
noncomputable def a : Addr := ctc.1.a
noncomputable def ccd : Value := ctc.1.ccd
noncomputable def cl : List (Str × Addr) := ctc.1.cl
noncomputable def outer : List Env := ctc.1.outer
noncomputable def A₀ : Around := ctc.1.A₀
noncomputable def base : Heap := ctc.1.base
noncomputable def h₀ : Heap := ctc.1.h₀
noncomputable def L : Addr := ctc.1.L
noncomputable def m : Str → Option Value := ctc.1.m
noncomputable def s : Shared := ctc.1.s
noncomputable def Q : Value → Shared → Prop := ctc.1.Q
noncomputable def E : Value → Shared → Prop := ctc.1.E
noncomputable def news : List (Addr × Obj) := ctc.1.news
noncomputable def ps : List (List Nat × Nat) := ctc.2.1
noncomputable def pl : Addr := ctc.2.2.1
noncomputable def pg : Addr := ctc.2.2.2.1
noncomputable def vs : List Value := ctc.2.2.2.2.1
noncomputable def pv : List Value := ctc.2.2.2.2.2.1
noncomputable def e : Nat := ctc.2.2.2.2.2.2.1
noncomputable def ep : Nat := ctc.2.2.2.2.2.2.2.1
noncomputable def ks : List Nat := ctc.2.2.2.2.2.2.2.2.1
noncomputable def tb : Array Value := ctc.2.2.2.2.2.2.2.2.2.1
noncomputable def R : List (Addr × Obj) := ctc.2.2.2.2.2.2.2.2.2.2.1
noncomputable def place : Nat := ctc.2.2.2.2.2.2.2.2.2.2.2.1
noncomputable def t : Tok := ctc.2.2.2.2.2.2.2.2.2.2.2.2
noncomputable def ctA : (ctR : (Heap) → (Addr) → (Heap) → (Nat) → Prop) ×' (∀ (hO : LOk 4 ps) (C : At w mean mg mb 3 dp un cs outer A₀ base h₀ L m ((pl, { cls := .type "list", data := .seq vs.toArray e }) :: (180, tabObj tb) :: R) s.heap) (G : AllBare s.gens) (hTab : TabOk tb) (hR : ∀ q ∈ R, q.1 ≠ pl ∧ q.1 ≠ 180) (hp : PileAre R ps vs ks) (hks : ks ≠ []) (hkl : ks.length ≤ 6) (hk5 : ∀ k ∈ ks, k ≤ 5) (mp : (pg, ({ cls := .type "list", data := .seq pv.toArray ep } : Obj)) ∈ R) (hS : StrsAre pv (rowsF ps)) (h1 : 1 ≤ place) (h5 : place ≤ 5) (hret : ∀ ks' v, settleF ps ks place = some (ks', v) → ∀ vs' e' tb' R' t' h' tk' gs, TabOk tb' → AllBare gs → Fr h₀ L h' m → News h₀ L h' ((pl, { cls := .type "list", data := .seq vs'.toArray e' }) :: (180, tabObj tb') :: R') → (∀ q ∈ R', q.1 ≠ pl ∧ q.1 ≠ 180) → (∀ q ∈ R, q ∈ R') → PileAre R' ps vs' ks' → Q (.int (v : Int) t') { s with heap := h', toks := tk', gens := gs }) (hexc : settleF ps ks place = none → ∀ G' x dx es n tb' R' t1 t2 t3 h' tk' gs, TabOk tb' → AllBare gs → Fr h₀ L G' m → RaisedD base G' (envX cn cs L a ccd cl :: outer) x (.ref 109) dx ((dx, dictOf es n) :: (pl, { cls := .type "list", data := .seq vs.toArray e }) :: (180, tabObj tb') :: R') h' → G'.UpToSlots h' → (∀ q ∈ R', q.1 ≠ pl ∧ q.1 ≠ 180) → (∀ q ∈ R, q ∈ R') →     NagD es (.int ((place : Int) + 1) t1) (.str (wordsF ((witA ps (ks.getLastD 0) place).map (·.1))) t2) (.str (rowAt ps place) t3) → E (.ref x) { s with heap := h', toks := tk', gens := gs }), (∀ g0 L9 h0 k0, Bx (ctR g0 L9 h0 k0)) → wpAny (model PySem.Challenge.rw_xe0048_01.row.prog w) (ktrTop dp un gd cn cs L a ccd cl outer) (call (.ref 216) [.ref pl, .ref pg, .int (place : Int) t]) Q E s) := ⟨_, by
  intro hO C G hTab hR hp hks hkl hk5 mp hS h1 h5 hret hexc ctH
  k_with_none
  refine nmG fun gG9 kG9 => ?_
  obtain ⟨B, F, X, N, T, kf, hd, hu⟩ := C
  refine kG9 ?_
  clear kG9 gG9
  revert X
  k_fill
  intro X
  refine wpAny_call ?_
  k_dflt (refine' code_defC ?k1 ?k2 ?k3 ?k4 ?k5 ?kA ?kF ?kK ?k6 ?k7 ?k8 ?k9 ?kB ?kD ?_ ?c2 ?c3 ?c4; (case kA => exact rfl); (case kF => exact rfl); (case kK => assumption); (case k1 => k_asm); (case k2 => k_asm); (case k3 => k_asm); (case k4 => k_asm); (case k5 => k_asm); (case k6 => k_is); (case k7 => k_is); (case k8 => ktr_room); (case k9 => exact BindsTo.of_eq rfl); (case kB => exact rfl); (case kD => decide +kernel); (case c2 => exact rfl); (case c3 => exact rfl); (case c4 => exact rfl); k_whole; exact fun g0 L9 h0 k0 => (ctH g0 L9 h0 k0).out)⟩
theorem ned : Nonempty ((Heap) × (Addr) × (Heap) × (Nat)) := ⟨(default, default, default, default)⟩
noncomputable def ctd := pk ned fun v => Bx (ctA.1 v.1 v.2.1 v.2.2.1 v.2.2.2)
noncomputable def g0 : Heap := ctd.1
noncomputable def L9 : Addr := ctd.2.1
noncomputable def h0 : Heap := ctd.2.2.1
noncomputable def k0 : Nat := ctd.2.2.2
theorem ctB (hO : LOk 4 ps) (C : At w mean mg mb 3 dp un cs outer A₀ base h₀ L m ((pl, { cls := .type "list", data := .seq vs.toArray e }) :: (180, tabObj tb) :: R) s.heap) (G : AllBare s.gens) (hTab : TabOk tb) (hR : ∀ q ∈ R, q.1 ≠ pl ∧ q.1 ≠ 180) (hp : PileAre R ps vs ks) (hks : ks ≠ []) (hkl : ks.length ≤ 6) (hk5 : ∀ k ∈ ks, k ≤ 5) (mp : (pg, ({ cls := .type "list", data := .seq pv.toArray ep } : Obj)) ∈ R) (hS : StrsAre pv (rowsF ps)) (h1 : 1 ≤ place) (h5 : place ≤ 5) (hret : ∀ ks' v, settleF ps ks place = some (ks', v) → ∀ vs' e' tb' R' t' h' tk' gs, TabOk tb' → AllBare gs → Fr h₀ L h' m → News h₀ L h' ((pl, { cls := .type "list", data := .seq vs'.toArray e' }) :: (180, tabObj tb') :: R') → (∀ q ∈ R', q.1 ≠ pl ∧ q.1 ≠ 180) → (∀ q ∈ R, q ∈ R') → PileAre R' ps vs' ks' → Q (.int (v : Int) t') { s with heap := h', toks := tk', gens := gs }) (hexc : settleF ps ks place = none → ∀ G' x dx es n tb' R' t1 t2 t3 h' tk' gs, TabOk tb' → AllBare gs → Fr h₀ L G' m → RaisedD base G' (envX cn cs L a ccd cl :: outer) x (.ref 109) dx ((dx, dictOf es n) :: (pl, { cls := .type "list", data := .seq vs.toArray e }) :: (180, tabObj tb') :: R') h' → G'.UpToSlots h' → (∀ q ∈ R', q.1 ≠ pl ∧ q.1 ≠ 180) → (∀ q ∈ R, q ∈ R') →     NagD es (.int ((place : Int) + 1) t1) (.str (wordsF ((witA ps (ks.getLastD 0) place).map (·.1))) t2) (.str (rowAt ps place) t3) → E (.ref x) { s with heap := h', toks := tk', gens := gs }) : Bx (ctA.1 g0 L9 h0 k0) := by
  refine ⟨?_⟩
  dsimp only [ctA]
  k_with_none
  k_with "subscriptTail" => (((with_reducible show wpAny _ _ (subscriptTail _ _ (Value.ref _) (Value.int _ _)) _ _ _); (k_dflt (refine' mitem_strsE ?c1.«_@»._hyg ?c2.«_@»._hyg ?c3.«_@»._hyg ?c4.«_@»._hyg ?c5.«_@»._hyg ?c6.«_@»._hyg ?c7.«_@»._hyg ?_ ?c9.«_@»._hyg; (case c1 => k_asm); (case c2 => k_mem); (case c3 => assumption); (case c4 => (first | lia | omega)); (case c5 => (rw [rowsF_len]; (first | lia | omega))); (case c6 => (rw [rowsF_len]; (first | lia | omega))); (case c7 => (rw [Int.toNat_natCast])); (case c9 => with_unfolding_all rfl))); intro tz9))
  k_with "call ref" => (((with_reducible show wpAny _ _ (call (Value.ref 174) _) _ _ _); k_dflt (refine' ws_ct ⟨?k1.«_@»._hyg, ?k2.«_@»._hyg, ?k3.«_@»._hyg, ?k4.«_@»._hyg, ?k5.«_@»._hyg, ?k6.«_@»._hyg, ?k7.«_@»._hyg, ?k8.«_@»._hyg⟩ ?kl.«_@»._hyg ?_; (case k1 => k_asm); (case k2 => k_asm); (case k3 => k_in); (case k4 => k_asm); (case k5 => k_asm); (case k6 => first | exact rfl | assumption); (case k7 => ktr_room); (case k8 => ktr_units); (case kl => assumption)); intro lx lW nw h'z9 tk'z9 F'z9 N'z9 hnw hlW hraw hscan))
  k_with "subscriptTail" => (((with_reducible show wpAny _ _ (subscriptTail _ _ (Value.ref _) (Value.int _ _)) _ _ _); (k_dflt (refine' mitem_pileN ?c1.«_@»._hyg ?c2.«_@»._hyg ?c3.«_@»._hyg ?c4.«_@»._hyg ?c5.«_@»._hyg ?c6.«_@»._hyg ?c7.«_@»._hyg ?_ ?c9.«_@»._hyg; (case c1 => k_asm); (case c2 => k_mem); (case c3 => assumption); (case c7 => assumption); (case c4 => decide); (case c5 => (first | lia | omega)); (case c6 => (first | lia | omega)); (case c9 => with_unfolding_all rfl))); intro tpA tpX tpW tpT tpE htp htW htO; (have wm1 := WsIn.m1 htW); (have wm2 := WsIn.m2 htW)))
  k_with "subscriptTail" => (((with_reducible show wpAny _ _ (subscriptTail _ _ (Value.ref _) (Value.int _ _)) _ _ _); (k_dflt (refine' mitem_pile ?c1.«_@»._hyg ?c2.«_@»._hyg ?c3.«_@»._hyg ?c4.«_@»._hyg ?c5.«_@»._hyg ?c6.«_@»._hyg ?_ ?c9.«_@»._hyg; (case c1 => k_asm); (case c2 => k_mem); (case c3 => assumption); (case c6 => assumption); (case c4 => (first | lia | omega)); (case c5 => (first | lia | omega)); (case c9 => with_unfolding_all rfl))); intro tpA tpX tpW tpT tpE htp htW htO; (have wm1 := WsIn.m1 htW); (have wm2 := WsIn.m2 htW)))
  k_with "subscriptTail" => (((with_reducible show wpAny _ _ (subscriptTail _ _ (Value.ref _) (Value.int _ _)) _ _ _); (k_dflt (refine' mitem_tup2 ?c1.«_@»._hyg ?c2.«_@»._hyg ?c3.«_@»._hyg ?_ ?c4.«_@»._hyg; (case c1 => k_asm); (case c2 => k_mem); (case c3 => first | exact Or.inl ⟨rfl, rfl⟩ | exact Or.inr ⟨rfl, rfl⟩); (case c4 => with_unfolding_all rfl)))))
  k_with "call ref" => (((with_reducible show wpAny _ _ (call (Value.ref 164) _) _ _ _); k_dflt (refine' less_ct ⟨?k1.«_@»._hyg, ?k2.«_@»._hyg, ?k3.«_@»._hyg, ?k4.«_@»._hyg, ?k5.«_@»._hyg, ?k6.«_@»._hyg, ?k7.«_@»._hyg, ?k8.«_@»._hyg⟩ ?kW.«_@»._hyg ?kV.«_@»._hyg ?_; (case k1 => k_asm); (case k2 => k_asm); (case k3 => k_in); (case k4 => k_asm); (case k5 => k_asm); (case k6 => first | exact rfl | assumption); (case k7 => ktr_room); (case k8 => ktr_units); (case kW => (refine WsIn.mono (by assumption) ?_; intro pz9 hpz9; k_mem)); (case kV => (refine WsIn.mono (by assumption) ?_; intro pz9 hpz9; k_mem))); intro tz9 h'z9 tk'z9 F'z9 N'z9))
  k_with "call ref" => (((with_reducible show wpAny _ _ (call (Value.ref 150) _) _ _ _); k_dflt (refine' equal_ct ⟨?k1.«_@»._hyg, ?k2.«_@»._hyg, ?k3.«_@»._hyg, ?k4.«_@»._hyg, ?k5.«_@»._hyg, ?k6.«_@»._hyg, ?k7.«_@»._hyg, ?k8.«_@»._hyg⟩ ?kW.«_@»._hyg ?kV.«_@»._hyg ?_; (case k1 => k_asm); (case k2 => k_asm); (case k3 => k_in); (case k4 => k_asm); (case k5 => k_asm); (case k6 => first | exact rfl | assumption); (case k7 => ktr_room); (case k8 => ktr_units); (case kW => (refine WsIn.mono (by assumption) ?_; intro pz9 hpz9; k_mem)); (case kV => (refine WsIn.mono (by assumption) ?_; intro pz9 hpz9; k_mem))); intro tz9 h'z9 tk'z9 F'z9 N'z9))
  k_with "call builtin:list.append" => (refine hold ?_)
  k_with "call builtin:list.pop" => (refine hold ?_)
  k_with "exec While" => (refine hold ?_)
  k_with "exec Raise some none" => (refine hold ?_)
  k_with "call builtin:len" => ((k_dflt (refine' mlen_n ?a.«_@»._hyg ?b.«_@»._hyg ?c.«_@»._hyg ?d.«_@»._hyg ?_; (case a => k_asm); (case b => k_mem); (case c => assumption); (case d => (first | lia | omega)))))
  k_with "eval ListComp" => ((k_here; (with_reducible show wpAny _ _ (eval (PySem.Expr.ListComp _ [⟨_, _, [_], _⟩] _ _) _) _ _ _); k_dflt (refine compT_H (F₀ := by k_asm) (by with_unfolding_all rfl) (by decide) (by rfl) (by decide) (by rfl) ?_)))
  k_with "exec Assign cons ListComp" => ((k_here; (with_reducible show wpAny _ _ (exec (PySem.Stmt.Assign _ (PySem.Expr.ListComp _ [⟨_, _, [_], _⟩] _ _) _) _) _ _ _); k_dflt (refine acompT_H (F₀ := by k_asm) (by rfl) (by with_unfolding_all rfl) (by with_unfolding_all rfl) (by decide) (by rfl) (by decide) (by rfl) (by rfl) (by rfl) ?_)))
  k_with "compareOp Eq ref ref" => ((k_dflt (refine' ke_eq_ints (ys := []) (ms := []) ?a.«_@»._hyg ?b.«_@»._hyg ?c.«_@»._hyg ?d.«_@»._hyg ?e.«_@»._hyg ?_; (case a => exact News.isList (by k_asm) (by k_mem)); (case b => exact News.isList (by k_asm) (List.Mem.head _)); (case c => assumption); (case d => exact IntsAre.nil); (case e => ke_room))))
  k_with "call ref" => (((with_reducible show wpAny _ _ (call (Value.ref 171) _) _ _ _); k_dflt (refine' nlw_ct ⟨?k1.«_@»._hyg, ?k2.«_@»._hyg, ?k3.«_@»._hyg, ?k4.«_@»._hyg, ?k5.«_@»._hyg, ?k6.«_@»._hyg, ?k7.«_@»._hyg, ?k8.«_@»._hyg⟩ ?kW.«_@»._hyg ?kV.«_@»._hyg ?_; (case k1 => k_asm); (case k2 => k_asm); (case k3 => k_in); (case k4 => k_asm); (case k5 => k_asm); (case k6 => first | exact rfl | assumption); (case k7 => ktr_room); (case k8 => ktr_units); (case kW => (refine WsIn.mono (by assumption) ?_; intro pz9 hpz9; k_mem)); (case kV => (refine WsIn.mono (by assumption) ?_; intro pz9 hpz9; k_mem))); intro wal wvs we nn3 h'z9 tk'z9 F'z9 N'z9 hsub3 hne3 hmem3 htr3))
  k_with "call ref" => (((with_reducible show wpAny _ _ (call (Value.ref 185) _) _ _ _); refine hold ?_))
  k_with "call ref" => (((with_reducible show wpAny _ _ (call (Value.ref 109) _) _ _ _); k_dflt (refine' nag_make ⟨?k1.«_@»._hyg, ?k2.«_@»._hyg, ?k3.«_@»._hyg, ?k4.«_@»._hyg, ?k5.«_@»._hyg, ?k6.«_@»._hyg, ?k7.«_@»._hyg, ?k8.«_@»._hyg⟩ ?_; (case k1 => k_asm); (case k2 => k_asm); (case k3 => k_in); (case k4 => k_asm); (case k5 => k_asm); (case k6 => first | exact rfl | assumption); (case k7 => ktr_room); (case k8 => ktr_units)); intro xe xt xdx xes xn h'z9 tk'z9 g1 hx1 hx2 hx3 F'z9 N'z9))
  k_with "subscriptTail" => (((with_reducible show wpAny _ _ (subscriptTail _ _ (Value.ref _) (Value.int _ _)) _ _ _); (k_dflt (refine' mitem_ints ?c1.«_@»._hyg ?c2.«_@»._hyg ?c3.«_@»._hyg ?c4.«_@»._hyg ?c5.«_@»._hyg ?c6.«_@»._hyg ?_ ?c8.«_@»._hyg; (case c1 => k_asm); (case c2 => k_mem); (case c3 => assumption); (case c4 => decide); (case c5 => (simp only [List.length_cons]; (first | lia | omega))); (case c6 => (simp only [List.length_cons] at *; (first | lia | omega))); (case c8 => with_unfolding_all rfl))); intro tz9))
  k_with "pyIter ref" => (refine hold ?_)
  refine nmG fun gG9 kG9 => ?_
  obtain ⟨B, F, X, N, T, kf, hd, hu⟩ := C
  refine kG9 ?_
  clear kG9 gG9
  revert X
  k_fill
  intro X
  have hrl : (rowAt ps place).length ≤ 50 := row_len hO _ (by unfold rowAt; rw [List.getD_eq_getElem?_getD, List.getElem?_eq_getElem (by rw [rowsF_len]; (first | lia | omega))]; exact List.getElem_mem _)
  intro cells' FG' F9 N9 Y' B' X' T' lnews
  (have hY := CellsAre.two Y')
  (obtain ⟨oP, oL, hE', dP, dL⟩ := hY)
  subst hE'
  clear Y'
  (try simp only [List.cons_append, List.nil_append] at N9)
  (try dsimp only)
  k_steps
  (with_reducible rename News _ _ _ nw => N8)
  have mc1 := hnw _ (.head _)
  have mc2 := hnw _ (.tail _ (.head _))
  have mpl := hnw _ (.tail _ (.tail _ (.head _)))
  have m180 := hnw _ (.tail _ (.tail _ (.tail _ (.head _))))
  refine nmG fun gG9 kG9 => ?_
  refine ex1 (news_front4 N8 mc1 mc2 mpl m180) ?_
  intro R2 y9w1
  refine an6 (y9w1) ?_
  intro N4 r1 r2 r3 r4 r5
  clear y9w1
  refine kG9 ?_
  clear kG9 gG9
  have hR2 : ∀ q ∈ R2, q.1 ≠ pl ∧ q.1 ≠ 180 := fun q hq => ⟨r3 q hq, r4 q hq⟩
  have hRR : ∀ p ∈ R, p ∈ R2 := fun p hp => by
    have hl := lnews p (.tail _ (.tail _ hp))
    exact r5 p (hnw _ (.tail _ (.tail _ (.tail _ (.tail _ hp))))) (Nat.ne_of_lt (Nat.lt_succ_of_lt (Nat.lt_succ_of_lt hl))) (Nat.ne_of_lt (Nat.lt_succ_of_lt hl)) (hR p hp).1 (hR p hp).2
  have hW2 : WsIn R2 lx lW := by
    refine nmG fun gG9 kG9 => ?_
    obtain ⟨w1, w2, w3, w4, w5⟩ := hlW
    refine kG9 ?_
    clear kG9 gG9
    refine ⟨r5 _ w1 ?_ ?_ ?_ ?_, r5 _ w2 ?_ ?_ ?_ ?_, r5 _ w3 ?_ ?_ ?_ ?_, r5 _ w4 ?_ ?_ ?_ ?_, w5, by assumption, by assumption, by assumption, by assumption⟩
    all_goals first
      | exact ne_data N8 (by assumption) mc1 (by rw [dP]; simp)
      | exact ne_data N8 (by assumption) mc2 (by rw [dL]; simp)
      | exact ne_addr N8 (by assumption) mpl (by simp)
      | exact ne_addr N8 (by assumption) m180 (by simp)
      | exact ne_data N8 (by assumption) m180 (by simp)
  have hWo : WsOf ps place lW := hscan
  have hp2 := hp.mono hRR
  clear hp
  have mp2 := hRR _ mp
  have lpl := lnews _ (.head _)
  have l180 := lnews _ (.tail _ (.head _))
  have z3 : L9 + 1 + 1 ≠ L9 + 1 := Nat.ne_of_gt (Nat.lt_succ_self _)
  have z4 : pl ≠ L9 + 1 := Nat.ne_of_lt (Nat.lt_succ_of_lt lpl)
  have z5 : pl ≠ L9 + 1 + 1 := Nat.ne_of_lt (Nat.lt_succ_of_lt (Nat.lt_succ_of_lt lpl))
  have z6 : 180 ≠ L9 + 1 := Nat.ne_of_lt (Nat.lt_succ_of_lt l180)
  have z7 : 180 ≠ L9 + 1 + 1 := Nat.ne_of_lt (Nat.lt_succ_of_lt (Nat.lt_succ_of_lt l180))
  clear N8 mc1 mc2 mpl m180 r5 N9 F9 hlW
  have hlast := getLast_at hks
  have z8 : pl ≠ 180 := ne_addr N4 (.tail _ (.tail _ (.head _))) (.tail _ (.tail _ (.tail _ (.head _)))) (by simp)
  have hk1 : 1 ≤ ks.length := List.length_pos_iff.mpr hks
  have lm1 := hW2.m1
  have lm2 := hW2.m2
  have hvl := hp2.length
  k_steps
  · unfold Hold
    (with_reducible rename News _ _ _ ((_, _) :: (L9 + 1 + 1, _) :: _) => N5)
    (with_reducible rename _ ∧ _ ∧ _ ∧ _ ∧ AllLt _ R2 => l1)
    (with_reducible rename lessF tpW lW = true => hless)
    refine nmG fun gG9 kG9 => ?_
    refine an5 (l1) ?_
    intro q1 q2 q3 q4 q5
    try clear l1
    refine kG9 ?_
    clear kG9 gG9
    refine mappend (by assumption) N5 (by k_mem) (by (first | lia | omega)) ?_
    intro h2 F2 N6
    replace N6 := news_sub N6 (upd_split (pre := [_, _, _]) (post := (180, tabObj tb) :: R2) (by
      intro p hp
      rcases mcs hp with rfl | hp
      · exact Nat.ne_of_gt q3
      rcases mcs hp with rfl | hp
      · exact z5.symm
      rcases mcs hp with rfl | hp
      · exact z4.symm
      · exact nomatch hp) (by
      intro p hp
      rcases mcs hp with rfl | hp
      · exact z8.symm
      · exact r3 p hp))
    simp only [List.cons_append, List.nil_append] at N6
    have hlA : lessA ps (ks.getLastD 0) place = true := by rw [← less_at htO hWo]; exact hless
    have hp3 := pile_push N6 hp2 hW2 hWo
    replace N6 := news_rot4 N6
    have hlen2 : (ks ++ [place]).length = ks.length + 1 := by simp
    have hl2 : (ks ++ [place])[ks.length - 1]? = some (ks.getLastD 0) := by rw [List.getElem?_append_left (by (first | lia | omega))]; exact hlast
    clear N5 hlast
    k_steps
    (with_reducible rename News h₀ _ _ _ => N7)
    (with_reducible rename Fr h₀ L _ _ => F7)
    refine hret _ _ (by unfold settleF; rw [if_pos hlA]) _ _ tb _ _ _ _ _ hTab G F7 (fun p hp => N7 p (.tail _ (.tail _ hp))) ?_ (fun q hq => .tail _ (hRR q hq)) hp3
    intro q hq
    rcases mcs hq with rfl | hq
    · exact ⟨Nat.ne_of_gt q3, Nat.ne_of_gt q4⟩
    · exact hR2 q hq
  · unfold Hold
    (with_reducible rename lessF tpW lW = false => hless)
    (with_reducible rename IsRange _ _ _ _ _ _ _ _ => hrg)
    have hless' : ¬ lessA ps (ks.getLastD 0) place = true := by rw [← less_at htO hWo, hless]; decide
    (with_reducible rename (_ : Obj).data = Data.cell (some (Value.ref lx)) => dX)
    obtain ⟨oX, eX⟩ := nameO dX
    subst eX
    (with_unfolding_all refine' mcompRT (ks.length - 1) ((L9 + 1 + 1, oX) :: (L9 + 1, oL) :: (pl, ({ cls := .type "list", data := .seq vs.toArray e } : Obj)) :: (180, tabObj tb) :: R2) (fun i ys n => IntsAre ys (sameF ps ks place i)) ?hh ?F ?N ?hr ?ha ?hb ?hn ?hk ?hj ?turn ?done)
    case hh => rfl
    case F => k_asm
    case N => k_asm
    case hr => assumption
    case ha => decide
    case hb => (first | lia | omega)
    case hn => (first | lia | omega)
    case hk => exact (fun _ hp => hp)
    case hj => exact .nil
    case turn =>
      rintro i t ys nn2 I oI C oC D m₂ h tk E' hi6 hkn2 hi2 hC hx F N off ne
      have mc1 := hkn2 _ (.head _)
      have mc2 := hkn2 _ (.tail _ (.head _))
      have mplx := hkn2 _ (.tail _ (.tail _ (.head _)))
      have hkR : ∀ p ∈ R2, p ∈ nn2 := fun p hp => hkn2 _ (.tail _ (.tail _ (.tail _ (.tail _ hp))))
      have hpn := hp2.mono hkR
      have hWn := hW2.mono hkR
      clear hp2 hW2 lm1 lm2
      have lm1 := hWn.m1
      have lm2 := hWn.m2
      have hget : ks[(1 + (i : Int)).toNat]? = some (ks.getD (i + 1) 0) := by
        have e1 : (1 + (i : Int)).toNat = i + 1 := by (first | lia | omega)
        rw [e1, List.getD_eq_getElem?_getD, List.getElem?_eq_getElem (by (first | lia | omega))]
        rfl
      k_steps
      · (with_reducible rename tpW.cnt = lW.cnt ∧ tpW.b = lW.b => heq)
        refine cend (by assumption) (by assumption) (.head _) (.tail _ (.head _)) (.tail _ (.tail _ (.head _))) (fun p hp => .tail _ (.tail _ (.tail _ hp))) off trivial ⟨hkn2, ?_⟩
        rw [sameF_succ, if_pos (by rw [← eq_at htO hWo]; exact decide_eq_true heq), show (1 + (i : Int)) = (i : Int) + 1 by (first | lia | omega)]
        exact hi2.append (.cons _ _ .nil)
      · (with_reducible rename ¬ (tpW.cnt = lW.cnt ∧ tpW.b = lW.b) => heq)
        refine cend (by assumption) (by assumption) (.head _) (.tail _ (.head _)) (.tail _ (.tail _ (.head _))) (fun p hp => .tail _ (.tail _ (.tail _ hp))) off trivial ⟨hkn2, ?_⟩
        rw [sameF_succ, if_neg (by rw [← eq_at htO hWo]; simpa using heq), List.append_nil]
        exact hi2
    case done =>
      intro g ys nn hkn hys D2 h tk F N off1
      have hsl := sameF_len ps ks place (ks.length - 1)
      have hsb := sameF_bd ps ks place (ks.length - 1)
      have mpl := hkn _ (.tail _ (.tail _ (.head _)))
      have m180 := hkn _ (.tail _ (.tail _ (.tail _ (.head _))))
      refine nmG fun gG9 kG9 => ?_
      obtain ⟨R3, N3, u1, u2⟩ := news_front2 N (.tail _ mpl) (.tail _ m180)
      refine kG9 ?_
      clear kG9 gG9
      have hDp : D2 ≠ pl := fun e => off1_ne off1 _ mpl e.symm
      have hD1 : D2 ≠ 180 := fun e => off1_ne off1 _ m180 e.symm
      have m2 : (D2, LCg.lst ys) ∈ R3 := u2 _ (.head _) hDp hD1
      have mc1 : (L9 + 1 + 1, oX) ∈ R3 := u2 _ (.tail _ (hkn _ (.head _))) z5.symm z7.symm
      have mc2 : (L9 + 1, oL) ∈ R3 := u2 _ (.tail _ (hkn _ (.tail _ (.head _)))) z4.symm z6.symm
      have hR3 : ∀ p ∈ R2, p ∈ R3 := fun p hp => u2 _ (.tail _ (hkn _ (.tail _ (.tail _ (.tail _ (.tail _ hp)))))) (r3 p hp) (r4 p hp)
      have hp3 := hp2.mono hR3
      have hW3 := hW2.mono hR3
      have mp3 := hR3 _ mp2
      have hT3 := htW.mono hR3
      clear N hkn mpl m180 u2 hp2 hW2 lm1 lm2 wm1 wm2 htp mp2 htW
      have lm1 := hW3.m1
      have lm2 := hW3.m2
      have wm1 := hT3.m1
      have wm2 := hT3.m2
      k_steps
      · unfold Hold
        (with_reducible rename decide (sameF ps ks place (ks.length - 1) = []) = true => hnil)
        have hnil2 := of_decide_eq_true hnil
        rw [wit_at htO hWo] at htr3
        (with_reducible rename News _ _ _ nn3 => N5)
        have mpl := hsub3 _ (.tail _ (.head _))
        have m180 := hsub3 _ (.tail _ (.tail _ (.head _)))
        refine nmG fun gG9 kG9 => ?_
        obtain ⟨R4, N6, v1, v2⟩ := news_front2 N5 mpl m180
        refine kG9 ?_
        clear kG9 gG9
        have hR4 : ∀ p ∈ R3, p ∈ R4 := fun p hp => v2 _ (hsub3 _ (.tail _ (.tail _ (.tail _ hp)))) (u1 p hp).1 (u1 p hp).2
        have mw4 := v2 _ hmem3 (hne3 _ (.tail _ (.head _))).symm (hne3 _ (.tail _ (.tail _ (.head _)))).symm
        have hT4 : TripsAre R4 wvs (witA ps (ks.getLastD 0) place) := htr3.mono fun p hp hc => v2 p hp (ne_addr N5 hp mpl (by rw [hc]; simp)) (ne_addr N5 hp m180 (by rw [hc]; simp))
        have mc14 := hR4 _ mc1
        have mc24 := hR4 _ mc2
        have mp4 := hR4 _ mp3
        have hRR4 : ∀ p ∈ R, p ∈ R4 := fun p hp => hR4 p (hR3 p (hRR p hp))
        replace N6 := news_swap N6
        have hlb := lng_at hO (hk5 _ (List.mem_of_getElem? hlast))
        have hlb2 := lng_at hO h5
        have hwl := witA_len ps (ks.getLastD 0) place
        have hwb := witA_bd ps (ks.getLastD 0) place
        clear hp3 hW3 mp3 hT3 lm1 lm2 wm1 wm2 N5 mpl m180 v2 hmem3 htr3 hsub3 mc1 mc2 m2
        k_dflt (refine' fw_ct (ps := tb) (nn := (pl, ({ cls := .type "list", data := .seq vs.toArray e } : Obj)) :: R4) ⟨?k1, ?k2, ?k3, ?k4, ?k5, ?k6, ?k7, ?k8⟩ ?kG hTab ?hnP ?mw ?hT ?hb ?hl ?_; (case k1 => k_asm); (case k2 => k_asm); (case k3 => k_in); (case k4 => k_asm); (case k5 => k_asm); (case k6 => first | exact rfl | assumption); (case k7 => ktr_room); (case k8 => ktr_units))
        case kG => exact G
        case hnP =>
          intro q hq
          rcases mcs hq with rfl | hq
          · exact z8
          · exact (v1 q hq).2
        case mw => exact .tail _ mw4
        case hT => exact hT4.mono fun p hp _ => .tail _ hp
        case hb => intro d hd; have := hwb d hd; (first | lia | omega)
        case hl => (first | lia | omega)
        intro t4 h4 tk4 gs4 tb4 hTab4 G4 F4 N8
        k_steps
        unfold Hold
        (with_reducible rename Frag.In _ _ => X4)
        (with_unfolding_all refine exec_raise_nag X4 (by rfl) ?_)
        k_steps
        unfold Hold
        (with_reducible rename News _ _ _ ((xe, _) :: _) => N9)
        (with_reducible rename Fr _ _ _ (_ : Str → Option Value) => F9)
        (with_reducible rename Below _ _ _ _ => B4)
        (with_reducible rename Fr h₀ L _ m => FG4)
        refine ⟨xe, _, xt, rfl, F9.keep, (N9 _ (.head _)).1, rfl, rfl, ?_⟩
        have hne9 : ∀ q ∈ (xdx, dictOf xes xn) :: (pl, ({ cls := .type "list", data := .seq vs.toArray e } : Obj)) :: (180, tabObj tb4) :: R4, q.1 ≠ xe := by
          intro q hq
          rcases mcs hq with rfl | hq
          · exact hx3
          rcases mcs hq with rfl | hq
          · exact hx2 _ (.tail _ (.head _))
          rcases mcs hq with rfl | hq
          · exact hx2 _ (.head _)
          · exact hx2 _ (.tail _ (.tail _ hq))
        (with_unfolding_all refine leave_nag B4 F9 (news_raise N9) hne9 rfl ?hlv)
        case hlv =>
          intro h9 RD U
          exact hexc (by unfold settleF; rw [if_neg hless', hnil2]) _ xe xdx xes xn tb4 R4 _ _ _ h9 _ gs4 hTab4 G4 FG4 RD U v1 hRR4 g1
      · unfold Hold
        (with_reducible rename decide (sameF ps ks place (ks.length - 1) = []) = false => hnil)
        have hnil2 : sameF ps ks place (ks.length - 1) ≠ [] := of_decide_eq_false hnil
        refine nmG fun gG9 kG9 => ?_
        obtain ⟨z, zs, hzs⟩ : ∃ z zs, sameF ps ks place (ks.length - 1) = z :: zs := by
          cases hq : sameF ps ks place (ks.length - 1) with
          | nil => exact absurd hq hnil2
          | cons z zs => exact ⟨z, zs, rfl⟩
        refine kG9 ?_
        clear kG9 gG9
        have hz := hsb z (by rw [hzs]; exact .head _)
        rw [hzs] at hys hsl
        (with_reducible rename News _ _ _ ((_, _) :: (pl, _) :: _) => N5)
        (with_reducible rename pl < _ ∧ 180 < _ ∧ AllLt _ R3 => l1)
        replace N5 : News _ _ _ ((pl, ({ cls := .type "list", data := .seq vs.toArray e } : Obj)) :: (180, tabObj tb) :: R3) := fun p hp => N5 p (.tail _ hp)
        obtain ⟨zn, rfl⟩ : ∃ zn : Nat, z = (zn : Int) := ⟨z.toNat, by (first | lia | omega)⟩
        (with_unfolding_all refine' mwhile (σ := Nat) ((180, tabObj tb) :: R3) (fun _ => [(("page" : Str), .ref pg), (("place" : Str), .int (place : Int) t), (("same" : Str), .ref D2)]) (fun n c n' => n = c ∧ zn ≤ c ∧ c ≤ ks.length ∧ ∃ e', (pl, ({ cls := .type "list", data := .seq (vs.take c).toArray e' } : Obj)) ∈ n') ks.length ks.length ?F ?N ?kp ?hk ?hj ?turn3 ?hE)
        case F => k_asm
        case N => exact N5
        case kp => exact fun _ hp => .tail _ hp
        case hk => kst_all
        case hj => exact ⟨rfl, by (first | lia | omega), Nat.le_refl _, e, by rw [List.take_of_length_le (by (first | lia | omega))]; exact .head _⟩
        case hE => with_unfolding_all passes_own
        case turn3 =>
          intro n c u3 nn3 h tk hkn3 hz9
          refine nmG fun gG9 kG9 => ?_
          refine an4 (hz9) ?_
          intro y9z1 hzc hck y9w2
          refine ex1 (y9w2) ?_
          intro e' hmp
          clear y9w2
          try clear hz9
          subst y9z1
          refine kG9 ?_
          clear kG9 gG9
          intro F N
          dsimp only [kstB] at F
          refine nmG fun gG9 kG9 => ?_
          obtain ⟨R5, N7, v1, v2⟩ := news_front2 N hmp (hkn3 _ (.head _))
          refine kG9 ?_
          clear kG9 gG9
          have hR5 : ∀ p ∈ R3, p ∈ R5 := fun p hp => v2 p (hkn3 p (.tail _ hp)) (u1 p hp).1 (u1 p hp).2
          replace m2 := hR5 _ m2
          replace mc1 := hR5 _ mc1
          replace mc2 := hR5 _ mc2
          have hp5 := (hp3.mono hR5).take n
          have hW5 := hW3.mono hR5
          replace mp3 := hR5 _ mp3
          clear N v2 hp3 hW3 lm1 lm2 wm1 wm2 hT3 hmp N5
          have htl : (vs.take n).length = n := by rw [List.length_take]; (first | lia | omega)
          k_steps
          · unfold Hold
            (with_reducible rename (_ : Int) < (n : Int) => hlt)
            have hlt2 : zn < n := by
              have e9 : ((zn : Int) :: zs).getD (Int.toNat 0) 0 = zn := rfl
              rw [e9] at hlt
              (first | lia | omega)
            have hr5 : ∀ p ∈ (180, tabObj tb) :: R5, p.1 ≠ pl := by
              intro p hp
              rcases mcs hp with rfl | hp
              · exact z8.symm
              · exact (v1 p hp).1
            refine mpopF (by assumption) N7 hr5 (by (first | lia | omega)) (by (first | lia | omega)) ?_
            intro h' y F' N'
            rw [dropLast_take' (by (first | lia | omega))] at N'
            k_steps
            refine WP.next (c' := n - 1) (k := n - 1) (by assumption) (by assumption) (fun p hp => ?_) (by kst_all) (by (first | lia | omega)) ⟨rfl, by (first | lia | omega), by (first | lia | omega), _, .head _⟩
            rcases mcs hp with rfl | hp
            · exact .tail _ (.head _)
            · exact .tail _ (.tail _ (hR5 _ hp))
          · unfold Hold
            (with_reducible rename ¬ ((_ : Int) < (n : Int)) => hlt)
            have hlt2 : n = zn := by
              have e9 : ((zn : Int) :: zs).getD (Int.toNat 0) 0 = zn := rfl
              rw [e9] at hlt
              (first | lia | omega)
            subst hlt2
            (with_reducible rename News _ _ _ ((_, _) :: (pl, _) :: _) => N8)
            (with_reducible rename pl < _ ∧ 180 < _ ∧ AllLt _ R5 => l5)
            refine nmG fun gG9 kG9 => ?_
            obtain ⟨q3, q4, q5⟩ := l5
            refine kG9 ?_
            clear kG9 gG9
            refine mappend (by assumption) N8 (.tail _ (.head _)) (by (first | lia | omega)) ?_
            intro h2 F2 N6
            replace N6 := news_sub N6 (upd_split (pre := [_]) (post := (180, tabObj tb) :: R5) (by
              intro p hp
              rw [List.mem_singleton.mp hp]
              exact Nat.ne_of_gt q3) (by
              intro p hp
              rcases mcs hp with rfl | hp
              · exact z8.symm
              · exact (v1 p hp).1))
            simp only [List.cons_append, List.nil_append] at N6
            have hp6 := pile_push N6 hp5 hW5 hWo
            replace N6 := news_rot2 N6
            have hkl6 : (ks.take n).length = n := by rw [List.length_take]; (first | lia | omega)
            have hlen2 : (ks.take n ++ [place]).length = n + 1 := by rw [List.length_append, hkl6]; rfl
            have hne6 : ks.take n ≠ [] := fun q => by rw [q] at hkl6; simp at hkl6; (first | lia | omega)
            have hl2 : (ks.take n ++ [place])[n - 1]? = some ((ks.take n).getLastD 0) := by
              rw [List.getElem?_append_left (by (first | lia | omega))]
              have := getLast_at hne6
              rw [hkl6] at this
              exact this
            clear N8 hlast
            k_steps
            (with_reducible rename News h₀ _ _ _ => N7)
            (with_reducible rename Fr h₀ L _ _ => F7)
            refine hret _ _ (by unfold settleF; rw [if_neg hless', hzs]; rfl) _ _ tb _ _ _ _ _ hTab G F7 N7 ?_ (fun q hq => .tail _ (hR5 _ (hR3 _ (hRR q hq)))) hp6
            intro q hq
            rcases mcs hq with rfl | hq
            · exact ⟨Nat.ne_of_gt q3, Nat.ne_of_gt q4⟩
            · exact v1 q hq
theorem ctT : ctS w mean mg mb dp un gd cn cs a ccd cl outer A₀ base h₀ L m s Q E news ps pl pg vs pv e ep ks tb R place t := ⟨fun hO C G hTab hR hp hks hkl hk5 mp hS h1 h5 hret hexc => ctA.2 hO C G hTab hR hp hks hkl hk5 mp hS h1 h5 hret hexc (pk_all4 (ne := ned) (R := fun g0 L9 h0 k0 => Bx (ctA.1 g0 L9 h0 k0)) rfl rfl rfl rfl (ctB hO C G hTab hR hp hks hkl hk5 mp hS h1 h5 hret hexc))⟩
theorem all : ∀ v : V0 × ((List (List Nat × Nat)) × (Addr) × (Addr) × (List Value) × (List Value) × (Nat) × (Nat) × (List Nat) × (Array Value) × (List (Addr × Obj)) × (Nat) × (Tok)), ctS v.1.w v.1.mean v.1.mg v.1.mb v.1.dp v.1.un v.1.gd v.1.cn v.1.cs v.1.a v.1.ccd v.1.cl v.1.outer v.1.A₀ v.1.base v.1.h₀ v.1.L v.1.m v.1.s v.1.Q v.1.E v.1.news v.2.1 v.2.2.1 v.2.2.2.1 v.2.2.2.2.1 v.2.2.2.2.2.1 v.2.2.2.2.2.2.1 v.2.2.2.2.2.2.2.1 v.2.2.2.2.2.2.2.2.1 v.2.2.2.2.2.2.2.2.2.1 v.2.2.2.2.2.2.2.2.2.2.1 v.2.2.2.2.2.2.2.2.2.2.2.1 v.2.2.2.2.2.2.2.2.2.2.2.2 := pk_all (ne := ne) (P := fun v => ctS v.1.w v.1.mean v.1.mg v.1.mb v.1.dp v.1.un v.1.gd v.1.cn v.1.cs v.1.a v.1.ccd v.1.cl v.1.outer v.1.A₀ v.1.base v.1.h₀ v.1.L v.1.m v.1.s v.1.Q v.1.E v.1.news v.2.1 v.2.2.1 v.2.2.2.1 v.2.2.2.2.1 v.2.2.2.2.2.1 v.2.2.2.2.2.2.1 v.2.2.2.2.2.2.2.1 v.2.2.2.2.2.2.2.2.1 v.2.2.2.2.2.2.2.2.2.1 v.2.2.2.2.2.2.2.2.2.2.1 v.2.2.2.2.2.2.2.2.2.2.2.1 v.2.2.2.2.2.2.2.2.2.2.2.2) ctT
end Zsettle_ct
section
variable {w : World} {mean : ExcName → Option Value} {mg mb : Str → Option Value} {dp un : Nat} {gd : Option (List Code)} {cn : Str} {cs : Scope} {a : Addr} {ccd : Value} {cl : List (Str × Addr)} {outer : List Env} {A₀ : Around} {base h₀ : Heap} {L : Addr} {m : Str → Option Value} {s : Shared} {Q E : Value → Shared → Prop} {news : List (Addr × Obj)}
theorem settle_ct  {ps : List (List Nat × Nat)} (hO : LOk 4 ps) {pl pg : Addr} {vs pv : List Value} {e ep : Nat} {ks : List Nat} {tb : Array Value} {R : List (Addr × Obj)}
  (C : At w mean mg mb 3 dp un cs outer A₀ base h₀ L m ((pl, { cls := .type "list", data := .seq vs.toArray e }) :: (180, tabObj tb) :: R) s.heap) (G : AllBare s.gens) (hTab : TabOk tb) (hR : ∀ q ∈ R, q.1 ≠ pl ∧ q.1 ≠ 180)
  (hp : PileAre R ps vs ks) (hks : ks ≠ []) (hkl : ks.length ≤ 6) (hk5 : ∀ k ∈ ks, k ≤ 5) (mp : (pg, ({ cls := .type "list", data := .seq pv.toArray ep } : Obj)) ∈ R) (hS : StrsAre pv (rowsF ps)) {place : Nat} {t : Tok} (h1 : 1 ≤ place) (h5 : place ≤ 5)
  (hret : ∀ ks' v, settleF ps ks place = some (ks', v) → ∀ vs' e' tb' R' t' h' tk' gs, TabOk tb' → AllBare gs → Fr h₀ L h' m → News h₀ L h' ((pl, { cls := .type "list", data := .seq vs'.toArray e' }) :: (180, tabObj tb') :: R') → (∀ q ∈ R', q.1 ≠ pl ∧ q.1 ≠ 180) → (∀ q ∈ R, q ∈ R') → PileAre R' ps vs' ks' → Q (.int (v : Int) t') { s with heap := h', toks := tk', gens := gs })
  (hexc : settleF ps ks place = none → ∀ G' x dx es n tb' R' t1 t2 t3 h' tk' gs, TabOk tb' → AllBare gs → Fr h₀ L G' m → RaisedD base G' (envX cn cs L a ccd cl :: outer) x (.ref 109) dx ((dx, dictOf es n) :: (pl, { cls := .type "list", data := .seq vs.toArray e }) :: (180, tabObj tb') :: R') h' → G'.UpToSlots h' → (∀ q ∈ R', q.1 ≠ pl ∧ q.1 ≠ 180) → (∀ q ∈ R, q ∈ R') →
    NagD es (.int ((place : Int) + 1) t1) (.str (wordsF ((witA ps (ks.getLastD 0) place).map (·.1))) t2) (.str (rowAt ps place) t3) → E (.ref x) { s with heap := h', toks := tk', gens := gs }) :
  wpAny (model PySem.Challenge.rw_xe0048_01.row.prog w) (ktrTop dp un gd cn cs L a ccd cl outer) (call (.ref 216) [.ref pl, .ref pg, .int (place : Int) t]) Q E s := by
  exact (Zsettle_ct.all ⟨⟨w, mean, mg, mb, dp, un, gd, cn, cs, a, ccd, cl, outer, A₀, base, h₀, L, m, s, Q, E, []⟩, ps, pl, pg, vs, pv, e, ep, ks, tb, R, place, t⟩).out hO C G hTab hR hp hks hkl hk5 mp hS h1 h5 hret hexc
end
end Mine
end
theorem Mine.rstL15 : True := by
  w_top off
  trivial
section
open PySem.Builtin PySem.Builtin.ObjectAttr PySem PySem.W PyProof.Rows PySem.Calls PySem.Spec PyProof.V
set_option Elab.async false
set_option maxRecDepth 100000
set_option maxHeartbeats 1000000
namespace Mine
section
variable {prog : Program} {w : World} {A : Around} {E : Value → Shared → Prop} {K : Frag} {C x : Addr} {s : Shared} {ox : Obj} {od : Option Obj} {name : Str}
theorem nag_method {f : Addr} {o : Obj} {pl : Sem Bool} {Q : Value × List Value → Shared → Prop} (X : K.In s.heap) (I : InstAt s.heap x ox C (some o)) (hga : findIn K (.ref C) "__getattribute__" = some (some (.builtin "BaseException.__getattribute__"))) (hgt : findIn K (.ref C) "__getattr__" = some none)
    (hm : findIn K (.ref C) name = some (some (.ref f))) (hf : typeIn K (.ref f) = some (.type "function")) (hl : lookIn name o = some none) (h : Q (.ref f, [.ref x]) s) :
    wpAny (model prog w) A (getMethod (.ref x) name pl) Q E s := by
  refine nmG fun gG9 kG9 => ?_
  obtain ⟨hh, g, d, t, os⟩ := s
  have L0 := I.type (M := model prog w)
  have L1 := looks_findIn (M := model prog w) X hga
  have L2 := looks_findIn (M := model prog w) X hgt
  have L3 := looks_findIn (M := model prog w) X hm
  have L4 := looks_typeIn (M := model prog w) X hf
  have hx := I.at_
  obtain ⟨oc, odi, oda, osl⟩ := ox
  refine kG9 ?_
  clear kG9 gG9
  have hd := I.dict
  dsimp only at hd hx
  cases odi with
  | none => exact hd.elim
  | some dx =>
  dsimp only at hd
  unfold getMethod specialOf
  refine wpAny_bind (wpAny_bind (L0.at (L1.at ?_)))
  dsimp only
  rw [if_neg (by decide +kernel)]
  refine wpAny_bind (wpAny_bind (L0.at (L2.at ?_)))
  rw [if_neg (by decide)]
  refine wpAny_bind (wpAny_bind (L0.at (L3.at ?_)))
  dsimp only
  refine wpAny_bind (L4.at ?_)
  rw [if_neg (by decide +kernel)]
  refine wpAny_bind (wpAny_loadPart hx ?_)
  dsimp only
  have L5 : Looks (model prog w) hh (nsGet dx name) none := ((Looks.ld (part := none) hd).andThen (Looks.of_pure (nsLook_of hl)))
  refine wpAny_bind (L5.at ?_)
  rw [if_neg (by decide)]
  refine wpAny_bind (wpAny_rule (wpAny_pure h))
theorem nag_get {v : Value} {expr : Bool} {Q : Value → Shared → Prop} (X : K.In s.heap) (I : InstAt s.heap x ox C od) (hga : findIn K (.ref C) "__getattribute__" = some (some (.builtin "BaseException.__getattribute__"))) (hgt : findIn K (.ref C) "__getattr__" = some none)
    (hf : findObj K C od name = some (.value v)) (hv : handedIn v = true) (hmro : mroIn K C (.type "BaseException") = some true) (h : Q v { s with toks := s.toks + 1 }) : wpAny (model prog w) A (getAttr (.ref x) name expr) Q E s := by
  refine nmG fun gG9 kG9 => ?_
  obtain ⟨hh, g, d, t, os⟩ := s
  refine kG9 ?_
  clear kG9 gG9
  have L0 := I.type (M := model prog w)
  have L1 := looks_findIn (M := model prog w) X hga
  have L2 := looks_findIn (M := model prog w) X hgt
  have L3 := looks_find (M := model prog w) X I hf
  have L4 := looks_mroIn (M := model prog w) X hmro
  have FB := PySem.F.attrBase_Exception
  have hk : builtinKind "BaseException.__getattribute__" = some .slot := by decide +kernel
  have hsplit : splitId "BaseException.__getattribute__" = some ("BaseException", "__getattribute__") := by decide +kernel
  have ha := F.args_bexc_ga (.ref x) (.str name t)
  unfold getAttr getAttrBy
  refine wpAny_bind (wpAny_mkText (wpAny_holding (wpAny_bind (L0.at (wpAny_bind (L1.at ?_))))))
  dsimp only
  have hx2 : (Value.builtin "BaseException.__getattribute__" == Value.builtin "object.__getattribute__") = false := by decide +kernel
  rw [if_neg (by rw [hx2, Bool.and_false]; decide)]
  unfold getAttrByItsOwn hookBefore
  refine wpAny_bind (L2.at ?_)
  refine wpAny_bind (wpAny_attempt (wpAny_holding ?_))
  unfold callGetattribute
  have hx0 : (expr && onTheHeap (Value.builtin "BaseException.__getattribute__")) = false := by cases expr <;> rfl
  rw [hx0, if_neg (by decide)]
  unfold boundAndCalled
  rw [FB.ga.bind]
  refine wpAny_bind (wpAny_pure ?_)
  refine wpAny_call (codeAny_call_builtin FB.ga.plain F.entry_bexc_ga ?_)
  simp only [checkBuiltinCall, hk, hsplit]
  refine wpAny_bind ?_
  unfold isInstance
  refine wpAny_bind (L0.at (L4.at ?_))
  repeat (any_goals (first | assumption | wp_step))
  refine wpAny_loadPart I.at_ (wpAny_pure ?_)
  rw [I.cls]
  refine wpAny_bind (L3.at ?_)
  refine wpAny_pure ?_
  show wpAny _ _ (handedOut v) _ _ _
  rw [handedOut_of hv]
  exact wpAny_pure h
end
noncomputable def PileObj (o : Obj) : Prop := o.cls = .type "tuple" ∨ o.cls = .ref 174 ∨ ∃ h k v es n, o = PySem.W.dictOf (⟨h, .str "raw" k, v⟩ :: es) n
theorem WsIn.monoP {nn nn' : List (Addr × Obj)} {x : Addr} {W : WsD} (h : WsIn nn x W) (hs : ∀ p ∈ nn, PileObj p.2 → p ∈ nn') : WsIn nn' x W :=
  ⟨hs _ h.m1 (.inr (.inl rfl)), hs _ h.m2 (.inr (.inr ⟨_, _, _, _, _, rfl⟩)), hs _ h.m3 (.inl rfl), hs _ h.m4 (.inl rfl), h.hi, h.hl, h.hb, h.hc, h.hnt⟩
theorem PileAre.monoP {nn nn' : List (Addr × Obj)} {ps : List (List Nat × Nat)} {vs : List Value} {ks : List Nat} (h : PileAre nn ps vs ks) (hs : ∀ p ∈ nn, PileObj p.2 → p ∈ nn') : PileAre nn' ps vs ks := by
  induction h with
  | nil => exact .nil
  | cons hm hw ho _ ih => exact .cons (hs _ hm (.inl rfl)) (hw.monoP hs) ho ih
theorem dict_not_pile {prog : Program} {w : World} {o : Obj} {kvs : List (Int × Value)} (h : o.IsDictOf (intKind prog w) kvs) : ¬ PileObj o := by
  refine nmG fun gG9 kG9 => ?_
  refine ex2 (h) ?_
  intro es ep y9w1
  refine an5 (y9w1) ?_
  intro hx hd hk hp hn
  clear y9w1
  try clear h
  refine kG9 ?_
  clear kG9 gG9
  have hc : o.cls = .type "dict" := hx.1
  rintro (q | q | ⟨h1, k, v, es', n, rfl⟩)
  · rw [hc] at q; exact absurd q (by simp)
  · rw [hc] at q; exact absurd q (by simp)
  · cases hd
    obtain ⟨k', hk', -⟩ := hk ⟨h1, .str "raw" k, v⟩ (by simp)
    have hk2 : Value.isInt k' (.str "raw" k) = true := hk'
    exact absurd hk2 (by simp [Value.isInt])
structure RdSt where
  (ks : List Nat) (ab : List (Nat × Nat)) (ng : List (Nat × Str × Str))
noncomputable def readStep (ps : List (List Nat × Nat)) (st : RdSt) (place : Nat) : RdSt := match settleF ps st.ks place with
  | some (ks', v) => ⟨ks', st.ab ++ [(place, v)], st.ng⟩
  | none => ⟨st.ks, st.ab, st.ng ++ [(place + 1, wordsF ((witA ps (st.ks.getLastD 0) place).map (·.1)), rowAt ps place)]⟩
noncomputable def readF (ps : List (List Nat × Nat)) : Nat → RdSt
  | 0 => ⟨[0], [], []⟩
  | i + 1 => readStep ps (readF ps i) (i + 1)
structure RInv (i : Nat) (st : RdSt) : Prop where
  ne : st.ks ≠ []
  len : st.ks.length ≤ i + 1
  bd : ∀ k ∈ st.ks, k ≤ i
  abl : st.ab.length ≤ i
  abk : ∀ p ∈ st.ab, p.1 ≤ i
  abv : ∀ p ∈ st.ab, p.2 ≤ i
  ngl : st.ng.length ≤ i
theorem settle_inv {ps : List (List Nat × Nat)} {ks ks' : List Nat} {place v : Nat} (h : settleF ps ks place = some (ks', v)) (hks : ks ≠ []) : ∃ c, 1 ≤ c ∧ c ≤ ks.length ∧ ks' = ks.take c ++ [place] ∧ v = (ks.take c).getLastD 0 := by
  unfold settleF at h
  have hl : 1 ≤ ks.length := by cases ks with | nil => exact absurd rfl hks | cons _ _ => simp
  split at h
  · cases h
    exact ⟨ks.length, hl, Nat.le_refl _, by rw [List.take_length], by rw [List.take_length]⟩
  · split at h
    · cases h
    · rename_i z zs hz
      cases h
      have := sameF_bd ps ks place (ks.length - 1) z (by rw [hz]; exact .head _)
      exact ⟨z.toNat, by (first | lia | omega), by (first | lia | omega), rfl, rfl⟩
theorem lastD_mem {l : List Nat} (h : l ≠ []) : l.getLastD 0 ∈ l := List.mem_of_getElem? (getLast_at h)
theorem rinv_step (ps : List (List Nat × Nat)) {i : Nat} {st : RdSt} (h : RInv i st) : RInv (i + 1) (readStep ps st (i + 1)) := by
  refine nmG fun gG9 kG9 => ?_
  obtain ⟨h1, h2, h3, h4, h5, h6, h7⟩ := h
  refine kG9 ?_
  clear kG9 gG9
  unfold readStep
  split
  · rename_i ks' v e
    refine nmG fun gG9 kG9 => ?_
    refine ex1 (settle_inv e h1) ?_
    intro c y9w1
    refine an4 (y9w1) ?_
    intro c1 c2 y9z2 y9z4
    clear y9w1
    subst y9z2
    subst y9z4
    refine kG9 ?_
    clear kG9 gG9
    have hne : st.ks.take c ≠ [] := fun q => by
      have := congrArg List.length q
      rw [List.length_take] at this
      simp at this
      rcases this with h | h
      · (first | lia | omega)
      · exact h1 h
    refine ⟨by simp, ?_, ?_, ?_, ?_, ?_, ?_⟩
    · rw [List.length_append, List.length_take]; simp; (first | lia | omega)
    · intro k hk
      rcases List.mem_append.mp hk with hk | hk
      · have := h3 k (List.mem_of_mem_take hk); (first | lia | omega)
      · rw [List.mem_singleton.mp hk]; exact Nat.le_refl _
    · rw [List.length_append]; simp; (first | lia | omega)
    · intro p hp
      rcases List.mem_append.mp hp with hp | hp
      · have := h5 p hp; (first | lia | omega)
      · rw [List.mem_singleton.mp hp]; exact Nat.le_refl _
    · intro p hp
      rcases List.mem_append.mp hp with hp | hp
      · have := h6 p hp; (first | lia | omega)
      · rw [List.mem_singleton.mp hp]
        have := h3 _ (List.mem_of_mem_take (lastD_mem hne))
        dsimp only
        (first | lia | omega)
    · dsimp only; (first | lia | omega)
  · refine ⟨h1, by dsimp only; (first | lia | omega), fun k hk => Nat.le_succ_of_le (h3 k hk), by dsimp only; (first | lia | omega), fun p hp => Nat.le_succ_of_le (h5 p hp), fun p hp => Nat.le_succ_of_le (h6 p hp), ?_⟩
    dsimp only
    rw [List.length_append]; simp; (first | lia | omega)
theorem rinv (ps : List (List Nat × Nat)) : ∀ i, RInv i (readF ps i)
  | 0 => ⟨by simp [readF], by simp [readF], by simp [readF], by simp [readF], by simp [readF], by simp [readF], by simp [readF]⟩
  | i + 1 => rinv_step ps (rinv ps i)
theorem names4 {h₀ h : Heap} {L a1 a2 a3 a4 : Addr} {o1 o2 o3 o4 : Obj} {r : List (Addr × Obj)} (_ : News h₀ L h ((a1, o1) :: (a2, o2) :: (a3, o3) :: (a4, o4) :: r)) : ∃ x y, x = a3 ∧ y = a4 := ⟨_, _, rfl, rfl⟩
structure Ground (KF : Frag) (mean : ExcName → Option Value) (mg mb : Str → Option Value) (A : Around) (base : Heap) (env : Env) (L : Addr) (g₀ g : Heap) : Prop where
  T : KtsTurn [L] g₀ g
  B : Below A base [env] g
  X : KF.In g
  P : Top topProg LOE mean mg mb g
  D : KtsDicts [L] g
theorem pile_cls {o : Obj} (h : PileObj o) : o.cls ≠ .type "list" ∧ o.cls ≠ .none ∧ o.cls ≠ .type "range_iterator" := by
  rcases h with h | h | ⟨_, _, _, _, _, rfl⟩
  · rw [h]; simp
  · rw [h]; simp
  · simp
theorem with_name {ps : List (Str × Value)} {x : Str} {v : Value} {m₁ : Str → Option Value} (hx : (ps.all fun p => decide (p.1 ≠ x)) = true) (hm : ∀ p ∈ ps, m₁ p.1 = some p.2) : ∀ p ∈ (x, v) :: ps, (fun y => if y = x then some v else m₁ y) p.1 = some p.2 := by
  intro p hp
  rcases mcs hp with rfl | hp
  · simp
  · show (if p.1 = x then some _ else m₁ p.1) = some p.2
    rw [if_neg (of_decide_eq_true (List.all_eq_true.mp hx p hp))]
    exact hm p hp
theorem inst_nag {h₀ h : Heap} {L x dx : Addr} {nn : List (Addr × Obj)} {ovs : Array Value} {osl : Array (Option Value)} {es : List DictEntry} {n : Nat} (N : News h₀ L h nn) (h1 : (x, (⟨.ref 109, some dx, .fields ovs, osl⟩ : Obj)) ∈ nn) (h2 : (dx, PySem.W.dictOf es n) ∈ nn) :
    InstAt h x ⟨.ref 109, some dx, .fields ovs, osl⟩ 109 (some (PySem.W.dictOf es n)) := ⟨(N _ h1).1, rfl, rfl, (N _ h2).1⟩
end Mine
end
theorem Mine.rstL16 : True := by
  w_top off
  trivial
section
open PySem PySem.W PyProof.Rows PySem.Calls PySem.Spec PyProof.V
set_option Elab.async false
set_option maxRecDepth 100000
set_option maxHeartbeats 8000000
namespace Mine
local macro_rules | `(tactic| k_mem) => `(tactic| first | assumption | exact List.Mem.head _ | (refine List.Mem.tail _ ?_; k_mem))
section
variable {w : World} {mean : ExcName → Option Value} {mg mb : Str → Option Value} {cn : Str} {cs : Scope} {a : Addr} {ccd : Value} {cl : List (Str × Addr)} {A A₀ : Around} {outer : List Env} {base h₀ : Heap} {L : Addr} {m : Str → Option Value} {s : Shared} {Q E : Value → Shared → Prop} {nn : List (Addr × Obj)}
theorem getter_92 {x dx : Addr} {ovs : Array Value} {osl : Array (Option Value)} {es : List DictEntry} {n : Nat} {v1 v2 v3 : Value} (B : Below A₀ base outer h₀) (F : Fr h₀ L s.heap m) (X : (HK w.params).In h₀) (N : News h₀ L s.heap nn) (T : Top topProg LOE mean mg mb h₀) (hA : A.frames = some (envX cn cs L a ccd cl :: outer)) (hroom : A.depth < recursionLimit) (kf : cs.kind = .function)
  (mx : (x, (⟨.ref 109, some dx, .fields ovs, osl⟩ : Obj)) ∈ nn) (md : (dx, dictOf es n) ∈ nn) (hN : NagD es v1 v2 v3) (hv : handedIn v1 = true) (hret : ∀ h' tk', Fr h₀ L h' m → News h₀ L h' nn → Q v1 { s with heap := h', toks := tk' }) :
  wpAny (model PySem.Challenge.rw_xe0048_01.row.prog w) A (call (.ref 92) [.ref x]) Q E s := by
  k_with_none
  k_with "getAttr ref" => ((k_dflt (refine' nag_get ?X.«_@»._hyg ?I.«_@»._hyg ?a.«_@»._hyg ?b.«_@»._hyg ?c.«_@»._hyg ?d.«_@»._hyg ?e.«_@»._hyg ?_; (case X => exact Frag.In.keeps (by k_asm) (Fr.keep (by k_asm))); (case I => exact inst_nag (by k_asm) (by k_mem) (by k_mem)); (case a => exact rfl); (case b => exact rfl); (case c => with_unfolding_all rfl); (case d => assumption); (case e => exact rfl))))
  refine nmG fun gG9 kG9 => ?_
  refine ex6 (hN) ?_
  intro e1 e2 e3 q1 q2 q3 y9z2
  try clear hN
  subst y9z2
  refine kG9 ?_
  clear kG9 gG9
  revert X
  k_fill
  intro X
  refine wpAny_call ?_
  k_dflt (refine' code_defC ?k1 ?k2 ?k3 ?k4 ?k5 ?kA ?kF ?kK ?k6 ?k7 ?k8 ?k9 ?kB ?kD ?_ ?c2 ?c3 ?c4; (case kA => exact hA); (case kF => exact rfl); (case kK => exact kf); (case k1 => exact B); (case k2 => exact F); (case k3 => exact X); (case k4 => exact N); (case k5 => exact T); (case k6 => k_is); (case k7 => k_is); (case k8 => exact hroom); (case k9 => exact BindsTo.of_eq rfl); (case kB => exact rfl); (case kD => decide +kernel); (case c2 => exact rfl); (case c3 => exact rfl); (case c4 => exact rfl); k_whole)
  intro g' L' h' tk' cells' FG' F' N' Y' B' X' T' lnews
  cases Y'
  rw [List.nil_append] at N'
  k_steps
  exact hret _ _ (by assumption) (by assumption)
theorem getter_99 {x dx : Addr} {ovs : Array Value} {osl : Array (Option Value)} {es : List DictEntry} {n : Nat} {v1 v2 v3 : Value} (B : Below A₀ base outer h₀) (F : Fr h₀ L s.heap m) (X : (HK w.params).In h₀) (N : News h₀ L s.heap nn) (T : Top topProg LOE mean mg mb h₀) (hA : A.frames = some (envX cn cs L a ccd cl :: outer)) (hroom : A.depth < recursionLimit) (kf : cs.kind = .function)
  (mx : (x, (⟨.ref 109, some dx, .fields ovs, osl⟩ : Obj)) ∈ nn) (md : (dx, dictOf es n) ∈ nn) (hN : NagD es v1 v2 v3) (hv : handedIn v2 = true) (hret : ∀ h' tk', Fr h₀ L h' m → News h₀ L h' nn → Q v2 { s with heap := h', toks := tk' }) :
  wpAny (model PySem.Challenge.rw_xe0048_01.row.prog w) A (call (.ref 99) [.ref x]) Q E s := by
  k_with_none
  k_with "getAttr ref" => ((k_dflt (refine' nag_get ?X.«_@»._hyg ?I.«_@»._hyg ?a.«_@»._hyg ?b.«_@»._hyg ?c.«_@»._hyg ?d.«_@»._hyg ?e.«_@»._hyg ?_; (case X => exact Frag.In.keeps (by k_asm) (Fr.keep (by k_asm))); (case I => exact inst_nag (by k_asm) (by k_mem) (by k_mem)); (case a => exact rfl); (case b => exact rfl); (case c => with_unfolding_all rfl); (case d => assumption); (case e => exact rfl))))
  refine nmG fun gG9 kG9 => ?_
  refine ex6 (hN) ?_
  intro e1 e2 e3 q1 q2 q3 y9z2
  try clear hN
  subst y9z2
  refine kG9 ?_
  clear kG9 gG9
  revert X
  k_fill
  intro X
  refine wpAny_call ?_
  k_dflt (refine' code_defC ?k1 ?k2 ?k3 ?k4 ?k5 ?kA ?kF ?kK ?k6 ?k7 ?k8 ?k9 ?kB ?kD ?_ ?c2 ?c3 ?c4; (case kA => exact hA); (case kF => exact rfl); (case kK => exact kf); (case k1 => exact B); (case k2 => exact F); (case k3 => exact X); (case k4 => exact N); (case k5 => exact T); (case k6 => k_is); (case k7 => k_is); (case k8 => exact hroom); (case k9 => exact BindsTo.of_eq rfl); (case kB => exact rfl); (case kD => decide +kernel); (case c2 => exact rfl); (case c3 => exact rfl); (case c4 => exact rfl); k_whole)
  intro g' L' h' tk' cells' FG' F' N' Y' B' X' T' lnews
  cases Y'
  rw [List.nil_append] at N'
  k_steps
  exact hret _ _ (by assumption) (by assumption)
theorem getter_106 {x dx : Addr} {ovs : Array Value} {osl : Array (Option Value)} {es : List DictEntry} {n : Nat} {v1 v2 v3 : Value} (B : Below A₀ base outer h₀) (F : Fr h₀ L s.heap m) (X : (HK w.params).In h₀) (N : News h₀ L s.heap nn) (T : Top topProg LOE mean mg mb h₀) (hA : A.frames = some (envX cn cs L a ccd cl :: outer)) (hroom : A.depth < recursionLimit) (kf : cs.kind = .function)
  (mx : (x, (⟨.ref 109, some dx, .fields ovs, osl⟩ : Obj)) ∈ nn) (md : (dx, dictOf es n) ∈ nn) (hN : NagD es v1 v2 v3) (hv : handedIn v3 = true) (hret : ∀ h' tk', Fr h₀ L h' m → News h₀ L h' nn → Q v3 { s with heap := h', toks := tk' }) :
  wpAny (model PySem.Challenge.rw_xe0048_01.row.prog w) A (call (.ref 106) [.ref x]) Q E s := by
  k_with_none
  k_with "getAttr ref" => ((k_dflt (refine' nag_get ?X.«_@»._hyg ?I.«_@»._hyg ?a.«_@»._hyg ?b.«_@»._hyg ?c.«_@»._hyg ?d.«_@»._hyg ?e.«_@»._hyg ?_; (case X => exact Frag.In.keeps (by k_asm) (Fr.keep (by k_asm))); (case I => exact inst_nag (by k_asm) (by k_mem) (by k_mem)); (case a => exact rfl); (case b => exact rfl); (case c => with_unfolding_all rfl); (case d => assumption); (case e => exact rfl))))
  refine nmG fun gG9 kG9 => ?_
  refine ex6 (hN) ?_
  intro e1 e2 e3 q1 q2 q3 y9z2
  try clear hN
  subst y9z2
  refine kG9 ?_
  clear kG9 gG9
  revert X
  k_fill
  intro X
  refine wpAny_call ?_
  k_dflt (refine' code_defC ?k1 ?k2 ?k3 ?k4 ?k5 ?kA ?kF ?kK ?k6 ?k7 ?k8 ?k9 ?kB ?kD ?_ ?c2 ?c3 ?c4; (case kA => exact hA); (case kF => exact rfl); (case kK => exact kf); (case k1 => exact B); (case k2 => exact F); (case k3 => exact X); (case k4 => exact N); (case k5 => exact T); (case k6 => k_is); (case k7 => k_is); (case k8 => exact hroom); (case k9 => exact BindsTo.of_eq rfl); (case kB => exact rfl); (case kD => decide +kernel); (case c2 => exact rfl); (case c3 => exact rfl); (case c4 => exact rfl); k_whole)
  intro g' L' h' tk' cells' FG' F' N' Y' B' X' T' lnews
  cases Y'
  rw [List.nil_append] at N'
  k_steps
  exact hret _ _ (by assumption) (by assumption)
end
end Mine
end
theorem Mine.rstB12 : True := by
  w_top off
  trivial
section
open PySem PySem.W PyProof.Rows PySem.Calls PySem.Spec PyProof.V
set_option Elab.async false
set_option maxRecDepth 100000
set_option maxHeartbeats 1000000
namespace Mine
theorem nagd_look {es : List DictEntry} {n : Nat} {v1 v2 v3 : Value} (h : NagD es v1 v2 v3) : lookIn "get_lineno" (dictOf es n) = some none ∧ lookIn "get_msg" (dictOf es n) = some none ∧ lookIn "get_line" (dictOf es n) = some none := by
  refine nmG fun gG9 kG9 => ?_
  refine ex6 (h) ?_
  intro e1 e2 e3 q1 q2 q3 y9z2
  try clear h
  subst y9z2
  refine kG9 ?_
  clear kG9 gG9
  refine ⟨?_, ?_, ?_⟩ <;> with_unfolding_all rfl
local macro_rules | `(tactic| k_mem) => `(tactic| first | assumption | exact List.Mem.head _ | (refine List.Mem.tail _ ?_; k_mem))
theorem allLt_mem {a : Addr} : ∀ {news : List (Addr × Obj)}, AllLt a news → ∀ p ∈ news, p.1 < a
  | [], _, _, hp => (nomatch hp)
  | q :: r, h, p, hp => by
    rcases mcs hp with rfl | hp
    · exact h.1
    · exact allLt_mem h.2 p hp
section
variable {w : World} {mean : ExcName → Option Value} {mg mb : Str → Option Value} {dp un : Nat} {gd : Option (List Code)} {cn : Str} {cs : Scope} {a : Addr} {ccd : Value} {cl : List (Str × Addr)} {A₀ : Around} {base h₀ : Heap} {L : Addr} {m : Str → Option Value} {s : Shared} {Q E : Value → Shared → Prop} {news : List (Addr × Obj)}
end
namespace Zread_ct
noncomputable def ctS (w : World) (mean : ExcName → Option Value) (mg : Str → Option Value) (mb : Str → Option Value) (dp : Nat) (un : Nat) (gd : Option (List Code)) (cn : Str) (cs : Scope) (a : Addr) (ccd : Value) (cl : List (Str × Addr)) (outer : List Env) (A₀ : Around) (base : Heap) (h₀ : Heap) (L : Addr) (m : Str → Option Value) (s : Shared) (Q : Value → Shared → Prop) (E : Value → Shared → Prop) (news : List (Addr × Obj)) (ps : List (List Nat × Nat)) (pg : Addr) (pv : List Value) (pe : Nat) (tb : Array Value) (R₀ : List (Addr × Obj)) : Prop := Bx (
  ∀ (hO : LOk 4 ps) (C : At w mean mg mb 4 dp un cs [] A₀ base h₀ L m ((180, tabObj tb) :: R₀) s.heap) (XB : (HK w.params).In base) (TB : Top topProg LOE mean mg mb base) (G : AllBare s.gens) (hTab : TabOk tb) (hR : ∀ q ∈ R₀, q.1 ≠ 180) (mp : (pg, ({ cls := .type "list", data := .seq pv.toArray pe } : Obj)) ∈ R₀) (hS : StrsAre pv (rowsF ps)) (hret : ∀ (T : Addr) (nn : List (Addr × Obj)) (h' : Heap) (tk' : Nat) gs, AllBare gs → ReadIn w nn T ⟨[], (readF ps 5).ab, (readF ps 5).ng⟩ → (∃ tb', (180, tabObj tb') ∈ nn) → (∀ p ∈ R₀, p ∈ nn) → Fr h₀ L h' m → News h₀ L h' nn → Q (.ref T) { s with heap := h', toks := tk', gens := gs }),
  wpAny (model PySem.Challenge.rw_xe0048_01.row.prog w) (ktrTop dp un gd cn cs L a ccd cl []) (call (.ref 223) [.ref pg]) Q E s)
theorem ne : Nonempty (V0 × ((List (List Nat × Nat)) × (Addr) × (List Value) × (Nat) × (Array Value) × (List (Addr × Obj)))) := ne_V ⟨(default, default, default, default, default, default)⟩
noncomputable def ctc : V0 × ((List (List Nat × Nat)) × (Addr) × (List Value) × (Nat) × (Array Value) × (List (Addr × Obj))) := pk ne fun v => ctS v.1.w v.1.mean v.1.mg v.1.mb v.1.dp v.1.un v.1.gd v.1.cn v.1.cs v.1.a v.1.ccd v.1.cl v.1.outer v.1.A₀ v.1.base v.1.h₀ v.1.L v.1.m v.1.s v.1.Q v.1.E v.1.news v.2.1 v.2.2.1 v.2.2.2.1 v.2.2.2.2.1 v.2.2.2.2.2.1 v.2.2.2.2.2.2
noncomputable def w : World := ctc.1.w
noncomputable def mean : ExcName → Option Value := ctc.1.mean
noncomputable def mg : Str → Option Value := ctc.1.mg
noncomputable def mb : Str → Option Value := ctc.1.mb
noncomputable def dp : Nat := ctc.1.dp
noncomputable def un : Nat := ctc.1.un
noncomputable def gd : Option (List Code) := ctc.1.gd
noncomputable def cn : Str := ctc.1.cn
noncomputable def cs : Scope := ctc.1.cs
noncomputable def a : Addr := ctc.1.a
noncomputable def ccd : Value := ctc.1.ccd
noncomputable def cl : List (Str × Addr) := ctc.1.cl
noncomputable def outer : List Env := ctc.1.outer
noncomputable def A₀ : Around := ctc.1.A₀
noncomputable def base : Heap := ctc.1.base
noncomputable def h₀ : Heap := ctc.1.h₀
noncomputable def L : Addr := ctc.1.L
noncomputable def m : Str → Option Value := ctc.1.m
noncomputable def s : Shared := ctc.1.s
noncomputable def Q : Value → Shared → Prop := ctc.1.Q
noncomputable def E : Value → Shared → Prop := ctc.1.E
noncomputable def news : List (Addr × Obj) := ctc.1.news
noncomputable def ps : List (List Nat × Nat) := ctc.2.1
noncomputable def pg : Addr := ctc.2.2.1
noncomputable def pv : List Value := ctc.2.2.2.1
noncomputable def pe : Nat := ctc.2.2.2.2.1
noncomputable def tb : Array Value := ctc.2.2.2.2.2.1
noncomputable def R₀ : List (Addr × Obj) := ctc.2.2.2.2.2.2
noncomputable def ctA : (ctR : (Heap) → (Addr) → (Heap) → Prop) ×' (∀ (hO : LOk 4 ps) (C : At w mean mg mb 4 dp un cs [] A₀ base h₀ L m ((180, tabObj tb) :: R₀) s.heap) (XB : (HK w.params).In base) (TB : Top topProg LOE mean mg mb base) (G : AllBare s.gens) (hTab : TabOk tb) (hR : ∀ q ∈ R₀, q.1 ≠ 180) (mp : (pg, ({ cls := .type "list", data := .seq pv.toArray pe } : Obj)) ∈ R₀) (hS : StrsAre pv (rowsF ps)) (hret : ∀ (T : Addr) (nn : List (Addr × Obj)) (h' : Heap) (tk' : Nat) gs, AllBare gs → ReadIn w nn T ⟨[], (readF ps 5).ab, (readF ps 5).ng⟩ → (∃ tb', (180, tabObj tb') ∈ nn) → (∀ p ∈ R₀, p ∈ nn) → Fr h₀ L h' m → News h₀ L h' nn → Q (.ref T) { s with heap := h', toks := tk', gens := gs }), (∀ g9 L9 h0, Bx (ctR g9 L9 h0)) → wpAny (model PySem.Challenge.rw_xe0048_01.row.prog w) (ktrTop dp un gd cn cs L a ccd cl []) (call (.ref 223) [.ref pg]) Q E s) := ⟨_, by
  intro hO C XB TB G hTab hR mp hS hret ctH
  k_with_none
  refine nmG fun gG9 kG9 => ?_
  obtain ⟨B, F, X, N, T, kf, hd, hu⟩ := C
  refine kG9 ?_
  clear kG9 gG9
  revert X
  k_fill
  intro X
  refine wpAny_call ?_
  k_dflt (refine' code_defT ?k1 ?k2 ?k3 ?k4 ?k5 ?kA ?k6 ?k7 ?k8 ?k9 ?kB ?_ ?c1 ?c2 ?c3 ?c4 ?c5; (case kA => exact rfl); (case k1 => k_asm); (case k2 => k_asm); (case k3 => k_asm); (case k4 => k_asm); (case k5 => k_asm); (case k6 => k_is); (case k7 => k_is); (case k8 => ktr_room); (case k9 => exact BindsTo.of_eq rfl); (case kB => exact locs rfl); (case c1 => first | exact rfl | assumption); (case c2 => exact rfl); (case c3 => exact rfl); (case c4 => exact rfl); (case c5 => decide); k_whole; exact fun g9 L9 h0 => (ctH g9 L9 h0).out)⟩
theorem ned : Nonempty ((Heap) × (Addr) × (Heap)) := ⟨(default, default, default)⟩
noncomputable def ctd := pk ned fun v => Bx (ctA.1 v.1 v.2.1 v.2.2)
noncomputable def g9 : Heap := ctd.1
noncomputable def L9 : Addr := ctd.2.1
noncomputable def h0 : Heap := ctd.2.2
theorem ctB (hO : LOk 4 ps) (C : At w mean mg mb 4 dp un cs [] A₀ base h₀ L m ((180, tabObj tb) :: R₀) s.heap) (XB : (HK w.params).In base) (TB : Top topProg LOE mean mg mb base) (G : AllBare s.gens) (hTab : TabOk tb) (hR : ∀ q ∈ R₀, q.1 ≠ 180) (mp : (pg, ({ cls := .type "list", data := .seq pv.toArray pe } : Obj)) ∈ R₀) (hS : StrsAre pv (rowsF ps)) (hret : ∀ (T : Addr) (nn : List (Addr × Obj)) (h' : Heap) (tk' : Nat) gs, AllBare gs → ReadIn w nn T ⟨[], (readF ps 5).ab, (readF ps 5).ng⟩ → (∃ tb', (180, tabObj tb') ∈ nn) → (∀ p ∈ R₀, p ∈ nn) → Fr h₀ L h' m → News h₀ L h' nn → Q (.ref T) { s with heap := h', toks := tk', gens := gs }) : Bx (ctA.1 g9 L9 h0) := by
  refine ⟨?_⟩
  dsimp only [ctA]
  k_with_none
  k_with "subscriptTail" => (((with_reducible show wpAny _ _ (subscriptTail _ _ (Value.ref _) (Value.int _ _)) _ _ _); (k_dflt (refine' mitem_strsE ?c1.«_@»._hyg ?c2.«_@»._hyg ?c3.«_@»._hyg ?c4.«_@»._hyg ?c5.«_@»._hyg ?c6.«_@»._hyg ?c7.«_@»._hyg ?_ ?c9.«_@»._hyg; (case c1 => k_asm); (case c2 => k_mem); (case c3 => assumption); (case c4 => decide); (case c5 => (rw [rowsF_len]; decide)); (case c6 => (rw [rowsF_len]; decide)); (case c7 => exact rfl); (case c9 => with_unfolding_all rfl))); intro tz9))
  k_with "call ref" => (((with_reducible show wpAny _ _ (call (Value.ref 174) _) _ _ _); k_dflt (refine' ws_ct ⟨?k1.«_@»._hyg, ?k2.«_@»._hyg, ?k3.«_@»._hyg, ?k4.«_@»._hyg, ?k5.«_@»._hyg, ?k6.«_@»._hyg, ?k7.«_@»._hyg, ?k8.«_@»._hyg⟩ ?kl.«_@»._hyg ?_; (case k1 => k_asm); (case k2 => k_asm); (case k3 => k_in); (case k4 => k_asm); (case k5 => k_asm); (case k6 => first | exact rfl | assumption); (case k7 => ktr_room); (case k8 => ktr_units); (case kl => assumption)); intro lx lW nw h'z9 tk'z9 F'z9 N'z9 hnw hlW hraw hscan; (have mpw := hnw _ (List.Mem.tail _ mp))))
  k_with "call ref" => (((with_reducible show wpAny _ _ (call (Value.ref 216) _) _ _ _); refine hold ?_))
  k_with "eval Dict nil nil" => ((k_here; k_dflt (refine' newDict_K ?k1.«_@»._hyg ?k2.«_@»._hyg (TopRead.nolimit (by k_asm)) ?_; (case k1 => k_asm); (case k2 => k_asm); k_whole); intro dd h'z9 od F'z9 N'z9 hdd hdlo hs'z9 fs'z9 hdi fi'z9; (have l1z9 := hdd); (try k_lt l1z9)))
  k_with "call builtin:len" => (((with_reducible show wpAny _ _ (call (Value.builtin "len") [Value.ref _]) _ _ _); k_dflt (refine' mlen_strs ?a.«_@»._hyg ?b.«_@»._hyg ?c.«_@»._hyg ?d.«_@»._hyg ?_; (case a => k_asm); (case b => k_mem); (case c => assumption); (case d => (rw [rowsF_len]; (first | lia | omega))))))
  k_with "newList" => ((k_here; k_dflt (refine' newList_K ?k1.«_@»._hyg ?k2.«_@»._hyg ?_; (case k1 => k_asm); (case k2 => k_asm); k_whole); intro al h'z9 F'z9 N'z9 hal; (have l1z9 := hal); (try k_lt l1z9)))
  k_with "getMethod ref" => ((k_dflt (refine' nag_method ?X.«_@»._hyg ?I.«_@»._hyg ?a.«_@»._hyg ?b.«_@»._hyg ?c.«_@»._hyg ?d.«_@»._hyg ?e.«_@»._hyg ?_; (case X => exact Frag.In.keeps (by k_asm) (Fr.keep (by k_asm))); (case I => exact inst_nag (by k_asm) (by with_reducible assumption) (by with_reducible assumption)); (case a => exact rfl); (case b => exact rfl); (case c => exact rfl); (case d => exact rfl); (case e => first | exact (nagd_look (by with_reducible assumption)).1 | exact (nagd_look (by with_reducible assumption)).2.1 | exact (nagd_look (by with_reducible assumption)).2.2)); dsimp only; (try simp only [List.append_nil])))
  k_with "getAttr ref" => ((k_dflt (refine' nag_get ?X.«_@»._hyg ?I.«_@»._hyg ?a.«_@»._hyg ?b.«_@»._hyg ?c.«_@»._hyg ?d.«_@»._hyg ?e.«_@»._hyg ?_; (case X => exact Frag.In.keeps (by k_asm) (Fr.keep (by k_asm))); (case I => exact inst_nag (by k_asm) (by with_reducible assumption) (by with_reducible assumption)); (case a => exact rfl); (case b => exact rfl); (case c => with_unfolding_all rfl); (case d => exact rfl); (case e => exact rfl))))
  k_with "call ref" => (((with_reducible show wpAny _ _ (call (Value.ref 92) _) _ _ _); k_dflt (refine' getter_92 ?k1.«_@»._hyg ?k2.«_@»._hyg ?k3.«_@»._hyg ?k4.«_@»._hyg ?k5.«_@»._hyg ?kA.«_@»._hyg ?k7.«_@»._hyg ?k6.«_@»._hyg ?kx.«_@»._hyg ?kd.«_@»._hyg ?kn.«_@»._hyg ?kv.«_@»._hyg ?_; (case kA => exact rfl); (case k6 => exact rfl); (case k1 => k_asm); (case k2 => k_asm); (case k3 => k_in); (case k4 => k_asm); (case k5 => k_asm); (case k7 => exact Nat.lt_of_le_of_lt (Nat.add_le_add_left (show 1 ≤ 4 by decide) _) (by with_reducible assumption)); (case kx => with_reducible assumption); (case kd => with_reducible assumption); (case kn => with_reducible assumption); (case kv => exact rfl)); intro h'z9 tk'z9 F'z9 N'z9))
  k_with "call ref" => (((with_reducible show wpAny _ _ (call (Value.ref 99) _) _ _ _); k_dflt (refine' getter_99 ?k1.«_@»._hyg ?k2.«_@»._hyg ?k3.«_@»._hyg ?k4.«_@»._hyg ?k5.«_@»._hyg ?kA.«_@»._hyg ?k7.«_@»._hyg ?k6.«_@»._hyg ?kx.«_@»._hyg ?kd.«_@»._hyg ?kn.«_@»._hyg ?kv.«_@»._hyg ?_; (case kA => exact rfl); (case k6 => exact rfl); (case k1 => k_asm); (case k2 => k_asm); (case k3 => k_in); (case k4 => k_asm); (case k5 => k_asm); (case k7 => exact Nat.lt_of_le_of_lt (Nat.add_le_add_left (show 1 ≤ 4 by decide) _) (by with_reducible assumption)); (case kx => with_reducible assumption); (case kd => with_reducible assumption); (case kn => with_reducible assumption); (case kv => exact rfl)); intro h'z9 tk'z9 F'z9 N'z9))
  k_with "call ref" => (((with_reducible show wpAny _ _ (call (Value.ref 106) _) _ _ _); k_dflt (refine' getter_106 ?k1.«_@»._hyg ?k2.«_@»._hyg ?k3.«_@»._hyg ?k4.«_@»._hyg ?k5.«_@»._hyg ?kA.«_@»._hyg ?k7.«_@»._hyg ?k6.«_@»._hyg ?kx.«_@»._hyg ?kd.«_@»._hyg ?kn.«_@»._hyg ?kv.«_@»._hyg ?_; (case kA => exact rfl); (case k6 => exact rfl); (case k1 => k_asm); (case k2 => k_asm); (case k3 => k_in); (case k4 => k_asm); (case k5 => k_asm); (case k7 => exact Nat.lt_of_le_of_lt (Nat.add_le_add_left (show 1 ≤ 4 by decide) _) (by with_reducible assumption)); (case kx => with_reducible assumption); (case kd => with_reducible assumption); (case kn => with_reducible assumption); (case kv => exact rfl)); intro h'z9 tk'z9 F'z9 N'z9))
  k_with "exec For Name Call cons nil" => (refine hold ?_)
  k_with "setItem ref int" => (refine hold ?_)
  k_with "call builtin:list.append" => (refine hold ?_)
  refine nmG fun gG9 kG9 => ?_
  obtain ⟨B, F, X, N, T, kf, hd, hu⟩ := C
  refine kG9 ?_
  clear kG9 gG9
  revert X
  k_fill
  intro X
  have hrl : (rowAt ps 0).length ≤ 50 := row_len hO _ (by unfold rowAt; rw [List.getD_eq_getElem?_getD, List.getElem?_eq_getElem (by rw [rowsF_len]; (first | lia | omega))]; exact List.getElem_mem _)
  intro FG9 F9 N9 B9 X9 T9 D9
  (try dsimp only)
  k_steps
  unfold Hold
  (with_reducible rename News _ _ _ ((al, _) :: _) => N1)
  obtain ⟨pl, dt, rfl, rfl⟩ := names4 N1
  (with_reducible rename pl < dd ∧ dt < dd ∧ AllLt dd nw => l1b)
  (with_reducible rename dd < al ∧ pl < al ∧ dt < al ∧ AllLt al nw => l1a)
  (with_reducible rename dt < pl ∧ AllLt pl nw => l1c)
  have y1 : pl ≠ dd := Nat.ne_of_lt l1b.1
  have y2 : dd ≠ al := Nat.ne_of_lt l1a.1
  have y3 : pl ≠ al := Nat.ne_of_lt l1a.2.1
  have hw0 : ∀ p ∈ R₀, p ∈ nw := fun p hp => hnw p (.tail _ hp)
  have hRp : ∀ p ∈ R₀, p.1 ≠ pl := fun p hp => Nat.ne_of_lt (allLt_mem l1c.2 p (hw0 p hp))
  have hRd : ∀ p ∈ R₀, p.1 ≠ dd := fun p hp => Nat.ne_of_lt (allLt_mem l1b.2.2 p (hw0 p hp))
  have hRa : ∀ p ∈ R₀, p.1 ≠ al := fun p hp => Nat.ne_of_lt (allLt_mem l1a.2.2.2 p (hw0 p hp))
  have hlo := Kp.mk hdlo
  (with_unfolding_all refine For_T (by rfl) (by rfl) (by rfl) ?_ ?hs ?hE)
  case hs => intro x; with_unfolding_all rfl
  case hE => with_unfolding_all passes_own
  k_steps
  unfold Hold
  (with_reducible rename IsRange _ _ _ _ _ _ _ _ => hrg)
  (with_reducible rename News _ _ _ ((al, _) :: _) => N2)
  (with_reducible rename Fr _ _ _ (_ : Str → Option Value) => F2)
  refine (exi11 _ 1 (((rowsF ps).length : Int)) _ _ _ 5 g9 _ _ (fun i g m' nn => Ground (KK w) mean mg mb (ktrTop dp un gd cn cs L a ccd cl []) base (envX cn cs L a ccd cl) L g9 g ∧ (∀ p ∈ [(("page" : Str), Value.ref pg), (("pile" : Str), Value.ref pl), (("above" : Str), Value.ref dd), (("nags" : Str), Value.ref al)], m' p.1 = some p.2) ∧
    ∃ vs e kvs o nvs ne tb', TabOk tb' ∧ (pl, ({ cls := .type "list", data := .seq vs.toArray e } : Obj)) ∈ nn ∧ (180, tabObj tb') ∈ nn ∧ (dd, o) ∈ nn ∧ o.IsDictOf (intKind PySem.Challenge.rw_xe0048_01.row.prog w) kvs ∧ AbIs kvs (readF ps i).ab ∧ (al, ({ cls := .type "list", data := .seq nvs.toArray ne } : Obj)) ∈ nn ∧ PileAre nn ps vs (readF ps i).ks ∧ NagsAre nn nvs (readF ps i).ng ∧ ∀ p ∈ R₀, p ∈ nn) ⟨rfl, hrg, by decide, by rw [rowsF_len]; decide, by rw [rowsF_len]; rfl, F2, N2, G, ⟨⟨KtsTurn.refl, B9, X9, T9, D9⟩, by kst_all, exi7 [.ref dt] 0 [] od [] 0 tb ⟨hTab, ?_, ?_, ?_, hdi, ?_, ?_, ?_, ?_, ?_⟩⟩, ?_, ?_⟩)
  · exact .tail _ (.tail _ (.head _))
  · exact .tail _ (.tail _ (.tail _ (.tail _ (hnw _ (.head _)))))
  · exact .tail _ (.head _)
  · exact True.intro
  · exact .head _
  · exact .cons (.tail _ (.tail _ (.tail _ (.head _)))) (hlW.mono fun p hp => .tail _ (.tail _ (.tail _ (.tail _ hp)))) hscan .nil
  · exact .nil
  · exact fun p hp => .tail _ (.tail _ (.tail _ (.tail _ (hw0 p hp))))
  · intro i t g m₁ nn h tk gs I oI hG hin hoI hz9
    refine nmG fun gG9 kG9 => ?_
    refine an3 (hz9) ?_
    intro y9z1 hm y9w2
    refine ex7 (y9w2) ?_
    intro vs e kvs o nvs ne tb' y9w3
    refine an10 (y9w3) ?_
    intro hTab' k1 k2 k3 i1 a1 k4 hPl hNg hR0
    clear y9w3 y9w2
    try clear hz9
    obtain ⟨hT, hB, hX, hP, hD⟩ := y9z1
    refine kG9 ?_
    clear kG9 gG9
    intro hnI F N
    clear hrg N2 F2
    have hm' := with_name (x := "place") (v := .int (1 + (i : Int)) t) (by rfl) hm
    replace F := fr_map F (kstB_self hm')
    dsimp only [kstB] at F
    have eki : (1 + (i : Int)) = ((i + 1 : Nat) : Int) := by (first | lia | omega)
    rw [eki] at F
    have hRI := rinv ps i
    refine nmG fun gG9 kG9 => ?_
    obtain ⟨R, N3, u1, u2⟩ := news_front2 N (.tail _ k1) (.tail _ k2)
    refine kG9 ?_
    clear kG9 gG9
    have hpl1 : ∀ p ∈ nn, p.2.cls ≠ .type "list" → p.2.cls ≠ .none → p ∈ R := fun p hp h1 h2 => u2 p (.tail _ hp) (ne_addr N (.tail _ hp) (.tail _ k1) h1) (ne_addr N (.tail _ hp) (.tail _ k2) h2)
    have hdc := dict_cls i1
    have d3 : (dd, o) ∈ R := hpl1 _ k3 (by rw [hdc]; simp) (by rw [hdc]; simp)
    have z1 : pl ≠ 180 := ne_addr N (.tail _ k1) (.tail _ k2) (by simp)
    have z2 : al ≠ 180 := ne_addr N (.tail _ k4) (.tail _ k2) (by simp)
    have d4 : (al, ({ cls := .type "list", data := .seq nvs.toArray ne } : Obj)) ∈ R := u2 _ (.tail _ k4) y3.symm z2
    have dI : (I, oI) ∈ R := u2 _ (.head _) (fun e => hnI _ k1 e.symm) (fun e => hnI _ k2 e.symm)
    have hPR : PileAre R ps vs (readF ps i).ks := hPl.monoP fun p hp hc => hpl1 p hp (pile_cls hc).1 (pile_cls hc).2.1
    have hNR : NagsAre R nvs (readF ps i).ng := hNg.mono fun p hp hc _ => hpl1 p hp (by rw [hc]; simp) (by rw [hc]; simp)
    have hRR : ∀ p ∈ R₀, p ∈ R := fun p hp => u2 p (.tail _ (hR0 p hp)) (hRp p hp) (hR p hp)
    have mpR := hRR _ mp
    clear N k1 k2 k3 k4 hPl hNg u2 hpl1 hnw mpw hlW
    unfold KK at hX
    revert hX
    k_fill
    intro hX
    k_steps
    unfold Hold
    k_dflt (refine' settle_ct hO ⟨?k1, ?k2, ?k3, ?k4, ?k5, ?k6, ?k7, ?k8⟩ ?kG hTab' ?hR hPR hRI.ne ?hkl ?hk5 mpR hS ?h1 ?h5 ?hret ?hexc; (case k1 => exact hB); (case k2 => k_asm); (case k3 => k_in); (case k4 => exact N3); (case k5 => k_asm); (case k6 => first | exact rfl | assumption); (case k7 => ktr_room); (case k8 => ktr_units))
    case kG => exact hG
    case hR => exact u1
    case hkl => have := hRI.len; (first | lia | omega)
    case hk5 => intro k hk; have := hRI.bd k hk; (first | lia | omega)
    case h1 => (first | lia | omega)
    case h5 => (first | lia | omega)
    case hret =>
      intro ks' v hst vs' e' tb2 R' t' h2 tk2 gs2 hTab2 G2 F2 N2 hR2 hsub hP2
      have d3' := hsub _ d3
      have d4' := hsub _ d4
      have dI' := hsub _ dI
      k_steps
      unfold Hold
      have hkl := a1.len
      have habl := hRI.abl
      have hid : ∀ q ∈ R', PileObj q.2 → q.1 ≠ dd := fun q hq hc e => by
        have e1 := (N2 q (.tail _ (.tail _ hq))).1
        have e2 := (N2 _ (.tail _ (.tail _ d3'))).1
        rw [e, e2] at e1
        have e3 : q.2 = o := (Option.some.inj e1).symm
        exact dict_not_pile i1 (e3 ▸ hc)
      have n1 : I ≠ dd := ne_addr N2 (.tail _ (.tail _ dI')) (.tail _ (.tail _ d3')) (by rw [hoI, hdc]; simp)
      have n2 : 180 ≠ dd := ne_addr N2 (.tail _ (.head _)) (.tail _ (.tail _ d3')) (by rw [hdc]; simp)
      have n3 : pl ≠ I := ne_addr N2 (.head _) (.tail _ (.tail _ dI')) (by rw [hoI]; simp)
      have n4 : 180 ≠ I := ne_addr N2 (.tail _ (.head _)) (.tail _ (.tail _ dI')) (by rw [hoI]; simp)
      have n5 : al ≠ I := ne_addr N2 (.tail _ (.tail _ d4')) (.tail _ (.tail _ dI')) (by rw [hoI]; simp)
      have hct : ∀ q ∈ R', q.2.cls = .type "tuple" → q.1 ≠ dd ∧ q.1 ≠ I := fun q hq hc => ⟨ne_addr N2 (.tail _ (.tail _ hq)) (.tail _ (.tail _ d3')) (by rw [hc, hdc]; simp), ne_addr N2 (.tail _ (.tail _ hq)) (.tail _ (.tail _ dI')) (by rw [hc, hoI]; simp)⟩
      have hcp : ∀ q ∈ R', PileObj q.2 → q.1 ≠ I := fun q hq hc => ne_addr N2 (.tail _ (.tail _ hq)) (.tail _ (.tail _ dI')) (by rw [hoI]; exact (pile_cls hc).2.2)
      refine mput (knd := PySem.intKind _ _) F2 N2 (.tail _ (.tail _ d3')) i1 (intKind_is _ _ _ _) (by (first | lia | omega)) ?_
      intro h3 o3 F3 N4 i3
      k_steps
      (with_reducible rename News _ _ _ (upd _ _ _) => N5)
      (with_reducible rename Fr _ _ _ (_ : Str → Option Value) => F5)
      refine nmG fun gG9 kG9 => ?_
      obtain ⟨R4, N6, w1, w2⟩ := news_front N5 (upd_old (.tail _ (.tail _ dI')) n1)
      refine kG9 ?_
      clear kG9 gG9
      have hst1 : readF ps (i + 1) = ⟨ks', (readF ps i).ab ++ [(i + 1, v)], (readF ps i).ng⟩ := by show readStep ps (readF ps i) (i + 1) = _; unfold readStep; rw [hst]
      rw [a1.new (fun p hp => by have := hRI.abk p hp; (first | lia | omega))] at i3
      refine ⟨rfl, exi6 g _ _ gs2 _ R4 ⟨rfl, G2, F5, N6, w1, ⟨hT, hB, hX, hP, hD⟩, by kst_all, exi7 vs' e' _ o3 nvs ne tb2 ⟨hTab2, w2 _ (upd_old (.head _) y1) n3, w2 _ (upd_old (.tail _ (.head _)) n2) n4, w2 _ upd_mem n1.symm, i3, ?_, w2 _ (upd_old (.tail _ (.tail _ d4')) y2.symm) n5, ?_, ?_, ?_⟩⟩⟩
      · rw [hst1]; exact a1.snoc _ _ _
      · rw [hst1]; exact hP2.monoP fun p hp hc => w2 p (upd_old (.tail _ (.tail _ hp)) (hid p hp hc)) (hcp p hp hc)
      · rw [hst1]; exact hNR.mono fun p hp hc _ => w2 p (upd_old (.tail _ (.tail _ (hsub _ hp))) (hct p (hsub _ hp) hc).1) (hct p (hsub _ hp) hc).2
      · exact fun p hp => w2 p (upd_old (.tail _ (.tail _ (hsub _ (hRR p hp)))) (hRd p hp)) (hnI p (hR0 p hp))
    case hexc =>
      intro hnone G' x dx es n tb2 R' t1 t2 t3 h2 tk2 gs2 hTab2 G2 FG RD U hR2 hsub hND
      (with_unfolding_all refine caught_nag (KF := KK w) (x := "NannyNag") (n := "nag") (C := 109) RD FG hB U XB TB hD hT ?ex ?q ?k)
      case ex => rfl
      case q => rfl
      case k =>
        intro h3 g3' hz9
        refine nmG fun gG9 kG9 => ?_
        obtain ⟨oc, odi, oda, osl⟩ := hz9
        refine kG9 ?_
        clear kG9 gG9
        intro ovs tk3 T3 F3 N3 c1 c2 c3 B3 X3 P3 D3
        dsimp only at c1 c2 c3
        subst c1 c2 c3
        have X3k := Kp.mk X3
        unfold KK at X3
        revert X3
        k_fill
        intro X3
        have d3' := hsub _ d3
        have d4' := hsub _ d4
        have dI' := hsub _ dI
        clear hX hP hD hB hT FG RD U F
        have mx3 := N3 _ (.head _)
        clear mx3
        have mx3 : ((x, (⟨.ref 109, some dx, .fields ovs, osl⟩ : Obj)) : Addr × Obj) ∈ ((x, (⟨.ref 109, some dx, .fields ovs, osl⟩ : Obj)) :: (dx, dictOf es n) :: (pl, ({ cls := .type "list", data := .seq vs.toArray e } : Obj)) :: (180, tabObj tb2) :: R') := .head _
        have md3 : ((dx, dictOf es n) : Addr × Obj) ∈ ((x, (⟨.ref 109, some dx, .fields ovs, osl⟩ : Obj)) :: (dx, dictOf es n) :: (pl, ({ cls := .type "list", data := .seq vs.toArray e } : Obj)) :: (180, tabObj tb2) :: R') := .tail _ (.head _)
        k_steps
        unfold Hold
        (with_reducible rename News g3' _ _ ((_, nagT _ _ _ _ _ _) :: _) => N4)
        (with_reducible rename Fr g3' _ _ _ => F4)
        have hngl := hRI.ngl
        have hnl := hNR.length
        have d4R := d4'
        have l4 : ∀ p ∈ ((x, (⟨.ref 109, some dx, .fields ovs, osl⟩ : Obj)) :: (dx, dictOf es n) :: (pl, ({ cls := .type "list", data := .seq vs.toArray e } : Obj)) :: (180, tabObj tb2) :: R'), p.1 < _ := fun p hp => Heap.lt_size ((by assumption : News g3' L9 _ ((x, (⟨.ref 109, some dx, .fields ovs, osl⟩ : Obj)) :: (dx, dictOf es n) :: (pl, ({ cls := .type "list", data := .seq vs.toArray e } : Obj)) :: (180, tabObj tb2) :: R')) p hp).1
        refine mappend F4 N4 (.tail _ (.tail _ (.tail _ (.tail _ (.tail _ d4R))))) (by (first | lia | omega)) ?_
        intro h5 F5 N5
        k_steps
        have n1 : I ≠ al := ne_addr N4 (.tail _ (.tail _ (.tail _ (.tail _ (.tail _ dI'))))) (.tail _ (.tail _ (.tail _ (.tail _ (.tail _ d4'))))) (by rw [hoI]; simp)
        have n2 : I ≠ dd := ne_addr N4 (.tail _ (.tail _ (.tail _ (.tail _ (.tail _ dI'))))) (.tail _ (.tail _ (.tail _ (.tail _ (.tail _ d3'))))) (by rw [hoI, hdc]; simp)
        have n3 : pl ≠ I := ne_addr N4 (.tail _ (.tail _ (.tail _ (.head _)))) (.tail _ (.tail _ (.tail _ (.tail _ (.tail _ dI'))))) (by rw [hoI]; simp)
        have n4 : 180 ≠ I := ne_addr N4 (.tail _ (.tail _ (.tail _ (.tail _ (.head _))))) (.tail _ (.tail _ (.tail _ (.tail _ (.tail _ dI'))))) (by rw [hoI]; simp)
        have hct : ∀ q ∈ R', q.2.cls = .type "tuple" → q.1 ≠ al ∧ q.1 ≠ I := fun q hq hc => ⟨ne_addr N4 (.tail _ (.tail _ (.tail _ (.tail _ (.tail _ hq))))) (.tail _ (.tail _ (.tail _ (.tail _ (.tail _ d4'))))) (by rw [hc]; simp), ne_addr N4 (.tail _ (.tail _ (.tail _ (.tail _ (.tail _ hq))))) (.tail _ (.tail _ (.tail _ (.tail _ (.tail _ dI'))))) (by rw [hc, hoI]; simp)⟩
        have hcp : ∀ q ∈ R', PileObj q.2 → q.1 ≠ al ∧ q.1 ≠ I := fun q hq hc => ⟨ne_addr N4 (.tail _ (.tail _ (.tail _ (.tail _ (.tail _ hq))))) (.tail _ (.tail _ (.tail _ (.tail _ (.tail _ d4'))))) (pile_cls hc).1, ne_addr N4 (.tail _ (.tail _ (.tail _ (.tail _ (.tail _ hq))))) (.tail _ (.tail _ (.tail _ (.tail _ (.tail _ dI'))))) (by rw [hoI]; exact (pile_cls hc).2.2)⟩
        have n5 := Nat.ne_of_gt (l4 _ (.tail _ (.tail _ (.tail _ (.tail _ d4')))))
        have n6 := Nat.ne_of_gt (l4 _ (.tail _ (.tail _ (.tail _ (.tail _ dI')))))
        dsimp only at n5 n6
        (with_reducible rename News g3' _ _ (upd _ _ _) => N7)
        (with_reducible rename Fr g3' _ _ (_ : Str → Option Value) => F7)
        refine nmG fun gG9 kG9 => ?_
        obtain ⟨R4, N6, w1, w2⟩ := news_front N7 (upd_old (.tail _ (.tail _ (.tail _ (.tail _ (.tail _ dI'))))) n1)
        refine kG9 ?_
        clear kG9 gG9
        have hst1 : readF ps (i + 1) = ⟨(readF ps i).ks, (readF ps i).ab, (readF ps i).ng ++ [(i + 1 + 1, wordsF ((witA ps ((readF ps i).ks.getLastD 0) (i + 1)).map (·.1)), rowAt ps (i + 1))]⟩ := by show readStep ps (readF ps i) (i + 1) = _; unfold readStep; rw [hnone]
        refine ⟨rfl, exi6 g3' _ _ gs2 _ R4 ⟨rfl, G2, F7, N6, w1, ⟨⟨T3, B3, X3k.k, P3, D3⟩, by kst_all, exi7 vs e kvs o _ _ tb2 ⟨hTab2, w2 _ (upd_old (.tail _ (.tail _ (.tail _ (.head _)))) y3) n3, w2 _ (upd_old (.tail _ (.tail _ (.tail _ (.tail _ (.head _))))) z2.symm) n4, w2 _ (upd_old (.tail _ (.tail _ (.tail _ (.tail _ (.tail _ d3'))))) y2) n2.symm, i1, ?_, w2 _ upd_mem n1.symm, ?_, ?_, ?_⟩⟩⟩⟩
        · rw [hst1]; exact a1
        · rw [hst1]; exact hPR.monoP fun p hp hc => w2 p (upd_old (.tail _ (.tail _ (.tail _ (.tail _ (.tail _ (hsub _ hp)))))) (hcp p (hsub _ hp) hc).1) (hcp p (hsub _ hp) hc).2
        · rw [hst1]
          exact (hNR.mono fun p hp hc _ => w2 p (upd_old (.tail _ (.tail _ (.tail _ (.tail _ (.tail _ (hsub _ hp)))))) (hct p (hsub _ hp) hc).1) (hct p (hsub _ hp) hc).2).snoc (w2 _ (upd_old (.head _) n5) n6)
        · exact fun p hp => w2 p (upd_old (.tail _ (.tail _ (.tail _ (.tail _ (.tail _ (hsub _ (hRR p hp))))))) (hRa p hp)) (hnI p (hR0 p hp))
  · intro g m' nn h' tk gs hG hz9
    refine nmG fun gG9 kG9 => ?_
    refine an3 (hz9) ?_
    intro y9z1 hm y9w2
    refine ex7 (y9w2) ?_
    intro vs e kvs o nvs ne tb' y9w3
    refine an10 (y9w3) ?_
    intro hTab' k1 k2 k3 i1 a1 k4 hPl hNg hR0
    clear y9w3 y9w2
    try clear hz9
    obtain ⟨hT, hB, hX, hP, hD⟩ := y9z1
    refine kG9 ?_
    clear kG9 gG9
    intro F N
    have hXk := Kp.mk hX
    clear hrg N2 F2 hnw mpw hlW
    have F' := fr_map F (kstB_self hm)
    clear F
    dsimp only [kstB] at F'
    unfold KK at hX
    revert hX
    k_fill
    intro hX
    dsimp only [envOf] at N
    k_steps
    (with_reducible rename News g _ _ ((_, _) :: _) => N9f)
    (with_reducible rename Fr g _ _ _ => F9f)
    refine ⟨g, _, _, _, hT, F9f, N9f, ?_⟩
    intro F0 N0
    refine hret _ _ _ _ _ hG ?ri ⟨tb', .tail _ k2⟩ ?rr F0 N0
    case rr => exact fun p hp => .tail _ (hR0 p hp)
    case ri =>
      refine ⟨dd, al, kvs, nvs, ne, _, o, .head _, .tail _ k3, i1, ?_, .tail _ k4, ?_, hlo.k⟩
      · dsimp only; exact a1
      · dsimp only; exact hNg.mono fun p hp _ _ => .tail _ hp
theorem ctT : ctS w mean mg mb dp un gd cn cs a ccd cl outer A₀ base h₀ L m s Q E news ps pg pv pe tb R₀ := ⟨fun hO C XB TB G hTab hR mp hS hret => ctA.2 hO C XB TB G hTab hR mp hS hret (pk_all3 (ne := ned) (R := fun g9 L9 h0 => Bx (ctA.1 g9 L9 h0)) rfl rfl rfl (ctB hO C XB TB G hTab hR mp hS hret))⟩
theorem all : ∀ v : V0 × ((List (List Nat × Nat)) × (Addr) × (List Value) × (Nat) × (Array Value) × (List (Addr × Obj))), ctS v.1.w v.1.mean v.1.mg v.1.mb v.1.dp v.1.un v.1.gd v.1.cn v.1.cs v.1.a v.1.ccd v.1.cl v.1.outer v.1.A₀ v.1.base v.1.h₀ v.1.L v.1.m v.1.s v.1.Q v.1.E v.1.news v.2.1 v.2.2.1 v.2.2.2.1 v.2.2.2.2.1 v.2.2.2.2.2.1 v.2.2.2.2.2.2 := pk_all (ne := ne) (P := fun v => ctS v.1.w v.1.mean v.1.mg v.1.mb v.1.dp v.1.un v.1.gd v.1.cn v.1.cs v.1.a v.1.ccd v.1.cl v.1.outer v.1.A₀ v.1.base v.1.h₀ v.1.L v.1.m v.1.s v.1.Q v.1.E v.1.news v.2.1 v.2.2.1 v.2.2.2.1 v.2.2.2.2.1 v.2.2.2.2.2.1 v.2.2.2.2.2.2) ctT
end Zread_ct
section
variable {w : World} {mean : ExcName → Option Value} {mg mb : Str → Option Value} {dp un : Nat} {gd : Option (List Code)} {cn : Str} {cs : Scope} {a : Addr} {ccd : Value} {cl : List (Str × Addr)} {A₀ : Around} {base h₀ : Heap} {L : Addr} {m : Str → Option Value} {s : Shared} {Q E : Value → Shared → Prop} {news : List (Addr × Obj)}
theorem read_ct  {ps : List (List Nat × Nat)} (hO : LOk 4 ps) {pg : Addr} {pv : List Value} {pe : Nat} {tb : Array Value} {R₀ : List (Addr × Obj)}
  (C : At w mean mg mb 4 dp un cs [] A₀ base h₀ L m ((180, tabObj tb) :: R₀) s.heap) (XB : (HK w.params).In base) (TB : Top topProg LOE mean mg mb base) (G : AllBare s.gens) (hTab : TabOk tb) (hR : ∀ q ∈ R₀, q.1 ≠ 180)
  (mp : (pg, ({ cls := .type "list", data := .seq pv.toArray pe } : Obj)) ∈ R₀) (hS : StrsAre pv (rowsF ps))
  (hret : ∀ (T : Addr) (nn : List (Addr × Obj)) (h' : Heap) (tk' : Nat) gs, AllBare gs → ReadIn w nn T ⟨[], (readF ps 5).ab, (readF ps 5).ng⟩ → (∃ tb', (180, tabObj tb') ∈ nn) → (∀ p ∈ R₀, p ∈ nn) → Fr h₀ L h' m → News h₀ L h' nn → Q (.ref T) { s with heap := h', toks := tk', gens := gs }) :
  wpAny (model PySem.Challenge.rw_xe0048_01.row.prog w) (ktrTop dp un gd cn cs L a ccd cl []) (call (.ref 223) [.ref pg]) Q E s := by
  exact (Zread_ct.all ⟨⟨w, mean, mg, mb, dp, un, gd, cn, cs, a, ccd, cl, [], A₀, base, h₀, L, m, s, Q, E, []⟩, ps, pg, pv, pe, tb, R₀⟩).out hO C XB TB G hTab hR mp hS hret
end
end Mine
end
theorem Mine.rstP3 : True := by
  w_top off
  trivial
section
open PySem PySem.W PyProof.Rows PySem.Calls PySem.Spec
set_option Elab.async false
set_option maxRecDepth 100000
set_option maxHeartbeats 1000000
namespace Mine
theorem gtF_all {a b : List Int} : gtF a b = true ↔ ∀ k, k < 6 → b.getD k 0 < a.getD k 0 := by
  unfold gtF
  rw [List.all_eq_true]
  constructor
  · intro h k hk
    have := of_decide_eq_true (h k (List.mem_range.mpr hk))
    (first | lia | omega)
  · intro h k hk
    have := h k (List.mem_range.mp hk)
    rw [decide_eq_true_eq]
    (first | lia | omega)
theorem gtF_trans {a b c : List Int} (h1 : gtF a b = true) (h2 : gtF b c = true) : gtF a c = true := by
  rw [gtF_all] at h1 h2 ⊢
  intro k hk
  have := h1 k hk
  have := h2 k hk
  (first | lia | omega)
theorem gtF_irr {a : List Int} (h : gtF a a = true) : False := by
  rw [gtF_all] at h
  have := h 0 (by decide)
  (first | lia | omega)
theorem filter_first {f : Nat → Bool} {m n : Nat} (hm : m < n) (h1 : f m = true) (h2 : ∀ k, k < m → f k = false) : ∃ tl, (List.range n).filter f = m :: tl := by
  obtain ⟨d, rfl⟩ : ∃ d, n = m + (d + 1) := ⟨n - m - 1, by (first | lia | omega)⟩
  rw [List.range_add, List.range_succ_eq_map, List.map_cons, List.filter_append]
  have e : (List.range m).filter f = [] := List.filter_eq_nil_iff.mpr fun k hk => by rw [h2 k (List.mem_range.mp hk)]; decide
  rw [e, List.nil_append, Nat.add_zero, List.filter_cons, if_pos h1]
  exact ⟨_, rfl⟩
theorem headD_rev (l : List Nat) : l.reverse.getLastD 0 = l.headD 0 := by
  cases l with
  | nil => rfl
  | cons a r => rw [List.reverse_cons]; simp
theorem lead_pos {ps : List (List Nat × Nat)} (h : LOk 4 ps) {k : Nat} (h1 : 1 ≤ k) (h5 : k ≤ 5) : gtF (colAt ps k) (colAt ps 0) = true := by
  rw [gt_at h (by (first | lia | omega)) h5]
  intro j hj
  have hk' : k - 1 < ps.length := by rw [h.n]; (first | lia | omega)
  have e : leadP ps k = ps[k - 1] := by
    unfold leadP
    rw [if_neg (by (first | lia | omega)), List.getD_eq_getElem?_getD, List.getElem?_eq_getElem hk']
    rfl
  have ho := (h.a _ (List.getElem_mem hk')).e
  rw [← e, enc_len] at ho
  have e0 : colP (j + 1) (leadP ps 0) = 0 := by simp [leadP, colP, sumF]
  rw [e0]
  unfold colP
  have hs := sum_one (leadP ps k).1
  by_cases hb : (leadP ps k).2 = 0
  · have hl : 0 < sumF (j + 1) (leadP ps k).1 + (leadP ps k).1.length := by
      rcases Nat.eq_zero_or_pos (leadP ps k).1.length with q | q
      · rw [List.length_eq_zero_iff.mp q] at ho
        simp at ho
        (first | lia | omega)
      · (first | lia | omega)
    have := Nat.mul_pos (Nat.succ_pos j) hl
    exact Nat.lt_of_lt_of_le this (Nat.le_add_left _ _)
  · (first | lia | omega)
/-- the two readers side by side -/
structure Side (ps : List (List Nat × Nat)) (i : Nat) (rd : RdSt) (pt : PSt) : Prop where
  ks : rd.ks = pt.rc.reverse
  ab : rd.ab = pt.ab
  ng : rd.ng = pt.ng
  ch : pt.rc.Pairwise fun x y => gtF (colAt ps x) (colAt ps y) = true
theorem side_step {ps : List (List Nat × Nat)} (hO : LOk 4 ps) {i : Nat} (hi : i + 1 ≤ 5) {rd : RdSt} {pt : PSt} (h : Side ps i rd pt) (hp : PInv i pt) : Side ps (i + 1) (readStep ps rd (i + 1)) (stepF ps pt (i + 1)) := by
  refine nmG fun gG9 kG9 => ?_
  obtain ⟨hks, hab, hng, hch⟩ := h
  obtain ⟨l, hl, hl0⟩ := hp.ne
  obtain ⟨ks, ab, ng⟩ := rd
  obtain ⟨rc, ab', ng'⟩ := pt
  refine kG9 ?_
  clear kG9 gG9
  dsimp only at hks hab hng hch hl
  subst hks hab hng
  have hbd : ∀ x ∈ rc, x ≤ i := fun x hx => by
    rw [hl] at hx
    rcases List.mem_append.mp hx with hx | hx
    · exact (hl0 x hx).2
    · rw [List.mem_singleton.mp hx]; exact Nat.zero_le _
  have hlast := headD_rev rc
  have hhd : rc.headD 0 ∈ rc := by
    rw [hl]
    cases l with
    | nil => simp
    | cons a r => simp
  have hhd5 : rc.headD 0 ≤ 5 := by have := hbd _ hhd; (first | lia | omega)
  unfold readStep settleF stepF
  dsimp only
  rw [hlast, less_gt hO hhd5 hi]
  by_cases hg : gtF (colAt ps (i + 1)) (colAt ps (rc.headD 0)) = true
  · rw [if_pos hg, if_pos hg]
    dsimp only
    refine ⟨by rw [List.reverse_cons], rfl, rfl, List.pairwise_cons.mpr ⟨fun y hy => ?_, hch⟩⟩
    rw [hl] at hg hy hch
    cases l with
    | nil =>
      rw [List.nil_append] at hy hg
      rw [List.mem_singleton.mp hy]
      exact hg
    | cons a r =>
      rw [List.cons_append] at hg hy hch
      rw [List.headD_cons] at hg
      rcases mcs hy with rfl | hy
      · exact hg
      · exact gtF_trans hg ((List.pairwise_cons.mp hch).1 y hy)
  · rw [if_neg hg, if_neg hg]
    have hlast1 : 1 ≤ rc.headD 0 := by
      refine Nat.pos_of_ne_zero fun q => hg ?_
      rw [q]
      exact lead_pos hO (by (first | lia | omega)) hi
    -- split of the chain
    have hsp : rc = rc.takeWhile (fun e => decide (0 < e) && decide (colAt ps e ≠ colAt ps (i + 1))) ++ popF ps (i + 1) rc := (List.takeWhile_append_dropWhile).symm
    have hpre : ∀ x ∈ rc.takeWhile (fun e => decide (0 < e) && decide (colAt ps e ≠ colAt ps (i + 1))), 0 < x ∧ colAt ps x ≠ colAt ps (i + 1) := fun x hx => by
      have := List.all_takeWhile (l := rc) (p := fun e => decide (0 < e) && decide (colAt ps e ≠ colAt ps (i + 1)))
      have := List.all_eq_true.mp this x hx
      simp at this
      exact this
    generalize rc.takeWhile (fun e => decide (0 < e) && decide (colAt ps e ≠ colAt ps (i + 1))) = pre at hsp hpre
    have hpop : ∀ e r, popF ps (i + 1) rc = e :: r → e = 0 ∨ colAt ps e = colAt ps (i + 1) := by
      intro e r q
      unfold popF at q
      have h1 := List.head?_dropWhile_not (fun e => decide (0 < e) && decide (colAt ps e ≠ colAt ps (i + 1))) rc
      rw [q] at h1
      simp at h1
      by_cases z : e = 0
      · exact .inl z
      · exact .inr (h1 (by (first | lia | omega)))
    have hne : popF ps (i + 1) rc ≠ [] := by
      intro q
      have h0 : (0 : Nat) ∈ rc := by rw [hl]; simp
      rw [hsp, q, List.append_nil] at h0
      exact absurd (hpre 0 h0).1 (Nat.lt_irrefl 0)
    generalize popF ps (i + 1) rc = post at hsp hpop hne
    cases post with
    | nil => exact absurd rfl hne
    | cons e rest =>
      clear hne
      have he := hpop e rest rfl
      have hlen : rc.length = pre.length + rest.length + 1 := by rw [hsp]; simp; (first | lia | omega)
      have hrev : rc.reverse = rest.reverse ++ e :: pre.reverse := by rw [hsp]; simp
      cases rest with
      | nil =>
        -- nothing equal
        dsimp only
        have he0 : e = 0 := by
          have : rc.getLast? = some e := by rw [hsp]; simp
          rw [hl] at this
          simp at this
          exact this.symm
        have hs : sameF ps rc.reverse (i + 1) (rc.reverse.length - 1) = [] := by
          unfold sameF
          rw [List.map_eq_nil_iff]
          refine List.filter_eq_nil_iff.mpr fun k hk => ?_
          have hk' := List.mem_range.mp hk
          rw [List.length_reverse, hlen] at hk'
          simp only [List.length_nil] at hk'
          rw [hrev]
          have hkp : k < pre.reverse.length := by rw [List.length_reverse]; (first | lia | omega)
          have e1 : (([] : List Nat).reverse ++ e :: pre.reverse).getD (k + 1) 0 = pre.reverse[k] := by
            simp [List.getD_eq_getElem?_getD, List.getElem?_eq_getElem hkp]
          rw [e1]
          have hm : pre.reverse[k] ∈ pre := List.mem_reverse.mp (List.getElem_mem hkp)
          have hm5 : pre.reverse[k] ≤ 5 := by have := hbd _ (hsp ▸ List.mem_append_left _ hm); (first | lia | omega)
          rw [eqA_iff hO hm5 hi, decide_eq_true_eq]
          exact (hpre _ hm).2
        rw [hs]
        dsimp only
        refine ⟨rfl, rfl, ?_, hch⟩
        dsimp only
        rw [words_eq hO ⟨hlast1, hhd5⟩ ⟨by (first | lia | omega), hi⟩]
      | cons a r =>
        dsimp only
        have hepos : 0 < e := by
          have hm : e ∈ l := by
            have h1 : l ++ [0] = (pre ++ [e]) ++ (a :: r) := by rw [← hl, hsp]; simp
            have h2 := congrArg List.dropLast h1
            rw [List.dropLast_concat, List.dropLast_append_of_ne_nil (by simp)] at h2
            rw [h2]; simp
          exact (hl0 e hm).1
        have hcol : colAt ps e = colAt ps (i + 1) := by
          rcases he with he | he
          · (first | lia | omega)
          · exact he
        have he5 : e ≤ 5 := by have := hbd e (by rw [hsp]; simp); (first | lia | omega)
        rw [hsp] at hch
        refine nmG fun gG9 kG9 => ?_
        obtain ⟨_, hch2, _⟩ := List.pairwise_append.mp hch
        obtain ⟨hch3, hch4⟩ := List.pairwise_cons.mp hch2
        refine kG9 ?_
        clear kG9 gG9
        have hs : ∃ tl, sameF ps rc.reverse (i + 1) (rc.reverse.length - 1) = (((a :: r).length : Nat) : Int) :: tl := by
          unfold sameF
          have h1 : ∃ tl, (List.range (rc.reverse.length - 1)).filter (fun k => eqA ps (rc.reverse.getD (k + 1) 0) (i + 1)) = r.length :: tl := by
            refine filter_first ?_ ?_ ?_
            · rw [List.length_reverse, hlen]; simp; (first | lia | omega)
            · have e1 : rc.reverse.getD (r.length + 1) 0 = e := by
                rw [hrev, List.getD_eq_getElem?_getD, List.getElem?_append_right (by simp)]
                simp
              rw [e1, eqA_iff hO he5 hi, hcol]
              simp
            · intro k hk
              have hk' : k + 1 < (a :: r).reverse.length := by simp; (first | lia | omega)
              have e1 : rc.reverse.getD (k + 1) 0 = (a :: r).reverse[k + 1] := by
                rw [hrev, List.getD_eq_getElem?_getD, List.getElem?_append_left hk', List.getElem?_eq_getElem hk']
                rfl
              rw [e1]
              have hm : (a :: r).reverse[k + 1] ∈ (a :: r) := List.mem_reverse.mp (List.getElem_mem hk')
              have hm5 : (a :: r).reverse[k + 1] ≤ 5 := by have := hbd _ (hsp ▸ List.mem_append_right _ (List.mem_cons_of_mem _ hm)); (first | lia | omega)
              rw [eqA_iff hO hm5 hi, decide_eq_false_iff_not]
              intro q
              have := hch3 _ hm
              rw [q, hcol] at this
              exact gtF_irr this
          obtain ⟨tl, h1⟩ := h1
          rw [h1]
          exact ⟨_, rfl⟩
        obtain ⟨tl, hs⟩ := hs
        rw [hs]
        dsimp only
        have htk : rc.reverse.take ((((a :: r).length : Nat) : Int)).toNat = (a :: r).reverse := by
          rw [Int.toNat_natCast, hrev, List.take_left' (by simp)]
        rw [htk]
        refine ⟨by simp, ?_, rfl, List.pairwise_cons.mpr ⟨fun y hy => ?_, hch4⟩⟩
        · dsimp only
          rw [headD_rev]
          rfl
        · rw [← hcol]; exact hch3 y hy
theorem side {ps : List (List Nat × Nat)} (hO : LOk 4 ps) : ∀ i, i ≤ 5 → Side ps i (readF ps i) (plainF ps i)
  | 0, _ => ⟨rfl, rfl, rfl, by simp [plainF]⟩
  | i + 1, h => side_step hO h (side hO i (by (first | lia | omega))) (pinv ps i)
theorem read_plain {ps : List (List Nat × Nat)} (hO : LOk 4 ps) : (readF ps 5).ab = (plainF ps 5).ab ∧ (readF ps 5).ng = (plainF ps 5).ng := ⟨(side hO 5 (by decide)).ab, (side hO 5 (by decide)).ng⟩
end Mine
end
theorem Mine.rstL17 : True := by
  w_top off
  trivial
section
open PySem PySem.W PyProof.Rows PySem.Calls PySem.Spec PyProof.V
set_option Elab.async false
set_option maxRecDepth 100000
set_option maxHeartbeats 1000000
namespace Mine
open PySem.SeqAt
theorem dict_any {prog prog' : Program} {w w' : World} {h : Heap} {a : Addr} {kvs : List (Int × Value)} (x : h.DictOf (intKind prog w) a kvs) : h.DictOf (intKind prog' w') a kvs := by
  refine nmG fun gG9 kG9 => ?_
  refine ex3 (x) ?_
  intro o es ep y9w1
  refine an6 (y9w1) ?_
  intro h1 h2 h3 h4 h5 h6
  clear y9w1
  try clear x
  refine kG9 ?_
  clear kG9 gG9
  have hp : ∀ {l : List DictEntry} {kvs : List (Int × Value)}, Pairs (intKind prog w) l kvs → Pairs (intKind prog' w') l kvs := by
    intro l kvs h
    induction h with
    | nil => exact .nil
    | cons g1 g2 _ ih => exact .cons g1 g2 ih
  exact ⟨o, es, ep, h1, h2, h3, h4, hp h5, h6⟩
theorem ab_hit : ∀ {ka kb : List (Int × Value)} {ab : List (Nat × Nat)} {A : Around} {s : Shared}, AbIs ka ab → (∀ p ∈ ab, ∃ t, valueAt kb (p.1 : Int) = some (.int (p.2 : Int) t)) → KeqHits A s kb ka true
  | [], _, [], _, _, _, _ => .nil
  | (k, v) :: r, kb, (a, b) :: l, A, s, ⟨h1, ⟨t, h2⟩, h3⟩, hb => by
    subst h1 h2
    obtain ⟨u, hu⟩ := hb (a, b) (.head _)
    have e := EqAt.int_int (A := A) (s := s) (b : Int) t (b : Int) u
    rw [beq_self_eq_true] at e
    exact .hit (e := true) (b := true) hu e (ab_hit h3 fun p hp => hb p (.tail _ hp))
  | [], _, _ :: _, _, _, h, _ => h.elim
  | _ :: _, _, [], _, _, h, _ => h.elim
theorem AbIs.keys : ∀ {kvs : List (Int × Value)} {ab : List (Nat × Nat)}, AbIs kvs ab → kvs.map (·.1) = ab.map fun p => (p.1 : Int)
  | [], [], _ => rfl
  | (k, v) :: r, (a, b) :: l, ⟨h1, _, h3⟩ => by
    subst h1
    rw [List.map_cons, List.map_cons, h3.keys]
  | [], _ :: _, h => h.elim
  | _ :: _, [], h => h.elim
theorem lookup_mem {ab : List (Nat × Nat)} (hn : (ab.map fun p => (p.1 : Int)).Nodup) : ∀ p ∈ ab, ab.lookup p.1 = some p.2 := by
  induction ab with
  | nil => intro p hp; cases hp
  | cons q r ih =>
    obtain ⟨a, b⟩ := q
    rw [List.map_cons, List.nodup_cons] at hn
    intro p hp
    rw [List.lookup_cons]
    rcases mcs hp with rfl | hp
    · simp
    · have hne : (p.1 == a) = false := by
        simp only [beq_eq_false_iff_ne, ne_eq]
        intro e
        exact hn.1 (List.mem_map.mpr ⟨p, hp, by rw [e]⟩)
      rw [hne]
      exact ih hn.2 p hp
theorem NagsAre.get {nn : List (Addr × Obj)} {vs : List Value} {ds : List (Nat × Str × Str)} (h : NagsAre nn vs ds) : ∀ {i k : Nat} {x y : Str}, ds[i]? = some (k, x, y) → ∃ a t1 t2 t3 e, vs[i]? = some (.ref a) ∧ (a, ({ cls := .type "tuple", data := .seq [.int (k : Int) t1, .str x t2, .str y t3].toArray e } : Obj)) ∈ nn := by
  induction h with
  | nil => intro i k x y h; simp at h
  | @cons a k' x' y' t1 t2 t3 e vs ds hm _ ih =>
    intro i k x y h
    cases i with
    | zero =>
      have e9 : (k', x', y') = (k, x, y) := by simpa using h
      injection e9 with e1 e9
      injection e9 with e2 e3
      subst e1 e2 e3
      exact ⟨a, t1, t2, t3, e, rfl, hm⟩
    | succ i => exact ih (by simpa using h)
theorem tup_is {h₀ h : Heap} {L a : Addr} {nn : List (Addr × Obj)} {vs : List Value} {e : Nat} (N : News h₀ L h nn) (hm : (a, ({ cls := .type "tuple", data := .seq vs.toArray e } : Obj)) ∈ nn) : h.IsTuple a vs.toArray :=
  ⟨_, (N _ hm).1, rfl, e, rfl⟩
theorem eqat_refs {A : Around} {s : Shared} {a b : Addr} {k : Bool} (hk : k = true) (h : a ≠ b → RcAt A s (.ref a) (.ref b) k) : EqAt A s (.ref a) (.ref b) k := by
  by_cases e : a = b
  · subst e hk; exact EqAt.same _
  · exact EqAt.of_refs e (h e)
theorem nag_eq {h₀ : Heap} {L : Addr} {s : Shared} {A : Around} {nn : List (Addr × Obj)} (N : News h₀ L s.heap nn) (hu : A.units < cLine) {a b : Addr} {k : Nat} {x y : Str} {t1 t2 t3 u1 u2 u3 : Tok} {e e' : Nat}
    (h1 : (a, ({ cls := .type "tuple", data := .seq [.int (k : Int) t1, .str x t2, .str y t3].toArray e } : Obj)) ∈ nn) (h2 : (b, ({ cls := .type "tuple", data := .seq [.int (k : Int) u1, .str x u2, .str y u3].toArray e' } : Obj)) ∈ nn) : EqAt A s (.ref a) (.ref b) true := by
  refine eqat_refs rfl fun _ => ?_
  have := RcAt.tuples (A := A) (s := s) (e := fun _ => true) (tup_is N h1) (tup_is N h2) hu (fun j g1 g2 => ?_)
  · exact this
  · have hj : j = 0 ∨ j = 1 ∨ j = 2 := by
      have : j < 3 := g1
      omega
    rcases hj with rfl | rfl | rfl
    · have := EqAt.int_int (A := A.in1) (s := s) (k : Int) t1 (k : Int) u1
      rw [beq_self_eq_true] at this; exact this
    · have := EqAt.str_str (A := A.in1) (s := s) x t2 x u2
      rw [beq_self_eq_true] at this; exact this
    · have := EqAt.str_str (A := A.in1) (s := s) y t3 y u3
      rw [beq_self_eq_true] at this; exact this
theorem nags_eq {h₀ : Heap} {L : Addr} {s : Shared} {A : Around} {nn : List (Addr × Obj)} (N : News h₀ L s.heap nn) (hu : A.units + 1 < cLine) {a b : Addr} {vs us : List Value} {ng : List (Nat × Str × Str)} {e e' : Nat}
    (h1 : (a, ({ cls := .type "list", data := .seq vs.toArray e } : Obj)) ∈ nn) (h2 : (b, ({ cls := .type "list", data := .seq us.toArray e' } : Obj)) ∈ nn) (g1 : NagsAre nn vs ng) (g2 : NagsAre nn us ng) : EqAt A s (.ref a) (.ref b) true := by
  refine eqat_refs rfl fun _ => ?_
  have hl1 := g1.length
  have hl2 := g2.length
  have := RcAt.lists (A := A) (s := s) (e := fun _ => true) (N.isList h1) (N.isList h2) (by rw [List.size_toArray, List.size_toArray, hl1, hl2]) (by omega) (fun j p1 p2 => ?_)
  · rw [show (List.range vs.toArray.size).all (fun _ => true) = true by simp] at this
    exact this
  · have hj : j < ng.length := by rw [List.size_toArray] at p1; omega
    refine nmG fun gG9 kG9 => ?_
    obtain ⟨x1, _, _, _, _, e1, m1⟩ := g1.get (i := j) (k := ng[j].1) (x := ng[j].2.1) (y := ng[j].2.2) (by rw [List.getElem?_eq_getElem hj])
    obtain ⟨x2, _, _, _, _, e2, m2⟩ := g2.get (i := j) (k := ng[j].1) (x := ng[j].2.1) (y := ng[j].2.2) (by rw [List.getElem?_eq_getElem hj])
    refine kG9 ?_
    clear kG9 gG9
    have f1 : vs.toArray[j] = .ref x1 := by
      have : vs.toArray[j]? = some (.ref x1) := by simpa using e1
      rw [Array.getElem?_eq_getElem p1] at this
      exact Option.some.inj this
    have f2 : us.toArray[j] = .ref x2 := by
      have : us.toArray[j]? = some (.ref x2) := by simpa using e2
      rw [Array.getElem?_eq_getElem p2] at this
      exact Option.some.inj this
    rw [f1, f2]
    exact nag_eq N (by rw [units_in1]; omega) m1 m2
theorem abs_eq {prog : Program} {w : World} {h₀ : Heap} {L : Addr} {s : Shared} {A : Around} {nn : List (Addr × Obj)} (N : News h₀ L s.heap nn) (hu : A.units < cLine) {a b : Addr} {oa ob : Obj} {ka kb : List (Int × Value)} {ab : List (Nat × Nat)}
    (h1 : (a, oa) ∈ nn) (h2 : (b, ob) ∈ nn) (i1 : oa.IsDictOf (intKind prog w) ka) (i2 : ob.IsDictOf (intKind prog w) kb) (g1 : AbIs ka ab) (g2 : AbIs kb ab) (sa : (a == sysModules) = false) (sb : (b == sysModules) = false) : EqAt A s (.ref a) (.ref b) true := by
  refine eqat_refs rfl fun _ => ?_
  intro prog' w' E Q h
  have da : s.heap.DictOf (intKind prog' w') a ka := dict_any (Heap.dictOf_iff.mpr ⟨oa, (N _ h1).1, i1⟩)
  have db : s.heap.DictOf (intKind prog' w') b kb := dict_any (Heap.dictOf_iff.mpr ⟨ob, (N _ h2).1, i2⟩)
  have hn : (ab.map fun p => (p.1 : Int)).Nodup := by
    obtain ⟨_, _, _, _, _, _, h6⟩ := i2
    rw [g2.keys] at h6
    exact h6
  refine keq_eq (r := true) sa sb da db hu (fun _ => ab_hit g1 fun p hp => g2.get (lookup_mem hn p hp)) ?_
  rw [g1.len, g2.len, beq_self_eq_true]
  exact h
theorem mcompare {w : World} {A : Around} {E : Value → Shared → Prop} {s : Shared} {h₀ : Heap} {L : Addr} {Q : Value → Shared → Prop} {nn : List (Addr × Obj)} {T1 T2 : Addr} {st1 st2 : PSt} (N : News h₀ L s.heap nn) (h1 : ReadIn w nn T1 st1) (h2 : ReadIn w nn T2 st2) (hab : st1.ab = st2.ab) (hng : st1.ng = st2.ng) (hu : A.units + 2 < cLine) (h : Q (.bool false) s) :
    wpAny (model PySem.Challenge.rw_xe0048_01.row.prog w) A (compareOp .NotEq (.ref T1) (.ref T2)) Q E s := by
  refine nmG fun gG9 kG9 => ?_
  refine ex7 (h1) ?_
  intro d1 a1 k1 v1 e1 f1 o1 y9w1
  refine an7 (y9w1) ?_
  intro m1 n1 i1 b1 p1 q1 r1
  clear y9w1
  try clear h1
  refine ex7 (h2) ?_
  intro d2 a2 k2 v2 e2 f2 o2 y9w1
  refine an7 (y9w1) ?_
  intro m2 n2 i2 b2 p2 q2 r2
  clear y9w1
  try clear h2
  refine kG9 ?_
  clear kG9 gG9
  rw [← hab] at b2
  rw [← hng] at q2
  have hI := abs_eq (A := A.in1) N (by rw [units_in1]; omega) n1 n2 i1 i2 b1 b2 r1 r2
  have hL := nags_eq (A := A.in1) N (by rw [units_in1]; omega) p1 p2 q1 q2
  have := RcNeAt.tuples (A := A) (s := s) (e := fun _ => true) (tup_is N m1) (tup_is N m2) (by omega) (fun j g1 g2 => ?_)
  · exact this _ w E Q h
  · have hj : j = 0 ∨ j = 1 := by
      have : j < 2 := g1
      omega
    rcases hj with rfl | rfl
    · exact hI
    · exact hL
end Mine
end
theorem Mine.rstS1 : True := by
  w_top off
  trivial
section
open PySem PySem.W PyProof.Rows PySem.Calls PySem.Spec PyProof.V
set_option Elab.async false
set_option maxRecDepth 100000
set_option maxHeartbeats 1000000
namespace Mine
open PySem.Sre
noncomputable def reCode : Array Nat := #[14, 8, 1, 2, 4294967295, 1, 1, 46, 0, 16, 46, 24, 9, 1, 4294967295, 13, 4, 8, 0, 0, 1, 6, 5, 1]
/-- about to try at place s -/
structure Try (text : Array Nat) (n s : Nat) (m : M) : Prop where
  code : m.code = reCode
  text : m.text = text
  lim : m.lim = n
  last : m.lastStart = n
  pc : m.pc = 9
  pos : m.pos = s
  ans : m.answer = none
  out : m.outcome = none
  fr : ∃ o, m.frames = [{ wait := .nextStart, pc := 9, pos := s, outermost := o }]
  wt : m.weight = 1
theorem runFor_add (a b : Nat) : ∀ m : M, M.runFor (a + b) m = M.runFor b (M.runFor a m) := by
  induction a with
  | zero => intro m; rw [Nat.zero_add]; rfl
  | succ a ih =>
    intro m
    rw [Nat.succ_add]
    by_cases h : m.outcome.isSome = true
    · have : ∀ k, M.runFor k m = m := fun k => by cases k with | zero => rfl | succ k => unfold M.runFor; rw [if_pos h]
      rw [this, this, this]
    · conv => lhs; unfold M.runFor
      conv => rhs; arg 2; unfold M.runFor
      rw [if_neg h, if_neg h]
      exact ih _
theorem run1 {m : M} (h : m.outcome = none) (k : Nat) : M.runFor (k + 1) m = M.runFor k m.step := by
  conv => lhs; unfold M.runFor
  rw [h]; rfl
theorem step_exec {m : M} (h1 : m.code = reCode) (hp : m.pc < 24) (ha : m.answer = none) (ho : m.outcome = none) : m.step = m.exec := by
  unfold M.step
  rw [ho, ha, h1, if_neg (by decide)]
  dsimp only
  rw [if_pos (by show m.pc < 24; exact hp)]
/-- the literal at 9 -/
theorem exec_lit {m : M} (h1 : m.code = reCode) (h5 : m.pc = 9) : m.exec = if m.pos ≥ m.lim then { m with seen := m.seen.add 16 }.say false else if m.text.getD m.pos 0 = 46 then { m with seen := m.seen.add 16, pc := 11, pos := m.pos + 1 } else { m with seen := m.seen.add 16 }.say false := by
  have hw : m.word 0 = 16 := by unfold M.word; rw [h1, h5]; rfl
  unfold M.exec
  dsimp only
  rw [hw]
  show (if m.pos ≥ m.lim then _ else _) = _
  congr 1
  show (match accepts m.code m.pc (m.text.getD m.pos 0) (m.seen.add 16) with | .error why => _ | .ok (false, seen) => _ | .ok (true, seen) => _) = _
  have ha : accepts m.code m.pc (m.text.getD m.pos 0) (m.seen.add 16) = .ok (m.text.getD m.pos 0 == 46, m.seen.add 16) := by
    rw [h1, h5]; rfl
  rw [ha]
  by_cases hd : m.text.getD m.pos 0 = 46
  · rw [if_pos hd]
    have : (m.text.getD m.pos 0 == 46) = true := by simpa using hd
    rw [this]
    dsimp only
    have e : itemWidth m.code m.pc = 2 := by rw [h1, h5]; rfl
    rw [e, h5]
  · rw [if_neg hd]
    have : (m.text.getD m.pos 0 == 46) = false := by simpa using hd
    rw [this]
/-- the digits at 11: there is none -/
theorem exec_rep {m : M} (h1 : m.code = reCode) (h5 : m.pc = 11) (hd : ∀ k ∈ m.text, ¬ (48 ≤ k ∧ k ≤ 57)) : ∃ sn, m.exec = { m with seen := sn }.say false := by
  have hw : m.word 0 = 24 := by unfold M.word; rw [h1, h5]; rfl
  have hw2 : m.word 2 = 1 := by unfold M.word; rw [h1, h5]; rfl
  have hw3 : m.word 3 = 4294967295 := by unfold M.word; rw [h1, h5]; rfl
  have hw4 : m.word 4 = 13 := by unfold M.word; rw [h1, h5]; rfl
  unfold M.exec
  dsimp only
  rw [hw]
  show ∃ sn, (if ((({ m with seen := m.seen.add 24 } : M).word 2 : Nat) : Int) > (m.lim : Int) - m.pos then _ else _) = _
  by_cases hr : ((({ m with seen := m.seen.add 24 } : M).word 2 : Nat) : Int) > (m.lim : Int) - m.pos
  · rw [if_pos hr]; exact ⟨_, rfl⟩
  · rw [if_neg hr]
    have hc : (m.text.getD m.pos 0) = 0 ∨ m.text.getD m.pos 0 ∈ m.text := by
      rw [Array.getD_eq_getD_getElem?]
      cases e : m.text[m.pos]? with
      | none => exact .inl rfl
      | some k => exact .inr (Array.mem_of_getElem? e)
    have hnd : isDigit (m.text.getD m.pos 0) = false := by
      unfold isDigit
      rcases hc with hc | hc
      · rw [hc]; rfl
      · have := hd _ hc
        simp only [Bool.and_eq_false_iff, decide_eq_false_iff_not]
        (first | lia | omega)
    have hrun : ∀ k, ∃ sn, Sre.run m.code m.text (m.pc + 4) k m.pos 0 ((m.seen.add 24).add 13) = .ok (0, sn) := by
      intro k
      cases k with
      | zero => exact ⟨_, rfl⟩
      | succ k =>
        unfold Sre.run
        have ha : ∃ sn, accepts m.code (m.pc + 4) (m.text.getD m.pos 0) ((m.seen.add 24).add 13) = .ok (false, sn) := by
          rw [h1, h5]
          show ∃ sn, inSet reCode (m.text.getD m.pos 0) 24 17 true ((m.seen.add 24).add 13) = .ok (false, sn)
          show ∃ sn, (do if ← category 0 (m.text.getD m.pos 0) then pure (true, (((m.seen.add 24).add 13).add 8).add 55) else inSet reCode (m.text.getD m.pos 0) 23 19 true ((((m.seen.add 24).add 13).add 8).add 55) : Except String (Bool × Sre.Seen)) = .ok (false, sn)
          have hcat : category 0 (m.text.getD m.pos 0) = .ok false := by
            unfold category
            show (Except.ok (isDigit (m.text.getD m.pos 0))).map (· != (0 % 2 == 1)) = _
            rw [hnd]; rfl
          rw [hcat]
          exact ⟨_, rfl⟩
        obtain ⟨sn, ha⟩ := ha
        rw [ha]
        exact ⟨sn, rfl⟩
    have hw2' : ({ m with seen := m.seen.add 24 } : M).word 2 = 1 := hw2
    have hw3' : ({ m with seen := m.seen.add 24 } : M).word 3 = 4294967295 := hw3
    have hw4' : ({ m with seen := m.seen.add 24 } : M).word 4 = 13 := hw4
    rw [hw2', hw3', hw4']
    split
    · rename_i why e
      obtain ⟨sn, h⟩ := hrun _
      rw [h] at e
      cases e
    · rename_i n seen e
      obtain ⟨sn, h⟩ := hrun _
      rw [h] at e
      cases e
      exact ⟨_, rfl⟩
/-- the try at s has failed -/
structure Back (text : Array Nat) (n s : Nat) (m : M) : Prop where
  code : m.code = reCode
  text : m.text = text
  lim : m.lim = n
  last : m.lastStart = n
  ans : m.answer = some false
  out : m.outcome = none
  fr : ∃ o, m.frames = [{ wait := .nextStart, pc := 9, pos := s, outermost := o }]
  wt : m.weight = 1
theorem back_step {text : Array Nat} {n s : Nat} {m : M} (T : Back text n s m) (hs : s < n) : Try text n (s + 1) m.step := by
  refine nmG fun gG9 kG9 => ?_
  obtain ⟨h1, h2, h3, h4, h7, h8, ⟨o, h9⟩, h10⟩ := T
  obtain ⟨code, text', lim, start, lastStart, wholeText, mustAdvance, pc, pos, handed, outermost, marks, lastmark, lastindex, loops, inner, frames, weight, answer, seen, outcome⟩ := m
  refine kG9 ?_
  clear kG9 gG9
  dsimp only at h1 h2 h3 h4 h7 h8 h9 h10
  subst h1 h2 h7 h8 h9 h10
  unfold M.step
  dsimp only
  rw [if_neg (by decide)]
  unfold M.resume
  dsimp only
  rw [if_neg (by decide), if_pos (by rw [h4]; exact hs)]
  unfold M.attemptFrom
  rw [if_pos (by rfl)]
  unfold M.attemptAt M.attempt
  dsimp only
  rw [if_neg (by decide)]
  exact ⟨rfl, rfl, h3, h4, rfl, rfl, rfl, rfl, ⟨_, rfl⟩, rfl⟩
theorem back_end {text : Array Nat} {n : Nat} {m : M} (T : Back text n n m) : ∃ m', M.runFor 2 m = m' ∧ m'.outcome = some .failed := by
  refine nmG fun gG9 kG9 => ?_
  obtain ⟨h1, h2, h3, h4, h7, h8, ⟨o, h9⟩, h10⟩ := T
  obtain ⟨code, text', lim, start, lastStart, wholeText, mustAdvance, pc, pos, handed, outermost, marks, lastmark, lastindex, loops, inner, frames, weight, answer, seen, outcome⟩ := m
  refine kG9 ?_
  clear kG9 gG9
  dsimp only at h1 h2 h3 h4 h7 h8 h9 h10
  subst h1 h2 h7 h8 h9 h10
  refine ⟨_, rfl, ?_⟩
  rw [run1 rfl]
  unfold M.step
  dsimp only
  rw [if_neg (by decide)]
  unfold M.resume
  dsimp only
  rw [if_neg (by decide), if_neg (by rw [h4]; exact Nat.lt_irrefl _)]
  rfl
theorem try_back {text : Array Nat} {n s : Nat} {m : M} (T : Try text n s m) (hd : ∀ k ∈ text, ¬ (48 ≤ k ∧ k ≤ 57)) : ∃ k, k ≤ 2 ∧ Back text n s (M.runFor k m) := by
  have hx := exec_lit T.code T.pc
  have hst := step_exec T.code (by rw [T.pc]; decide) T.ans T.out
  have one : ∀ sn, m.exec = ({ m with seen := sn } : M).say false → ∃ k, k ≤ 2 ∧ Back text n s (M.runFor k m) := by
    intro sn e
    refine ⟨1, by decide, ?_⟩
    rw [run1 T.out]
    show Back text n s m.step
    rw [hst, e]
    exact ⟨T.code, T.text, T.lim, T.last, rfl, T.out, T.fr, T.wt⟩
  by_cases hl : m.pos ≥ m.lim
  · rw [if_pos hl] at hx
    exact one _ hx
  rw [if_neg hl] at hx
  by_cases hdot : m.text.getD m.pos 0 = 46
  · rw [if_pos hdot] at hx
    refine ⟨2, by decide, ?_⟩
    rw [run1 T.out, hst, hx]
    obtain ⟨sn, e⟩ := exec_rep (m := { m with seen := m.seen.add 16, pc := 11, pos := m.pos + 1 }) T.code rfl (by rw [show ({ m with seen := m.seen.add 16, pc := 11, pos := m.pos + 1 } : M).text = text from T.text]; exact hd)
    have hs2 := step_exec (m := { m with seen := m.seen.add 16, pc := 11, pos := m.pos + 1 }) T.code (show 11 < 24 by decide) T.ans T.out
    rw [run1 (by exact T.out)]
    show Back text n s (M.step { m with seen := m.seen.add 16, pc := 11, pos := m.pos + 1 })
    rw [hs2, e]
    exact ⟨T.code, T.text, T.lim, T.last, rfl, T.out, T.fr, T.wt⟩
  · rw [if_neg hdot] at hx
    exact one _ hx
theorem try_end {text : Array Nat} {n : Nat} (hd : ∀ k ∈ text, ¬ (48 ≤ k ∧ k ≤ 57)) : ∀ (d s : Nat) (m : M), n = s + d → Try text n s m → ∃ k, k ≤ 3 * d + 4 ∧ (M.runFor k m).outcome = some .failed := by
  intro d
  induction d with
  | zero =>
    intro s m h T
    refine nmG fun gG9 kG9 => ?_
    obtain ⟨k, hk, B⟩ := try_back T hd
    refine kG9 ?_
    clear kG9 gG9
    rw [show s = n by (first | lia | omega)] at B
    refine nmG fun gG9 kG9 => ?_
    obtain ⟨m', e, h'⟩ := back_end B
    refine kG9 ?_
    clear kG9 gG9
    exact ⟨k + 2, by (first | lia | omega), by rw [runFor_add, e]; exact h'⟩
  | succ d ih =>
    intro s m h T
    refine nmG fun gG9 kG9 => ?_
    obtain ⟨k, hk, B⟩ := try_back T hd
    refine kG9 ?_
    clear kG9 gG9
    have T2 := back_step B (by (first | lia | omega))
    have e2 : Try text n (s + 1) (M.runFor (k + 1) m) := by rw [runFor_add, run1 B.out]; exact T2
    refine nmG fun gG9 kG9 => ?_
    obtain ⟨k', hk', h'⟩ := ih (s + 1) _ (by (first | lia | omega)) e2
    refine kG9 ?_
    clear kG9 gG9
    exact ⟨k + 1 + k', by (first | lia | omega), by rw [runFor_add]; exact h'⟩
theorem search_fails {text : Array Nat} (hd : ∀ k ∈ text, ¬ (48 ≤ k ∧ k ≤ 57)) : ∃ k, k ≤ 3 * text.size + 5 ∧ (M.runFor k (forSearch reCode text 0 0 text.size false)).outcome = some .failed := by
  by_cases h : text.size < 2
  · refine ⟨1, by (first | lia | omega), ?_⟩
    unfold forSearch
    have hc : (decide (0 > text.size) || decide (text.size - 0 < (header reCode).1)) = true := by
      rw [Bool.or_eq_true]
      right
      exact decide_eq_true (by show text.size - 0 < 2; (first | lia | omega))
    dsimp only
    rw [if_pos hc]
    rfl
  · have e : Try text text.size 0 (forSearch reCode text 0 0 text.size false) := by
      unfold forSearch
      have hc : ¬ (decide (0 > text.size) || decide (text.size - 0 < (header reCode).1)) = true := by
        rw [Bool.or_eq_true]
        intro q
        rcases q with q | q
        · exact absurd (of_decide_eq_true q) (by (first | lia | omega))
        · exact h (by have : text.size - 0 < 2 := of_decide_eq_true q; (first | lia | omega))
      dsimp only
      rw [if_neg hc]
      exact ⟨rfl, rfl, rfl, rfl, rfl, rfl, rfl, rfl, ⟨_, rfl⟩, rfl⟩
    refine nmG fun gG9 kG9 => ?_
    obtain ⟨k, hk, h'⟩ := try_end hd text.size 0 _ (by (first | lia | omega)) e
    refine kG9 ?_
    clear kG9 gG9
    exact ⟨k, by (first | lia | omega), h'⟩
end Mine
end
theorem Mine.rstS2 : True := by
  w_top off
  trivial
section
open PySem PySem.W PyProof.Rows PySem.Calls PySem.Spec PyProof.V
set_option Elab.async false
set_option maxRecDepth 100000
set_option maxHeartbeats 1000000
namespace Mine
open PySem.Sre PySem.Builtin.Re
theorem pa_pat : PlainAttrs "re.Pattern" :=
  ⟨⟨"object.__getattribute__", by rw [typeLookup_type, builtinLookup_eq_fast]; kernel_rfl, by decide +kernel⟩, by rw [typeLookup_type, builtinLookup_eq_fast]; kernel_rfl⟩
theorem slot_pat : Slot "re.Pattern" "search" "re.Pattern.search" :=
  .of (owner := "re.Pattern") (n := "search") (by rw [typeLookup_type, builtinLookup_eq_fast]; kernel_rfl) (by decide +kernel) (by decide +kernel) (by decide +kernel)
    (by first | exact .inl (by decide +kernel) | exact .inr (by decide +kernel)) (by rw [isSubtype_type]; kernel_rfl)
theorem type_pat : typeOf (.builtin "re.Pattern.search") = pure (.type "method_descriptor") := by show builtinType _ = _; rw [builtinType_eq_fast]; kernel_rfl
theorem entry_pat : entryFor table "re.Pattern.search" = some Builtin.«re.Pattern.search» := entryFor_of_tree (by kernel_rfl)
theorem args_pat (a b : Value) : argsOk "re.Pattern.search" ⟨[a, b], []⟩ := by unfold argsOk; kernel_rfl
theorem named_pat (v : Value) : reNamed "re.Pattern.search" "search" ["string", "pos", "endpos"] 1 [v] [] = pure [some v, none, none] := by with_unfolding_all rfl
section
variable {prog : Program} {w : World} {A : Around} {E : Value → Shared → Prop} {s : Shared}
theorem drive_wp {Q : Sre.M → Shared → Prop} : ∀ (j turns : Nat) (m : Sre.M), j < turns → (∃ k, k ≤ 4 * j ∧ (Sre.M.runFor k m).outcome.isSome = true) → (∀ m', (∃ k, m' = Sre.M.runFor k m) → m'.outcome.isSome = true → Q m' s) → wpAny (model prog w) A (reDrive turns m) Q E s := by
  intro j
  induction j with
  | zero =>
    intro turns m ht hz9
    refine nmG fun gG9 kG9 => ?_
    obtain ⟨k, hk, ho⟩ := hz9
    refine kG9 ?_
    clear kG9 gG9
    intro hq
    have hk0 : k = 0 := by (first | lia | omega)
    subst hk0
    cases turns with
    | zero => (first | lia | omega)
    | succ t =>
      unfold reDrive
      have e : ∀ n, Sre.M.runFor n m = m := fun n => by cases n with | zero => rfl | succ n => unfold Sre.M.runFor; rw [if_pos (by exact ho)]
      dsimp only
      rw [e]
      rw [if_pos (by exact ho)]
      exact wpAny_pure (hq m ⟨0, rfl⟩ ho)
  | succ j ih =>
    intro turns m ht hz9
    refine nmG fun gG9 kG9 => ?_
    obtain ⟨k, hk, ho⟩ := hz9
    refine kG9 ?_
    clear kG9 gG9
    intro hq
    cases turns with
    | zero => (first | lia | omega)
    | succ t =>
      unfold reDrive
      dsimp only
      by_cases h4 : (Sre.M.runFor reTurnSteps m).outcome.isSome = true
      · rw [if_pos h4]
        exact wpAny_pure (hq _ ⟨_, rfl⟩ h4)
      · rw [if_neg h4]
        refine wpAny_bind (wpAny_rule (ih t _ (by (first | lia | omega)) ?_ ?_))
        · by_cases hk4 : k ≤ 4
          · exfalso
            refine h4 ?_
            have e : reTurnSteps = k + (4 - k) := by show 4 = _; (first | lia | omega)
            rw [e, runFor_add]
            have e2 : ∀ n, Sre.M.runFor n (Sre.M.runFor k m) = Sre.M.runFor k m := fun n => by cases n with | zero => rfl | succ n => conv => { lhs; unfold Sre.M.runFor }; rw [if_pos ho]
            rw [e2]; exact ho
          · refine ⟨k - 4, by (first | lia | omega), ?_⟩
            have e : Sre.M.runFor k m = Sre.M.runFor (k - 4) (Sre.M.runFor reTurnSteps m) := by
              rw [← runFor_add]; congr 1; show k = 4 + (k - 4); (first | lia | omega)
            rw [← e]; exact ho
        · rintro m' ⟨k', rfl⟩ ho'
          exact hq _ ⟨reTurnSteps + k', by rw [runFor_add]⟩ ho'
theorem run_mono {m : Sre.M} {k : Nat} (h : (Sre.M.runFor k m).outcome = some .failed) {k' : Nat} (h' : (Sre.M.runFor k' m).outcome.isSome = true) : (Sre.M.runFor k' m).outcome = some .failed := by
  have st : ∀ (m : Sre.M), m.outcome.isSome = true → ∀ n, Sre.M.runFor n m = m := fun m ho n => by cases n with | zero => rfl | succ n => unfold Sre.M.runFor; rw [if_pos ho]
  by_cases hk : k ≤ k'
  · obtain ⟨d, rfl⟩ := Nat.le.dest hk
    rw [runFor_add, st _ (by rw [h]; rfl)]
    exact h
  · obtain ⟨d, rfl⟩ := Nat.le.dest (Nat.le_of_not_le hk)
    rw [runFor_add, st _ h'] at h
    exact h
theorem fails_wp {text : Array Nat} {Q : Option Sre.M → Shared → Prop} (hd : ∀ k ∈ text, ¬ (48 ≤ k ∧ k ≤ 57)) (hl : text.size ≤ 1000) (h : Q none s) : wpAny (model prog w) A (reRunToEnd (forSearch reCode text 0 0 text.size false)) Q E s := by
  refine nmG fun gG9 kG9 => ?_
  obtain ⟨k, hk, ho⟩ := search_fails hd
  refine kG9 ?_
  clear kG9 gG9
  unfold reRunToEnd
  refine wpAny_bind (drive_wp (text.size + 2) _ _ (Nat.lt_of_lt_of_le (show text.size + 2 < 2 ^ 10 by (first | lia | omega)) (Nat.pow_le_pow_right (by decide) (by decide))) ⟨k, by (first | lia | omega), by rw [ho]; rfl⟩ ?_)
  rintro m' ⟨k', rfl⟩ ho'
  have hf := run_mono ho ho'
  generalize Sre.M.runFor k' _ = m' at hf
  refine wpAny_bind (wpAny_forIn_list _ (fun _ _ s' => s' = s) _ ?_ ?_ _ _ rfl)
  · rintro x rest b s' rfl
    split
    · exact wpAny_bind (wpAny_rule (wpAny_pure rfl))
    · exact wpAny_pure rfl
  · rintro b s' rfl
    rw [hf]
    exact wpAny_pure h
/-- the pattern's object and its words -/
noncomputable def patO (p : Str) (t1 t2 t3 t4 : Tok) : Obj := { cls := .type "re.Pattern", data := .fields #[.str p t1, .int 256 t2, .int 0 t3, .none, .none, .ref 42, .int 0 t4] }
noncomputable def wordsO : Obj := { cls := .type "tuple", data := .seq (#[Value.int 14 0, .int 8 0, .int 1 0, .int 2 0, .int 4294967295 0, .int 1 0, .int 1 0, .int 46 0, .int 0 0, .int 16 0, .int 46 0, .int 24 0, .int 9 0, .int 1 0, .int 4294967295 0, .int 13 0, .int 4 0, .int 8 0, .int 0 0, .int 0 0, .int 1 0, .int 6 0, .int 5 0, .int 1 0]) }
theorem pat_search {x : Str} {t : Tok} {p : Str} {t1 t2 t3 t4 : Tok} {Q : Value → Shared → Prop} (h43 : s.heap.get? 43 = some (patO p t1 t2 t3 t4)) (h42 : s.heap.get? 42 = some wordsO) (hd : ∀ k ∈ x.cps, ¬ (48 ≤ k ∧ k ≤ 57)) (hl : x.cps.size ≤ 1000) (h : Q .none s) :
    wpAny (model prog w) A (call (.builtin "re.Pattern.search") [.ref 43, .str x t]) Q E s := by
  refine wpAny_call_entry slot_pat ⟨_, h43, rfl⟩ entry_pat ?_ (args_pat _ _)
  unfold PySem.Builtin.«re.Pattern.search» reTarget
  dsimp only
  rw [named_pat]
  refine wpAny_bind (wpAny_bind (wpAny_pure ?_))
  dsimp only
  refine wpAny_bind (wpAny_pure (wpAny_bind (wpAny_pure ?_)))
  refine wpAny_bind (wpAny_bind (wpAny_load h43 (wpAny_pure ?_)))
  refine wpAny_bind (wpAny_pure ?_)
  dsimp only
  show wpAny _ _ (if false = true then _ else if false = true then _ else _) _ _ _
  rw [if_neg (by decide), if_neg (by decide)]
  refine wpAny_bind ?_
  unfold reNoCollectionInside
  rw [if_neg (by decide)]
  refine wpAny_pure (wpAny_bind ?_)
  unfold reRawItems
  refine wpAny_bind (wpAny_bind (wpAny_load h42 (wpAny_pure (wpAny_pure ?_))))
  refine wpAny_pure ?_
  unfold reAnswer
  dsimp only
  have e1 : min (2 ^ 63 - 1 : Int).toNat x.cps.size = x.cps.size := by
    have : (2 ^ 63 - 1 : Int).toNat = 9223372036854775807 := by decide
    (first | lia | omega)
  have e2 : min (Int.toNat 0) x.cps.size = 0 := by simp
  rw [e1, e2]
  have e3 : Array.map (fun (x : Int) => x.toNat) (Array.map reRawOf ((some (#[Value.int 14 0, .int 8 0, .int 1 0, .int 2 0, .int 4294967295 0, .int 1 0, .int 1 0, .int 46 0, .int 0 0, .int 16 0, .int 46 0, .int 24 0, .int 9 0, .int 1 0, .int 4294967295 0, .int 13 0, .int 4 0, .int 8 0, .int 0 0, .int 0 0, .int 1 0, .int 6 0, .int 5 0, .int 1 0] : Array Value)).getD #[])) = reCode := by decide +kernel
  refine wpAny_bind ?_
  have e4 : reRawNat (#[Value.str p t1, Value.int 256 t2, Value.int 0 t3, Value.none, Value.none, Value.ref 42, Value.int 0 t4].getD 2 Value.none) = 0 := rfl
  rw [e4]
  show wpAny _ _ (reRunToEnd (forSearch (Array.map (fun (x : Int) => x.toNat) (Array.map reRawOf ((some _).getD #[]))) x.cps 0 0 x.cps.size false)) _ _ _
  rw [e3]
  refine fails_wp hd hl ?_
  exact wpAny_pure ⟨_, rfl, h⟩
end
end Mine
end
theorem Mine.rstR1 : True := by
  w_top off
  trivial
section
open PySem PySem.W PyProof.Rows PySem.Calls PySem.Spec PyProof.V
set_option Elab.async false
set_option maxRecDepth 100000
set_option maxHeartbeats 1000000
namespace Mine
theorem hk43 (P : Params) : (HK P).lookup 43 = some (patO (PySem.Str.ofString "\\.\\d+$") 292 319 0 0) := by rfl
theorem hk42 (P : Params) : (HK P).lookup 42 = some wordsO := by rfl
theorem pat_method {prog : Program} {w : World} {A : Around} {E : Value → Shared → Prop} {s : Shared} {pl : Sem Bool} {Q : Value × List Value → Shared → Prop} {P : Params} (X : (HK P).In s.heap) (h : Q (.builtin "re.Pattern.search", [.ref 43]) s) : wpAny (model prog w) A (getMethod (.ref 43) "search" pl) Q E s :=
  getMethod_builtin ⟨_, X _ _ (hk43 P), rfl⟩ pa_pat slot_pat type_pat (fun a e => by cases e; exact ⟨_, X _ _ (hk43 P), rfl⟩) h
theorem pat_call {prog : Program} {w : World} {A : Around} {E : Value → Shared → Prop} {s : Shared} {x : Str} {t : Tok} {Q : Value → Shared → Prop} {P : Params} (X : (HK P).In s.heap) (hd : ∀ k ∈ x.cps, ¬ (48 ≤ k ∧ k ≤ 57)) (hl : x.cps.size ≤ 1000) (h : Q .none s) :
    wpAny (model prog w) A (call (.builtin "re.Pattern.search") [.ref 43, .str x t]) Q E s := pat_search (X _ _ (hk43 P)) (X _ _ (hk42 P)) hd hl h
section
variable {w : World} {mean : ExcName → Option Value} {mg mb : Str → Option Value} {dp un : Nat} {gd : Option (List Code)} {cn : Str} {cs : Scope} {a : Addr} {ccd : Value} {cl : List (Str × Addr)} {outer : List Env} {A₀ : Around} {base h₀ : Heap} {L : Addr} {m : Str → Option Value} {s : Shared} {Q E : Value → Shared → Prop} {news : List (Addr × Obj)}
theorem lib_ct (C : At w mean mg mb 1 dp un cs outer A₀ base h₀ L m news s.heap) {x : Str} {t : Tok} (hx : x.cps.size ≤ 1000) (hd : ∀ k ∈ x.cps, ¬ (48 ≤ k ∧ k ≤ 57))
  (hret : ∀ (h' : Heap) (tk' : Nat), Fr h₀ L h' m → News h₀ L h' news → Q (.bool true) { s with heap := h', toks := tk' }) :
  wpAny (model PySem.Challenge.rw_xe0048_01.row.prog w) (ktrTop dp un gd cn cs L a ccd cl outer) (call (.ref 57) [.str x t]) Q E s := by
  k_with_none
  k_with "getMethod ref" => (((with_reducible show wpAny _ _ (getMethod (Value.ref 43) _ _) _ _ _); k_dflt (refine' pat_method ?X.«_@»._hyg ?_; (case X => exact Frag.In.keeps (by k_asm) (Fr.keep (by k_asm)))); dsimp only))
  k_with "call builtin:re.Pattern.search" => ((k_dflt (refine' pat_call ?X.«_@»._hyg ?a.«_@»._hyg ?b.«_@»._hyg ?_; (case X => exact Frag.In.keeps (by k_asm) (Fr.keep (by k_asm))); (case a => assumption); (case b => assumption))))
  refine nmG fun gG9 kG9 => ?_
  obtain ⟨B, F, X, N, T, kf, hd, hu⟩ := C
  refine kG9 ?_
  clear kG9 gG9
  revert X
  k_fill
  intro X
  refine wpAny_call ?_
  k_dflt cell_enter
  k_steps
  exact hret _ _ (by assumption) (by assumption)
theorem hdn_ct (C : At w mean mg mb 1 dp un cs outer A₀ base h₀ L m news s.heap) {x : Str} {t : Tok} (hx : x.cps.size ≤ 1000) (hd : ∀ k ∈ x.cps, ¬ (48 ≤ k ∧ k ≤ 57)) (hp : 1 ≤ x.length) (h1 : (x == PySem.Str.ofString "") = false) (h2 : (Txt.item x 0 == PySem.Str.ofString ".") = false) (h3 : (Txt.item x (-1) == PySem.Str.ofString ".") = false)
  (hret : ∀ (h' : Heap) (tk' : Nat), Fr h₀ L h' m → News h₀ L h' news → Q (.bool true) { s with heap := h', toks := tk' }) :
  wpAny (model PySem.Challenge.rw_xe0048_01.row.prog w) (ktrTop dp un gd cn cs L a ccd cl outer) (call (.ref 50) [.str x t]) Q E s := by
  k_with_none
  k_with "getMethod ref" => (((with_reducible show wpAny _ _ (getMethod (Value.ref 43) _ _) _ _ _); k_dflt (refine' pat_method ?X.«_@»._hyg ?_; (case X => exact Frag.In.keeps (by k_asm) (Fr.keep (by k_asm)))); dsimp only))
  k_with "call builtin:re.Pattern.search" => ((k_dflt (refine' pat_call ?X.«_@»._hyg ?a.«_@»._hyg ?b.«_@»._hyg ?_; (case X => exact Frag.In.keeps (by k_asm) (Fr.keep (by k_asm))); (case a => assumption); (case b => assumption))))
  refine nmG fun gG9 kG9 => ?_
  obtain ⟨B, F, X, N, T, kf, hd, hu⟩ := C
  refine kG9 ?_
  clear kG9 gG9
  revert X
  k_fill
  intro X
  refine wpAny_call ?_
  have hxl : x.length ≤ 1000 := hx
  k_dflt cell_enter
  k_steps
  all_goals first
    | exact hret _ _ (by assumption) (by assumption)
    | exact absurd ((by assumption : (Txt.item x 0 == PySem.Str.ofString ".") = true).symm.trans h2) (by decide)
    | exact absurd ((by assumption : (Txt.item x (-1) == PySem.Str.ofString ".") = true).symm.trans h3) (by decide)
theorem mlower {prog : Program} {A : Around} {x y : Str} {t : Tok} (e : Txt.lower x = y) (hl : x.length ≤ 1000) (h : Q (.str y s.toks) { s with toks := s.toks + 1 }) : wpAny (model prog w) A (call (.builtin "str.lower") [.str x t]) Q E s :=
  SCL.lower (by omega) fun _ => by rw [e]; exact h
theorem mupper {prog : Program} {A : Around} {x y : Str} {t : Tok} (e : Txt.upper x = y) (hl : x.length ≤ 1000) (h : Q (.str y s.toks) { s with toks := s.toks + 1 }) : wpAny (model prog w) A (call (.builtin "str.upper") [.str x t]) Q E s :=
  SCL.upper (by omega) fun _ => by rw [e]; exact h
end
section
variable {w : World} {mean : ExcName → Option Value} {mg mb : Str → Option Value} {dp un : Nat} {gd : Option (List Code)} {cn : Str} {cs : Scope} {a : Addr} {ccd : Value} {cl : List (Str × Addr)} {outer : List Env} {A₀ : Around} {base h₀ : Heap} {L : Addr} {m : Str → Option Value} {s : Shared} {Q E : Value → Shared → Prop} {news : List (Addr × Obj)}
theorem reach_ct (C : At w mean mg mb 2 dp un cs outer A₀ base h₀ L m news s.heap) {x b : Str} {t : Tok} (hx : x.cps.size ≤ 1000) (hd : ∀ k ∈ x.cps, ¬ (48 ≤ k ∧ k ≤ 57)) (hp : 1 ≤ x.length) (h1 : (x == PySem.Str.ofString "") = false) (h2 : (Txt.item x 0 == PySem.Str.ofString ".") = false) (h3 : (Txt.item x (-1) == PySem.Str.ofString ".") = false)
  (hf : Txt.find x (PySem.Str.ofString ".") = 1) (hb : Txt.slice x (some (1 + 1)) none = b) (hbl : b.length ≤ 1000) (hc : 0 ≤ Txt.find b (PySem.Str.ofString ".") ∨ b = PySem.Str.ofString "local")
  (hret : ∀ (h' : Heap) (tk' : Nat) (t' : Tok), Fr h₀ L h' m → News h₀ L h' news → Q (.str (PySem.Str.ofString "." ++ b) t') { s with heap := h', toks := tk' }) :
  wpAny (model PySem.Challenge.rw_xe0048_01.row.prog w) (ktrTop dp un gd cn cs L a ccd cl outer) (call (.ref 71) [.str x t]) Q E s := by
  k_with_none
  k_with "getMethod ref" => (((with_reducible show wpAny _ _ (getMethod (Value.ref 43) _ _) _ _ _); k_dflt (refine' pat_method ?X.«_@»._hyg ?_; (case X => exact Frag.In.keeps (by k_asm) (Fr.keep (by k_asm)))); dsimp only))
  k_with "call builtin:re.Pattern.search" => ((k_dflt (refine' pat_call ?X.«_@»._hyg ?a.«_@»._hyg ?b.«_@»._hyg ?_; (case X => exact Frag.In.keeps (by k_asm) (Fr.keep (by k_asm))); (case a => assumption); (case b => assumption))))
  k_with "call ref" => (((with_reducible show wpAny _ _ (call (Value.ref 50) _) _ _ _); k_dflt (refine' hdn_ct ⟨?k1.«_@»._hyg, ?k2.«_@»._hyg, ?k3.«_@»._hyg, ?k4.«_@»._hyg, ?k5.«_@»._hyg, ?k6.«_@»._hyg, ?k7.«_@»._hyg, ?k8.«_@»._hyg⟩ ?g1.«_@»._hyg ?g2.«_@»._hyg ?g3.«_@»._hyg ?g4.«_@»._hyg ?g5.«_@»._hyg ?g6.«_@»._hyg ?_; (case k1 => k_asm); (case k2 => k_asm); (case k3 => k_in); (case k4 => k_asm); (case k5 => k_asm); (case k6 => first | exact rfl | assumption); (case k7 => ktr_room); (case k8 => ktr_units); (case g1 => assumption) ; (case g2 => assumption) ; (case g3 => assumption) ; (case g4 => assumption) ; (case g5 => assumption); (case g6 => assumption)); intro h'z9 tk'z9 F'z9 N'z9))
  k_with "call ref" => (((with_reducible show wpAny _ _ (call (Value.ref 57) _) _ _ _); k_dflt (refine' lib_ct ⟨?k1.«_@»._hyg, ?k2.«_@»._hyg, ?k3.«_@»._hyg, ?k4.«_@»._hyg, ?k5.«_@»._hyg, ?k6.«_@»._hyg, ?k7.«_@»._hyg, ?k8.«_@»._hyg⟩ ?g1.«_@»._hyg ?g2.«_@»._hyg ?_; (case k1 => k_asm); (case k2 => k_asm); (case k3 => k_in); (case k4 => k_asm); (case k5 => k_asm); (case k6 => first | exact rfl | assumption); (case k7 => ktr_room); (case k8 => ktr_units); (case g1 => assumption) ; (case g2 => assumption)); intro h'z9 tk'z9 F'z9 N'z9))
  k_with "call builtin:str.lower" => (((try dsimp only); (k_dflt (refine' mlower ?a.«_@»._hyg ?b.«_@»._hyg ?_; (case a => assumption); (case b => assumption)))))
  k_with "binaryOp Add str str" => ((k_dflt (refine' madds ?a.«_@»._hyg ?b.«_@»._hyg ?_; (case a => first | assumption | decide | omega); (case b => first | assumption | decide | omega)); intro _ _))
  refine nmG fun gG9 kG9 => ?_
  obtain ⟨B, F, X, N, T, kf, hd, hu⟩ := C
  refine kG9 ?_
  clear kG9 gG9
  revert X
  k_fill
  intro X
  refine wpAny_call ?_
  have hxl : x.length ≤ 1000 := hx
  k_dflt cell_enter
  k_steps
  all_goals
    have e9 : Txt.slice x (some (Txt.find x (PySem.Str.ofString ".") + 1)) none = b := by rw [hf]; exact hb
  · rw [e9]; exact hret _ _ _ (by assumption) (by assumption)
  · rw [e9]; exact hret _ _ _ (by assumption) (by assumption)
  · exfalso
    rw [← e9] at hc
    rcases hc with hc | hc
    · exact absurd hc (by assumption)
    · exact absurd ((beq_iff_eq.mpr hc).symm.trans (by assumption)) (by decide)
theorem udm_ct (C : At w mean mg mb 2 dp un cs outer A₀ base h₀ L m news s.heap) {x y xl yl : Str} {t u : Tok} (ex : Txt.lower x = xl) (ey : Txt.lower y = yl) (lx : x.length ≤ 1000) (ly : y.length ≤ 1000) (hx : xl.cps.size ≤ 1000) (hd : ∀ k ∈ xl.cps, ¬ (48 ≤ k ∧ k ≤ 57)) (hy : yl.cps.size ≤ 1000) (hyd : ∀ k ∈ yl.cps, ¬ (48 ≤ k ∧ k ≤ 57)) (hs : Txt.startswith yl (PySem.Str.ofString ".") = true)
  (hret : ∀ (h' : Heap) (tk' : Nat), Fr h₀ L h' m → News h₀ L h' news → Q (.bool (Txt.endswith xl yl)) { s with heap := h', toks := tk' }) :
  wpAny (model PySem.Challenge.rw_xe0048_01.row.prog w) (ktrTop dp un gd cn cs L a ccd cl outer) (call (.ref 64) [.str x t, .str y u]) Q E s := by
  k_with_none
  k_with "getMethod ref" => (((with_reducible show wpAny _ _ (getMethod (Value.ref 43) _ _) _ _ _); k_dflt (refine' pat_method ?X.«_@»._hyg ?_; (case X => exact Frag.In.keeps (by k_asm) (Fr.keep (by k_asm)))); dsimp only))
  k_with "call builtin:re.Pattern.search" => ((k_dflt (refine' pat_call ?X.«_@»._hyg ?a.«_@»._hyg ?b.«_@»._hyg ?_; (case X => exact Frag.In.keeps (by k_asm) (Fr.keep (by k_asm))); (case a => assumption); (case b => assumption))))
  k_with "call ref" => (((with_reducible show wpAny _ _ (call (Value.ref 50) _) _ _ _); k_dflt (refine' hdn_ct ⟨?k1.«_@»._hyg, ?k2.«_@»._hyg, ?k3.«_@»._hyg, ?k4.«_@»._hyg, ?k5.«_@»._hyg, ?k6.«_@»._hyg, ?k7.«_@»._hyg, ?k8.«_@»._hyg⟩ ?g1.«_@»._hyg ?g2.«_@»._hyg ?g3.«_@»._hyg ?g4.«_@»._hyg ?g5.«_@»._hyg ?g6.«_@»._hyg ?_; (case k1 => k_asm); (case k2 => k_asm); (case k3 => k_in); (case k4 => k_asm); (case k5 => k_asm); (case k6 => first | exact rfl | assumption); (case k7 => ktr_room); (case k8 => ktr_units); (case g1 => assumption) ; (case g2 => assumption) ; (case g3 => assumption) ; (case g4 => assumption) ; (case g5 => assumption); (case g6 => assumption)); intro h'z9 tk'z9 F'z9 N'z9))
  k_with "call ref" => (((with_reducible show wpAny _ _ (call (Value.ref 57) _) _ _ _); k_dflt (refine' lib_ct ⟨?k1.«_@»._hyg, ?k2.«_@»._hyg, ?k3.«_@»._hyg, ?k4.«_@»._hyg, ?k5.«_@»._hyg, ?k6.«_@»._hyg, ?k7.«_@»._hyg, ?k8.«_@»._hyg⟩ ?g1.«_@»._hyg ?g2.«_@»._hyg ?_; (case k1 => k_asm); (case k2 => k_asm); (case k3 => k_in); (case k4 => k_asm); (case k5 => k_asm); (case k6 => first | exact rfl | assumption); (case k7 => ktr_room); (case k8 => ktr_units); (case g1 => assumption) ; (case g2 => assumption)); intro h'z9 tk'z9 F'z9 N'z9))
  k_with "call builtin:str.lower" => (((try dsimp only); (k_dflt (refine' mlower ?a.«_@»._hyg ?b.«_@»._hyg ?_; (case a => assumption); (case b => assumption)))))
  k_with "binaryOp Add str str" => ((k_dflt (refine' madds ?a.«_@»._hyg ?b.«_@»._hyg ?_; (case a => first | assumption | decide | omega); (case b => first | assumption | decide | omega)); intro _ _))
  refine nmG fun gG9 kG9 => ?_
  obtain ⟨B, F, X, N, T, kf, hd, hu⟩ := C
  refine kG9 ?_
  clear kG9 gG9
  revert X
  k_fill
  intro X
  refine wpAny_call ?_
  k_dflt cell_enter
  k_steps
  · rw [show Txt.endswith xl yl = true by assumption] at hret
    exact hret _ _ (by assumption) (by assumption)
  · rw [show Txt.endswith xl yl = false by assumption] at hret
    exact hret _ _ (by assumption) (by assumption)
end
end Mine
end
theorem Mine.rstV0 : True := by
  w_top off
  trivial
section
open PySem PySem.W PyProof.Rows PySem.Calls PySem.Spec PyProof.V
set_option Elab.async false
set_option maxRecDepth 100000
set_option maxHeartbeats 1000000
namespace Mine
theorem ints_of_get : ∀ {vs : List Value} {ns : List Int}, vs.length = ns.length → (∀ (j : Nat) (v : Value), vs[j]? = some v → ∃ t, v = Value.int (ns.getD j 0) t) → IntsAre vs ns
  | [], [], _, _ => .nil
  | v :: vs, n :: ns, hl, h => by
    obtain ⟨t, ht⟩ := h 0 v rfl
    have e : v = .int n t := by simpa using ht
    subst e
    refine .cons _ _ (ints_of_get (by simpa using hl) fun j v hj => ?_)
    obtain ⟨t', ht'⟩ := h (j + 1) v (by simpa using hj)
    exact ⟨t', by simpa using ht'⟩
  | [], _ :: _, h, _ => by simp at h
  | _ :: _, [], h, _ => by simp at h
noncomputable def row0 (n : Nat) : List Int := (List.range n).map fun (k : Nat) => 2 + (k : Int) * 2
section
variable {prog : Program} {w : World} {A : Around} {E : Value → Shared → Prop} {s : Shared} {h₀ : Heap} {L : Addr} {m : Str → Option Value} {nn : List (Addr × Obj)}
theorem mlist2 {r : Addr} {b : Int} {t u v : Tok} {n : Nat} {Q : Value → Shared → Prop} (hh : A.handled = none) (F : Fr h₀ L s.heap m) (N : News h₀ L s.heap nn) (hr : IsRange s.heap r 2 b 2 t u v) (hb : b = 2 * ((n : Int) + 1)) (hn : n ≤ 1000)
    (h : ∀ D us c h' tk, Fr h₀ L h' m → News h₀ L h' ((D, ({ cls := .type "list", data := .seq (List.toArray us) c } : Obj)) :: nn) → (∀ p ∈ nn, p.1 < D) → IntsAre us (row0 n) → Q (.ref D) { s with heap := h', toks := tk }) :
    wpAny (model prog w) A (call (.type "list") [.ref r]) Q E s := by
  have hsz : Builtin.Range.rangeSize 2 b 2 = (n : Int) := by
    unfold Builtin.Range.rangeSize
    subst hb
    rw [if_pos (by decide)]
    split <;> (first | lia | omega)
  have hsmall : Builtin.Range.small 2 b 2 = true := by
    unfold Builtin.Range.small
    rw [hsz]
    simp only [Builtin.Range.rangeFitsLong, Bool.and_eq_true, decide_eq_true_eq, Bool.or_eq_true, beq_iff_eq]
    refine ⟨⟨⟨⟨?_, ?_⟩, ?_⟩, ?_⟩, .inr ?_⟩ <;> simp <;> (first | lia | omega)
  refine call_list_range hh hr hsmall hsz (by (first | lia | omega)) fun h' tk acc c hk hD hI => ?_
  have hD' : h'.get? s.heap.objs.size = some ({ cls := .type "list", data := .seq (List.toArray acc.toList) c } : Obj) := by
    rw [Array.toArray_toList]
    exact hD
  refine h _ acc.toList c h' tk (F.keeps hk) (news_pushed F N hk hD' rfl) (fun p hp => Heap.lt_size (N p hp).1) (ints_of_get (by rw [Array.length_toList, hI.1]; simp [row0]) fun j v hj => ?_)
  obtain ⟨t, rfl⟩ := hI.2 j v (by rw [← hj, Array.getElem?_toList])
  have hj' : j < n := by
    have := (List.getElem?_eq_some_iff.mp hj).1
    rw [Array.length_toList, hI.1] at this
    exact this
  exact ⟨t, by rw [row0, List.getD_eq_getElem?_getD, List.getElem?_map, List.getElem?_range hj']; rfl⟩
theorem mset {l : Addr} {vs : List Value} {ns : List Int} {e : Nat} {k : Int} {t : Tok} {x : Int} {u : Tok} {Q : Unit → Shared → Prop} (F : Fr h₀ L s.heap m) (N : News h₀ L s.heap nn) (hm : (l, ({ cls := .type "list", data := .seq vs.toArray e } : Obj)) ∈ nn) (hi : IntsAre vs ns) (h0 : 0 ≤ k) (h1 : k < ns.length) (hl : ns.length ≤ 1000)
    (h : ∀ h' vs' e', Fr h₀ L h' m → News h₀ L h' (upd nn l { cls := .type "list", data := .seq (List.toArray vs') e' }) → IntsAre vs' (ns.set k.toNat x) → Q () { s with heap := h' }) :
    wpAny (model prog w) A (setItem (.ref l) (.int k t) (.int x u)) Q E s := by
  have z := N _ hm
  have hlen := hi.length
  have ho : s.heap.get? l = some (listOf vs.toArray e) := z.1
  have q := PySem.IsL.update ho (fun a => a.setIfInBounds k.toNat (.int x u))
  have e1 : vs.toArray.setIfInBounds k.toNat (.int x u) = (vs.set k.toNat (.int x u)).toArray := by
    apply Array.toList_inj.mp
    simp
  rw [e1] at q
  have hs : Heap.SameBut l s.heap (s.heap.update l (Obj.mapSeq fun a => a.setIfInBounds k.toNat (.int x u))) := Heap.SameBut.update ..
  exact ki_setAt ho h0 (by (first | lia | omega)) (by rw [List.size_toArray]; (first | lia | omega)) (h _ _ _ (F.change hs z.2.1 z.2.2) (Mine.news_upd N hm hs q) (ints_set hi _))
end
noncomputable def lo (c : Nat) : Nat := if 65 ≤ c ∧ c ≤ 90 then c + 32 else c
noncomputable def costF (c d : Nat) : Int := if c = d then 0 else if lo c = lo d then 1 else 2
theorem cost_bd (c d : Nat) : 0 ≤ costF c d ∧ costF c d ≤ 2 := by
  unfold costF
  split
  · decide
  · split <;> decide
/-- the inner loop: the diagonal, the result, the row -/
noncomputable def dpIn (bc : Nat) (a : List Nat) (row : List Int) (z : Int) : Nat → Int × Int × List Int
  | 0 => (z, z, row)
  | n + 1 => ((dpIn bc a row z n).2.2.getD n 0, min (min (dpIn bc a row z n).2.1 ((dpIn bc a row z n).2.2.getD n 0) + 2) ((dpIn bc a row z n).1 + costF bc (a.getD n 0)),
      (dpIn bc a row z n).2.2.set n (min (min (dpIn bc a row z n).2.1 ((dpIn bc a row z n).2.2.getD n 0) + 2) ((dpIn bc a row z n).1 + costF bc (a.getD n 0))))
noncomputable def dpOut (a b : List Nat) : Nat → Int × List Int
  | 0 => (0, row0 a.length)
  | n + 1 => (dpIn (b.getD n 0) a (dpOut a b n).2 ((n : Int) * 2) a.length).2
structure InBd (a : List Nat) (M : Int) (n : Nat) (st : Int × Int × List Int) : Prop where
  d : 0 ≤ st.1 ∧ st.1 ≤ M
  r : 0 ≤ st.2.1 ∧ st.2.1 ≤ M + 2
  l : st.2.2.length = a.length
  lo : ∀ k, n ≤ k → 0 ≤ st.2.2.getD k 0 ∧ st.2.2.getD k 0 ≤ M
  hi : ∀ k, 0 ≤ st.2.2.getD k 0 ∧ st.2.2.getD k 0 ≤ M + 2
theorem in_bd {bc : Nat} {a : List Nat} {row : List Int} {z M : Int} (hl : row.length = a.length) (hz : 0 ≤ z ∧ z ≤ M) (hr : ∀ k, 0 ≤ row.getD k 0 ∧ row.getD k 0 ≤ M) : ∀ n, n ≤ a.length → InBd a M n (dpIn bc a row z n) := by
  intro n
  induction n with
  | zero => intro _; exact ⟨hz, ⟨hz.1, by have := hz.2; show z ≤ M + 2; (first | lia | omega)⟩, hl, fun k _ => hr k, fun k => ⟨(hr k).1, by have := (hr k).2; show row.getD k 0 ≤ M + 2; (first | lia | omega)⟩⟩
  | succ n ih =>
    intro hn
    refine nmG fun gG9 kG9 => ?_
    obtain ⟨hd, hrr, hll, hlo, hhi⟩ := ih (by (first | lia | omega))
    refine kG9 ?_
    clear kG9 gG9
    have hc := cost_bd bc (a.getD n 0)
    have hg := hlo n (Nat.le_refl _)
    have hres : 0 ≤ min (min (dpIn bc a row z n).2.1 ((dpIn bc a row z n).2.2.getD n 0) + 2) ((dpIn bc a row z n).1 + costF bc (a.getD n 0)) ∧ min (min (dpIn bc a row z n).2.1 ((dpIn bc a row z n).2.2.getD n 0) + 2) ((dpIn bc a row z n).1 + costF bc (a.getD n 0)) ≤ M + 2 := by (first | lia | omega)
    have hset : ∀ (l : List Int) (x : Int) (k : Nat), n < l.length → (l.set n x).getD k 0 = if n = k then x else l.getD k 0 := by
      intro l x k h
      rw [List.getD_eq_getElem?_getD, List.getElem?_set]
      by_cases q : n = k
      · rw [if_pos q, if_pos (q ▸ h), if_pos q]; rfl
      · rw [if_neg q, if_neg q, List.getD_eq_getElem?_getD]
    have hnl : n < (dpIn bc a row z n).2.2.length := by (first | lia | omega)
    refine ⟨hg, hres, ?_, fun k hk => ?_, fun k => ?_⟩
    · show ((dpIn bc a row z n).2.2.set n _).length = _
      rw [List.length_set, hll]
    · show 0 ≤ ((dpIn bc a row z n).2.2.set n _).getD k 0 ∧ ((dpIn bc a row z n).2.2.set n _).getD k 0 ≤ M
      rw [hset _ _ _ hnl, if_neg (by (first | lia | omega))]
      exact hlo k (by (first | lia | omega))
    · show 0 ≤ ((dpIn bc a row z n).2.2.set n _).getD k 0 ∧ ((dpIn bc a row z n).2.2.set n _).getD k 0 ≤ M + 2
      rw [hset _ _ _ hnl]
      split
      · exact hres
      · exact hhi k
structure OutBd (a : List Nat) (n : Nat) (st : Int × List Int) : Prop where
  r : 0 ≤ st.1 ∧ st.1 ≤ 40 + 2 * n
  l : st.2.length = a.length
  e : ∀ k, 0 ≤ st.2.getD k 0 ∧ st.2.getD k 0 ≤ 40 + 2 * n
theorem out_bd {a b : List Nat} (ha : a.length ≤ 15) : ∀ n, n ≤ 15 → OutBd a n (dpOut a b n) := by
  intro n
  induction n with
  | zero =>
    intro _
    refine ⟨by simp [dpOut], by simp [dpOut, row0], fun k => ?_⟩
    show 0 ≤ (row0 a.length).getD k 0 ∧ (row0 a.length).getD k 0 ≤ _
    unfold row0
    rw [List.getD_eq_getElem?_getD, List.getElem?_map]
    by_cases hk : k < a.length
    · rw [List.getElem?_range hk]
      show 0 ≤ (2 + (k : Int) * 2) ∧ (2 + (k : Int) * 2) ≤ _
      (first | lia | omega)
    · rw [List.getElem?_eq_none (by simpa using hk)]
      simp
  | succ n ih =>
    intro hn
    refine nmG fun gG9 kG9 => ?_
    obtain ⟨h1, h2, h3⟩ := ih (by (first | lia | omega))
    refine kG9 ?_
    clear kG9 gG9
    have h := in_bd (bc := b.getD n 0) (z := (n : Int) * 2) (M := 40 + 2 * (n : Int)) h2 (by (first | lia | omega)) h3 a.length (Nat.le_refl _)
    exact ⟨⟨h.r.1, by have := h.r.2; show (dpIn _ _ _ _ _).2.1 ≤ _; (first | lia | omega)⟩, h.l, fun k => ⟨(h.hi k).1, by have := (h.hi k).2; show (dpIn _ _ _ _ _).2.2.getD k 0 ≤ _; (first | lia | omega)⟩⟩
end Mine
end
theorem Mine.rstV1 : True := by
  w_top off
  trivial
section
open PySem PySem.W PyProof.Rows PySem.Calls PySem.Spec PyProof.V
set_option Elab.async false
set_option maxRecDepth 100000
set_option maxHeartbeats 8000000
namespace Mine
noncomputable def LoOk (c : Nat) : Prop := Txt.lower (⟨#[c]⟩ : Str) = ⟨#[lo c]⟩
theorem titem (l : List Nat) {k : Nat} (h : k < l.length) : Txt.item (mk l) (k : Int) = ⟨#[l.getD k 0]⟩ :=
  item_meets (by omega) (by rw [Int.toNat_natCast, List.getD_eq_getElem?_getD, List.getElem?_eq_getElem h]; show l.toArray[k]? = _; simp [h])
theorem titem_neg {l : List Nat} (h : 0 < l.length) : Txt.item (mk l) (-1) = ⟨#[l.getD (l.length - 1) 0]⟩ := by
  have e := item_closes_neg (x := mk l) (i := -1) (j := (l.length : Int) - 1) (by omega) (by rw [mk_len]; omega) (by rw [mk_len]; omega)
  rw [beq_iff_eq] at e
  rw [e]
  have : ((l.length : Int) - 1).toNat = l.length - 1 := by omega
  rw [this]
  show (⟨#[l.toArray.getD (l.length - 1) 0]⟩ : Str) = _
  simp [Array.getD_eq_getD_getElem?, List.getD_eq_getElem?_getD]
theorem getD_mem {l : List Nat} {k : Nat} (h : k < l.length) : l.getD k 0 ∈ l := by
  rw [List.getD_eq_getElem?_getD, List.getElem?_eq_getElem h]
  exact List.getElem_mem h
theorem getD_pre {p r : List Nat} {k : Nat} (h : k < p.length) : (p ++ r).getD k 0 = p.getD k 0 := by
  rw [List.getD_eq_getElem?_getD, List.getD_eq_getElem?_getD, List.getElem?_append_left h]
theorem getD_post {p r : List Nat} {k : Nat} (h : p.length ≤ k) : (p ++ r).getD k 0 = r.getD (k - p.length) 0 := by
  rw [List.getD_eq_getElem?_getD, List.getD_eq_getElem?_getD, List.getElem?_append_right h]
theorem tslice_all (x : Str) : Txt.slice x none none = x := by
  have e0 : Txt.slice x none none = StrLaws.sliceText x none none := rfl
  have e1 : StrLaws.sliceText x none none = StrLaws.sliceText x (some 0) none := by
    unfold StrLaws.sliceText
    rw [StrLaws.sliceIdx_none_lo]
  have h := StrLaws.sliceText_from (x := x) (i := 0) ⟨by omega, by omega⟩
  rw [e0, e1, h]
  refine PySem.Str.ext' ?_
  show (List.take _ (List.drop _ x.cps.toList)).toArray = x.cps
  rw [show (0 : Int).toNat = 0 from rfl, List.drop_zero, List.take_of_length_le (by omega), Array.toArray_toList]
theorem mslice_all {prog : Program} {w : World} {A : Around} {E : Value → Shared → Prop} {s : Shared} {value slice : Expr} {x : Str} {t : Tok} {h₀ : Heap} {L : Addr} {m : Str → Option Value} {news : List (Addr × Obj)} {Q : Value → Shared → Prop} (hF : Fr h₀ L s.heap m) (hN : News h₀ L s.heap news) (hsz : x.length ≤ 1000) (h : ∀ h' t' k, Fr h₀ L h' m → News h₀ L h' news → Q (.str x t') { s with heap := h', toks := k })
    (hs : subscripted slice false (.str x t) (.ref s.heap.objs.size) = operate [.ref s.heap.objs.size, .str x t] (getItem (.str x t) (.ref s.heap.objs.size)))
    (ht : ∀ r, letTemporaryGo value (.str x t) r = pure ()) :
    wpAny (model prog w) A (subscriptTail value slice (.str x t) (.ref s.heap.objs.size)) Q E { s with heap := s.heap.push { cls := .type "slice", data := .fields #[.none, .none, .none] } } :=
  slice_strN_nn hF hN (fun h' t' k F N => by rw [tslice_all]; exact h h' t' k F N) hs ht (by rw [sizeLine_eq]; omega)
/-- the first loop's turn: equal signs at `pre` behind the common part there is none -/
theorem pre_go {p r q : List Nat} {pre : Nat} (hd : ∀ c ∈ r, c ∉ q) (hp : pre ≤ p.length) (h1 : pre < p.length + r.length) (h2 : pre < p.length + q.length) (e : (Txt.item (mk (p ++ r)) (pre : Int) == Txt.item (mk (p ++ q)) (pre : Int)) = true) : pre < p.length := by
  refine Nat.lt_of_not_le fun hge => ?_
  rw [titem _ (by rw [List.length_append]; exact h1), titem _ (by rw [List.length_append]; exact h2)] at e
  rw [getD_post hge, getD_post hge, beq_iff_eq] at e
  have e2 := congrArg (fun x : Str => x.cps.toList) e
  simp only [List.cons.injEq, and_true] at e2
  exact hd _ (getD_mem (by omega : pre - p.length < r.length)) (e2 ▸ getD_mem (by omega : pre - p.length < q.length))
theorem pre_end {p r q : List Nat} {pre : Nat} (hp : pre ≤ p.length) (e : (Txt.item (mk (p ++ r)) (pre : Int) == Txt.item (mk (p ++ q)) (pre : Int)) = false) : pre = p.length := by
  refine Nat.le_antisymm hp (Nat.le_of_not_lt fun hlt => ?_)
  rw [titem _ (by rw [List.length_append]; omega), titem _ (by rw [List.length_append]; omega), getD_pre hlt, getD_pre hlt] at e
  simp at e
theorem last_ne {r q : List Nat} (hd : ∀ c ∈ r, c ∉ q) (hr : 0 < r.length) (hq : 0 < q.length) (e : (Txt.item (mk r) (-1) == Txt.item (mk q) (-1)) = true) : False := by
  rw [titem_neg hr, titem_neg hq, beq_iff_eq] at e
  have e2 := congrArg (fun x : Str => x.cps.toList) e
  simp only [List.cons.injEq, and_true] at e2
  exact hd _ (getD_mem (by omega : r.length - 1 < r.length)) (e2 ▸ getD_mem (by omega : q.length - 1 < q.length))
noncomputable def levF (r q : List Nat) : Int := if r = [] ∨ q = [] then 2 * ((r.length : Int) + q.length) else if q.length < r.length then (dpOut q r r.length).1 else (dpOut r q q.length).1
theorem minIf (a b : Int) : (if b < a then b else a) = min a b := by split <;> omega
theorem dpIn_succ (bc : Nat) (a : List Nat) (row : List Int) (z : Int) (n : Nat) : (dpIn bc a row z (n + 1)).2.1 = min (min (dpIn bc a row z n).2.1 ((dpIn bc a row z n).2.2.getD n 0) + 2) ((dpIn bc a row z n).1 + costF bc (a.getD n 0)) ∧ (dpIn bc a row z (n + 1)).1 = (dpIn bc a row z n).2.2.getD n 0 ∧ (dpIn bc a row z (n + 1)).2.2 = (dpIn bc a row z n).2.2.set n (dpIn bc a row z (n + 1)).2.1 := ⟨rfl, rfl, rfl⟩
theorem mtruthy0 {prog : Program} {w : World} {A : Around} {E : Value → Shared → Prop} {s : Shared} {x : Str} {t : Tok} {Q : Bool → Shared → Prop} (hx : x.length = 0) (h : ∀ k, Q false { s with toks := k }) : wpAny (model prog w) A (PySem.truthy (.str x t)) Q E s :=
  KXt.truthy (by rw [hx]; rfl) (by omega) h
theorem one_eq {c d : Nat} : ((⟨#[c]⟩ : Str) == ⟨#[d]⟩) = decide (c = d) := by
  by_cases h : c = d
  · subst h; simp
  · rw [decide_eq_false h]
    rw [beq_eq_false_iff_ne]
    intro e
    have := congrArg (fun x : Str => x.cps.toList) e
    simp at this
    exact h this
section
variable {w : World} {mean : ExcName → Option Value} {mg mb : Str → Option Value} {dp un : Nat} {gd : Option (List Code)} {cn : Str} {cs : Scope} {a : Addr} {ccd : Value} {cl : List (Str × Addr)} {outer : List Env} {A₀ : Around} {base h₀ : Heap} {L : Addr} {m : Str → Option Value} {s : Shared} {Q E : Value → Shared → Prop} {news : List (Addr × Obj)}
theorem cost_ct (C : At w mean mg mb 1 dp un cs outer A₀ base h₀ L m news s.heap) {c d : Nat} {t u : Tok} (hlc : LoOk c) (hld : LoOk d)
  (hret : ∀ (t' : Tok) (h' : Heap) (tk' : Nat), Fr h₀ L h' m → News h₀ L h' news → Q (.int (costF c d) t') { s with heap := h', toks := tk' }) :
  wpAny (model PySem.Challenge.rw_xe0048_01.row.prog w) (ktrTop dp un gd cn cs L a ccd cl outer) (call (.ref 192) [.str ⟨#[c]⟩ t, .str ⟨#[d]⟩ u]) Q E s := by
  k_with_none
  k_with "call builtin:str.lower" => (((try dsimp only); (k_dflt (refine' mlower ?a.«_@»._hyg ?b.«_@»._hyg ?_; (case a => assumption); (case b => exact Nat.le_of_ble_eq_true rfl)))))
  k_with "subscriptTail Name Slice str ref" => (((with_reducible show wpAny _ _ (subscriptTail _ (Expr.Slice none (some (Expr.BoolOp _ _ _)) none _) _ _) _ _ _); (with_reducible rename Fr _ _ _ _ => F'z9); (with_reducible rename News _ _ _ _ => N'z9); (refine mslice_all (hsz := ?hsz.«_@»._hyg) (s := ⟨_, _, _, _, _⟩) F'z9 N'z9 ?_ ?a.«_@»._hyg ?b.«_@»._hyg); (case hsz => omega); (case a => with_unfolding_all rfl); (case b => (intro _; with_unfolding_all rfl)); intro _ _ _ _ _))
  k_with "truthy str" => (((with_reducible show wpAny _ _ (PySem.truthy (Value.str _ _)) _ _ _); (refine' KXt.truthy_pos (K := 1000) ?a.«_@»._hyg ?b.«_@»._hyg ?c.«_@»._hyg ?_; (case a => with_reducible assumption); (case b => omega); (case c => decide)); intro _))
  k_with "truthy str" => (((with_reducible show wpAny _ _ (PySem.truthy (Value.str _ _)) _ _ _); (refine' mtruthy0 ?a.«_@»._hyg ?_; (case a => with_reducible assumption)); intro _))
  k_with "exec While BoolOp" => (refine hold ?_)
  refine nmG fun gG9 kG9 => ?_
  obtain ⟨B, F, X, N, T, kf, hd, hu⟩ := C
  refine kG9 ?_
  clear kG9 gG9
  revert X
  k_fill
  intro X
  refine wpAny_call ?_
  unfold LoOk at hlc hld
  k_dflt cell_enter
  k_steps
  · (with_reducible rename ((⟨#[c]⟩ : Str) == ⟨#[d]⟩) = true => q)
    rw [one_eq, decide_eq_true_eq] at q
    exact (show costF c d = 0 by unfold costF; rw [if_pos q]) ▸ hret _ _ _ (by assumption) (by assumption)
  · (with_reducible rename ((⟨#[c]⟩ : Str) == ⟨#[d]⟩) = false => q)
    (with_reducible rename ((⟨#[lo c]⟩ : Str) == ⟨#[lo d]⟩) = true => q2)
    rw [one_eq, decide_eq_false_iff_not] at q
    rw [one_eq, decide_eq_true_eq] at q2
    exact (show costF c d = 1 by unfold costF; rw [if_neg q, if_pos q2]) ▸ hret _ _ _ (by assumption) (by assumption)
  · (with_reducible rename ((⟨#[c]⟩ : Str) == ⟨#[d]⟩) = false => q)
    (with_reducible rename ((⟨#[lo c]⟩ : Str) == ⟨#[lo d]⟩) = false => q2)
    rw [one_eq, decide_eq_false_iff_not] at q
    rw [one_eq, decide_eq_false_iff_not] at q2
    exact (show costF c d = 2 by unfold costF; rw [if_neg q, if_neg q2]) ▸ hret _ _ _ (by assumption) (by assumption)
theorem cost_ct' (C : At w mean mg mb 1 dp un cs outer A₀ base h₀ L m news s.heap) {x y : Str} {c d : Nat} {t u : Tok} (hx : x = ⟨#[c]⟩) (hy : y = ⟨#[d]⟩) (hlc : LoOk c) (hld : LoOk d)
  (hret : ∀ (t' : Tok) (h' : Heap) (tk' : Nat), Fr h₀ L h' m → News h₀ L h' news → Q (.int (costF c d) t') { s with heap := h', toks := tk' }) :
  wpAny (model PySem.Challenge.rw_xe0048_01.row.prog w) (ktrTop dp un gd cn cs L a ccd cl outer) (call (.ref 192) [.str x t, .str y u]) Q E s := by
  subst hx hy
  exact cost_ct C hlc hld hret
end
/-- behind the swap: the shorter text is a -/
noncomputable def SwP (g0 : Heap) (L0 : Addr) (s : Shared) (nn2 : List (Addr × Obj)) (r q : List Nat) (v : Tok) (fl : Flow) (s' : Shared) : Prop :=
  fl = .next ∧ ∃ (ya yb : Str) (la lb : List Nat) (ta tb : Tok) (u : Str → Option Value) (nn3 : List (Addr × Obj)) (h : Heap) (tk : Nat), s' = { s with heap := h, toks := tk } ∧
    Fr g0 L0 h (kstB u [(("a" : Str), .str ya ta), (("b" : Str), .str yb tb), (("max_cost" : Str), .int 99 v)]) ∧ News g0 L0 h nn3 ∧ (∀ p ∈ nn2, p ∈ nn3) ∧ ya = mk la ∧ yb = mk lb ∧ la.length ≤ lb.length ∧ 1 ≤ la.length ∧ lb.length ≤ 15 ∧
    (∀ c, c ∈ la ∨ c ∈ lb → LoOk c) ∧ levF r q = (dpOut la lb lb.length).1
local macro_rules | `(tactic| k_mem) => `(tactic| first | assumption | exact List.Mem.head _ | (refine List.Mem.tail _ ?_; k_mem))
section
variable {w : World} {mean : ExcName → Option Value} {mg mb : Str → Option Value} {dp un : Nat} {gd : Option (List Code)} {cn : Str} {cs : Scope} {a : Addr} {ccd : Value} {cl : List (Str × Addr)} {outer : List Env} {A₀ : Around} {base h₀ : Heap} {L : Addr} {m : Str → Option Value} {s : Shared} {Q E : Value → Shared → Prop} {news : List (Addr × Obj)}
end
namespace Zlev_ct
noncomputable def ctS (w : World) (mean : ExcName → Option Value) (mg : Str → Option Value) (mb : Str → Option Value) (dp : Nat) (un : Nat) (gd : Option (List Code)) (cn : Str) (cs : Scope) (a : Addr) (ccd : Value) (cl : List (Str × Addr)) (outer : List Env) (A₀ : Around) (base : Heap) (h₀ : Heap) (L : Addr) (m : Str → Option Value) (s : Shared) (Q : Value → Shared → Prop) (E : Value → Shared → Prop) (news : List (Addr × Obj)) (p : List Nat) (r : List Nat) (q : List Nat) (t : Tok) (u : Tok) (v : Tok) : Prop := Bx (
  ∀ (C : At w mean mg mb 2 dp un cs outer A₀ base h₀ L m news s.heap) (hdj : ∀ c ∈ r, c ∉ q) (hl : p.length + r.length + q.length ≤ 15) (hLo : ∀ c, c ∈ r ∨ c ∈ q → LoOk c) (hret : ∀ (t' : Tok) (h' : Heap) (tk' : Nat), Fr h₀ L h' m → News h₀ L h' news → Q (.int (levF r q) t') { s with heap := h', toks := tk' }),
  wpAny (model PySem.Challenge.rw_xe0048_01.row.prog w) (ktrTop dp un gd cn cs L a ccd cl outer) (call (.ref 199) [.str (mk (p ++ r)) t, .str (mk (p ++ q)) u, .int 99 v]) Q E s)
theorem ne : Nonempty (V0 × ((List Nat) × (List Nat) × (List Nat) × (Tok) × (Tok) × (Tok))) := ne_V ⟨(default, default, default, default, default, default)⟩
noncomputable def ctc : V0 × ((List Nat) × (List Nat) × (List Nat) × (Tok) × (Tok) × (Tok)) := pk ne fun v => ctS v.1.w v.1.mean v.1.mg v.1.mb v.1.dp v.1.un v.1.gd v.1.cn v.1.cs v.1.a v.1.ccd v.1.cl v.1.outer v.1.A₀ v.1.base v.1.h₀ v.1.L v.1.m v.1.s v.1.Q v.1.E v.1.news v.2.1 v.2.2.1 v.2.2.2.1 v.2.2.2.2.1 v.2.2.2.2.2.1 v.2.2.2.2.2.2
noncomputable def w : World := ctc.1.w
noncomputable def mean : ExcName → Option Value := ctc.1.mean
noncomputable def mg : Str → Option Value := ctc.1.mg
noncomputable def mb : Str → Option Value := ctc.1.mb
noncomputable def dp : Nat := ctc.1.dp
noncomputable def un : Nat := ctc.1.un
noncomputable def gd : Option (List Code) := ctc.1.gd
noncomputable def cn : Str := ctc.1.cn
noncomputable def cs : Scope := ctc.1.cs
noncomputable def a : Addr := ctc.1.a
noncomputable def ccd : Value := ctc.1.ccd
noncomputable def cl : List (Str × Addr) := ctc.1.cl
noncomputable def outer : List Env := ctc.1.outer
noncomputable def A₀ : Around := ctc.1.A₀
noncomputable def base : Heap := ctc.1.base
noncomputable def h₀ : Heap := ctc.1.h₀
noncomputable def L : Addr := ctc.1.L
noncomputable def m : Str → Option Value := ctc.1.m
noncomputable def s : Shared := ctc.1.s
noncomputable def Q : Value → Shared → Prop := ctc.1.Q
noncomputable def E : Value → Shared → Prop := ctc.1.E
noncomputable def news : List (Addr × Obj) := ctc.1.news
noncomputable def p : List Nat := ctc.2.1
noncomputable def r : List Nat := ctc.2.2.1
noncomputable def q : List Nat := ctc.2.2.2.1
noncomputable def t : Tok := ctc.2.2.2.2.1
noncomputable def u : Tok := ctc.2.2.2.2.2.1
noncomputable def v : Tok := ctc.2.2.2.2.2.2
noncomputable def ctA : (ctR : (Heap) → (Addr) → (Heap) → Prop) ×' (∀ (C : At w mean mg mb 2 dp un cs outer A₀ base h₀ L m news s.heap) (hdj : ∀ c ∈ r, c ∉ q) (hl : p.length + r.length + q.length ≤ 15) (hLo : ∀ c, c ∈ r ∨ c ∈ q → LoOk c) (hret : ∀ (t' : Tok) (h' : Heap) (tk' : Nat), Fr h₀ L h' m → News h₀ L h' news → Q (.int (levF r q) t') { s with heap := h', toks := tk' }), (∀ g0 L0 h0, Bx (ctR g0 L0 h0)) → wpAny (model PySem.Challenge.rw_xe0048_01.row.prog w) (ktrTop dp un gd cn cs L a ccd cl outer) (call (.ref 199) [.str (mk (p ++ r)) t, .str (mk (p ++ q)) u, .int 99 v]) Q E s) := ⟨_, by
  intro C hdj hl hLo hret ctH
  k_with_none
  refine nmG fun gG9 kG9 => ?_
  obtain ⟨B, F, X, N, T, kf, hd, hu⟩ := C
  refine kG9 ?_
  clear kG9 gG9
  revert X
  k_fill
  intro X
  refine wpAny_call ?_
  k_dflt (refine' code_def ?k1 ?k2 ?k3 ?k4 ?k5 ?kA ?kF ?kK ?k6 ?k7 ?k8 ?k9 ?kB ?_ ?c2 ?c3 ?c4 ?c5; (case kA => exact rfl); (case kF => exact rfl); (case kK => assumption); (case k1 => k_asm); (case k2 => k_asm); (case k3 => k_asm); (case k4 => k_asm); (case k5 => k_asm); (case k6 => k_is); (case k7 => k_is); (case k8 => ktr_room); (case k9 => exact BindsTo.of_eq rfl); (case c5 => decide); (case kB => exact locs rfl); (case c2 => exact rfl); (case c3 => exact rfl); (case c4 => exact rfl); k_whole; exact fun g0 L0 h0 => (ctH g0 L0 h0).out)⟩
theorem ned : Nonempty ((Heap) × (Addr) × (Heap)) := ⟨(default, default, default)⟩
noncomputable def ctd := pk ned fun v => Bx (ctA.1 v.1 v.2.1 v.2.2)
noncomputable def g0 : Heap := ctd.1
noncomputable def L0 : Addr := ctd.2.1
noncomputable def h0 : Heap := ctd.2.2
noncomputable def ctB : (ctR : (Str) → (Str) → (List Nat) → (List Nat) → (Tok) → (Tok) → (Str → Option Value) → (List (Addr × Obj)) → (Heap) → (Nat) → Prop) ×' (∀ (C : At w mean mg mb 2 dp un cs outer A₀ base h₀ L m news s.heap) (hdj : ∀ c ∈ r, c ∉ q) (hl : p.length + r.length + q.length ≤ 15) (hLo : ∀ c, c ∈ r ∨ c ∈ q → LoOk c) (hret : ∀ (t' : Tok) (h' : Heap) (tk' : Nat), Fr h₀ L h' m → News h₀ L h' news → Q (.int (levF r q) t') { s with heap := h', toks := tk' }), (∀ ya yb la lb ta9 tb9 u9 nn9 h9 tk9, Bx (ctR ya yb la lb ta9 tb9 u9 nn9 h9 tk9)) → Bx (ctA.1 g0 L0 h0)) := ⟨_, by
  intro C hdj hl hLo hret ctH
  refine ⟨?_⟩
  dsimp only [ctA]
  k_with_none
  k_with "call builtin:str.lower" => (((try dsimp only); (k_dflt (refine' mlower ?a.«_@»._hyg ?b.«_@»._hyg ?_; (case a => assumption); (case b => exact Nat.le_of_ble_eq_true rfl)))))
  k_with "subscriptTail Name Slice str ref" => (((with_reducible show wpAny _ _ (subscriptTail _ (Expr.Slice none (some (Expr.BoolOp _ _ _)) none _) _ _) _ _ _); (with_reducible rename Fr _ _ _ _ => F'z9); (with_reducible rename News _ _ _ _ => N'z9); (refine mslice_all (hsz := ?hsz.«_@»._hyg) (s := ⟨_, _, _, _, _⟩) F'z9 N'z9 ?_ ?a.«_@»._hyg ?b.«_@»._hyg); (case hsz => omega); (case a => with_unfolding_all rfl); (case b => (intro _; with_unfolding_all rfl)); intro _ _ _ _ _))
  k_with "truthy str" => (((with_reducible show wpAny _ _ (PySem.truthy (Value.str _ _)) _ _ _); (refine' KXt.truthy_pos (K := 1000) ?a.«_@»._hyg ?b.«_@»._hyg ?c.«_@»._hyg ?_; (case a => with_reducible assumption); (case b => omega); (case c => decide)); intro _))
  k_with "truthy str" => (((with_reducible show wpAny _ _ (PySem.truthy (Value.str _ _)) _ _ _); (refine' mtruthy0 ?a.«_@»._hyg ?_; (case a => with_reducible assumption)); intro _))
  k_with "exec While BoolOp" => (refine hold ?_)
  k_with "exec If" => (((with_reducible rename Kp ((8 : Nat) = 8) => mk6); (with_reducible show wpAny _ _ (exec (PySem.Stmt.If (PySem.Expr.Compare (PySem.Expr.Call (PySem.Expr.Name (PySem.Str.ofString "len") _) [PySem.Expr.Name (PySem.Str.ofString "b") _] _ _) [PySem.CmpOp.Lt] _ _) _ _ _) _) _ _ _); refine hold ?_))
  k_with "call ref" => (((with_reducible show wpAny _ _ (call (Value.ref 192) _) _ _ _); k_dflt (refine' cost_ct' ⟨?k1.«_@»._hyg, ?k2.«_@»._hyg, ?k3.«_@»._hyg, ?k4.«_@»._hyg, ?k5.«_@»._hyg, ?k6.«_@»._hyg, ?k7.«_@»._hyg, ?k8.«_@»._hyg⟩ ?g1.«_@»._hyg ?g2.«_@»._hyg ?g3.«_@»._hyg ?g4.«_@»._hyg ?_; (case k1 => k_asm); (case k2 => k_asm); (case k3 => k_in); (case k4 => k_asm); (case k5 => k_asm); (case k6 => first | exact rfl | assumption); (case k7 => ktr_room); (case k8 => ktr_units); (case g1 => assumption); (case g2 => assumption); (case g3 => assumption); (case g4 => assumption)); intro t'z9 h'z9 tk'z9 F'z9 N'z9))
  k_with "call type:list" => (((rename IsRange _ _ _ _ _ _ _ _ => rgXz9); k_dflt (refine' mlist2 ?k0.«_@»._hyg ?k1.«_@»._hyg ?k2.«_@»._hyg ?k3.«_@»._hyg ?k4.«_@»._hyg ?k5.«_@»._hyg ?_; (case k0 => rfl); (case k1 => k_asm); (case k2 => k_asm); (case k3 => exact rgXz9); (case k4 => rfl); (case k5 => omega)); intro dw dvs dep h'z9 tk'z9 F'z9 N'z9 hdw hdi))
  k_with "pyIter ref" => (refine hold ?_)
  k_with "setItem ref int" => (refine hold ?_)
  refine nmG fun gG9 kG9 => ?_
  obtain ⟨B, F, X, N, T, kf, hd, hu⟩ := C
  refine kG9 ?_
  clear kG9 gG9
  revert X
  k_fill
  intro X
  intro FG' F' N' B' X' T'
  (try dsimp only); (try k_lift B'); (try k_fold)
  k_steps
  · (with_reducible rename (mk (p ++ r) == mk (p ++ q)) = true => e1)
    have e2 := mk_inj (beq_iff_eq.mp e1)
    have e3 : r = q := List.append_cancel_left e2
    have e4 : r = [] := List.eq_nil_iff_forall_not_mem.mpr fun c hc => hdj c hc (e3 ▸ hc)
    have e5 : levF r q = 0 := by rw [← e3, e4]; rfl
    rw [e5] at hret
    exact hret _ _ _ (by assumption) (by assumption)
  · unfold Hold
    (with_reducible rename News _ _ _ news => N1)
    (with_reducible rename Fr _ _ _ (_ : Str → Option Value) => F1)
    (with_unfolding_all refine' mwhile (σ := Nat × Tok) news (fun c => [(("a" : Str), .str (mk (p ++ r)) t), (("b" : Str), .str (mk (p ++ q)) u), (("max_cost" : Str), .int 99 v), (("pre" : Str), .int (c.1 : Int) c.2)]) (fun n c _ => c.1 + n = p.length) (0, ?tk) p.length ?F ?N ?kp ?hk ?hj ?turn ?hE)
    case F => k_asm
    case N => k_asm
    case kp => exact fun _ hp => hp
    case hk => kst_all
    case hj => exact Nat.zero_add _
    case hE => with_unfolding_all passes_own
    case turn =>
      rintro n ⟨pre, tp⟩ u' nn h tk hkp hJ F N
      dsimp only [kstB] at F hJ
      clear F1 N1
      have hpre : 0 ≤ (pre : Int) := Int.natCast_nonneg _
      have hA : (mk (p ++ r)).length = p.length + r.length := by rw [mk_len, List.length_append]
      have hB : (mk (p ++ q)).length = p.length + q.length := by rw [mk_len, List.length_append]
      have hla : (mk (p ++ r)).length ≤ 1000 := by omega
      have hlb : (mk (p ++ q)).length ≤ 1000 := by omega
      have hple : pre ≤ p.length := by omega
      k_steps
      · have h1 : pre < p.length + r.length := by omega
        have h2 : pre < p.length + q.length := by omega
        have h3 := pre_go hdj hple h1 h2 (by assumption)
        exact WP.next (pre + 1, _) (n - 1) (by assumption) (by assumption) hkp (by kst_all) (by omega) (by dsimp only; omega)
      · have h1 : pre < p.length + r.length := by omega
        have h2 : pre < p.length + q.length := by omega
        have h3 : pre = p.length := pre_end hple (by assumption)
        refine nmG fun gG9 kG9 => ?_
        obtain ⟨xa, hxa⟩ : ∃ x : Str, x = mk r := ⟨_, rfl⟩
        obtain ⟨xb, hxb⟩ : ∃ x : Str, x = mk q := ⟨_, rfl⟩
        refine kG9 ?_
        clear kG9 gG9
        have sa : Txt.slice (mk (p ++ r)) (some (pre : Int)) none = xa := by rw [hxa, tslice_from _ (by rw [List.length_append]; omega), h3, List.drop_left]
        have sb : Txt.slice (mk (p ++ q)) (some (pre : Int)) none = xb := by rw [hxb, tslice_from _ (by rw [List.length_append]; omega), h3, List.drop_left]
        unfold Hold
        (with_reducible rename Fr _ _ _ (_ : Str → Option Value) => F2)
        (with_reducible rename News _ _ _ nn => N2)
        clear F N
        (with_unfolding_all refine' mwhile (σ := Unit) nn (fun _ => [(("a" : Str), .str xa ?ta), (("b" : Str), .str xb ?tb), (("max_cost" : Str), .int 99 v), (("post" : Str), .int 0 ?tc)]) (fun n c _ => True) () 0 ?F ?N ?kp ?hk ?hj ?turn2 ?hE2)
        case F => exact F2
        case N => exact N2
        case kp => exact fun _ hp => hp
        case hk => rw [← sa, ← sb]; kst_all
        case hj => trivial
        case hE2 => with_unfolding_all passes_own
        case turn2 =>
          rintro n2 c2 u2 nn2 h' tk2 hkp2 hJ2 F3 N3
          dsimp only [kstB] at F3
          clear F2 N2
          have hr0 : 0 < r.length := by omega
          have hq0 : 0 < q.length := by omega
          have hlr : xa.length = r.length := by rw [hxa]; exact mk_len r
          have hlq : xb.length = q.length := by rw [hxb]; exact mk_len q
          have hra : 1 ≤ xa.length := by omega
          have hrb : 1 ≤ xb.length := by omega
          have hne : (Txt.item xa (0 - 1) == Txt.item xb (0 - 1)) = false := by
            rw [Bool.eq_false_iff]
            intro e
            rw [hxa, hxb] at e
            exact last_ne hdj hr0 hq0 e
          have hcr := Kp.mk hxa
          have hcq := Kp.mk hxb
          clear hxa hxb sa sb
          have mk8 := Kp.mk (rfl : (8 : Nat) = 8)
          k_steps
          unfold Hold
          (with_reducible rename Kp ((8 : Nat) = 8) => mk7)
          clear mk7
          refine wpAny_mono (Q := SwP g0 L0 s nn2 r q v) ?hIf ?rest (fun _ _ h => h)
          case hIf =>
            k_steps
            · exact ⟨rfl, xb, xa, q, r, _, _, _, _, _, _, rfl, fr_map (by assumption) (kstB_self (by kst_all)), by assumption, (fun p hp => by first | exact hp | exact .tail _ hp), hcq.k, hcr.k, by omega, by omega, by omega, fun c h => hLo c h.symm, by unfold levF; rw [if_neg (fun e => e.elim (fun e => by rw [e] at hr0; exact absurd hr0 (by decide)) (fun e => by rw [e] at hq0; exact absurd hq0 (by decide))), if_pos (by omega)]⟩
            · exact ⟨rfl, xa, xb, r, q, _, _, _, _, _, _, rfl, fr_map (by assumption) (kstB_self (by kst_all)), by assumption, (fun p hp => by first | exact hp | exact .tail _ hp), hcr.k, hcq.k, by omega, by omega, by omega, hLo, by unfold levF; rw [if_neg (fun e => e.elim (fun e => by rw [e] at hr0; exact absurd hr0 (by decide)) (fun e => by rw [e] at hq0; exact absurd hq0 (by decide))), if_neg (by omega)]⟩
          case rest =>
            intro fl s9 hz9
            refine nmG fun gG9 kG9 => ?_
            refine an2 (hz9) ?_
            intro y9z1 y9w2
            refine ex10 (y9w2) ?_
            intro ya yb la lb ta9 tb9 u9 nn9 h9 tk9 y9w3
            refine an11 (y9w3) ?_
            intro y9z4 F9 N9 hs9 hya hyb hll hne9 hlb15 hLo9 hv9
            clear y9w3 y9w2
            try clear hz9
            subst y9z1
            subst y9z4
            refine kG9 ?_
            clear kG9 gG9
            have hs99 : ∀ p ∈ news, p ∈ nn9 := fun p hp => hs9 _ (hkp2 _ (hkp _ hp))
            clear hcr hcq hne hr0 hq0 hra hrb hlr hlq hs9
            revert hs99; revert hv9; revert hLo9; revert hlb15; revert hne9; revert hll; revert hyb; revert hya; revert N9; revert F9; revert T'; revert X'; revert B'; revert FG'
            exact (ctH ya yb la lb ta9 tb9 u9 nn9 h9 tk9).out
      · have h3 : pre = p.length := by omega
        have hq0 : q.length = 0 := by omega
        refine nmG fun gG9 kG9 => ?_
        obtain ⟨xa, hxa⟩ : ∃ x : Str, x = mk r := ⟨_, rfl⟩
        obtain ⟨xb, hxb⟩ : ∃ x : Str, x = mk q := ⟨_, rfl⟩
        refine kG9 ?_
        clear kG9 gG9
        have sa : Txt.slice (mk (p ++ r)) (some (pre : Int)) none = xa := by rw [hxa, tslice_from _ (by rw [List.length_append]; omega), h3, List.drop_left]
        have sb : Txt.slice (mk (p ++ q)) (some (pre : Int)) none = xb := by rw [hxb, tslice_from _ (by rw [List.length_append]; omega), h3, List.drop_left]
        have hlr : xa.length = r.length := by rw [hxa]; exact mk_len r
        have hlq : xb.length = q.length := by rw [hxb]; exact mk_len q
        have hla9 : xa.length ≤ 1000 := by omega
        have hlb9 : xb.length ≤ 1000 := by omega
        have hv9 : levF r q = 2 * ((xa.length : Int) + xb.length) := by
          unfold levF
          rw [if_pos (.inr (List.length_eq_zero_iff.mp hq0)), hlr, hlq]
        unfold Hold
        (with_reducible rename Fr _ _ _ (_ : Str → Option Value) => F2)
        (with_reducible rename News _ _ _ nn => N2)
        clear F N
        (with_unfolding_all refine' mwhile (σ := Unit) nn (fun _ => [(("a" : Str), .str xa ?taQ), (("b" : Str), .str xb ?tbQ), (("max_cost" : Str), .int 99 v), (("post" : Str), .int 0 ?tcQ)]) (fun n c _ => True) () 0 ?FQ ?NQ ?kpQ ?hkQ ?hjQ ?turnQ ?hEQ)
        case FQ => exact F2
        case NQ => exact N2
        case kpQ => exact fun _ hp => hp
        case hkQ => rw [← sa, ← sb]; kst_all
        case hjQ => trivial
        case hEQ => with_unfolding_all passes_own
        case turnQ =>
          rintro n2 c2 u2 nn2 h' tk2 hkp2 hJ2 F3 N3
          dsimp only [kstB] at F3
          clear F2 N2 hxa hxb sa sb
          have hrb : xb.length = 0 := by omega
          rcases Nat.eq_zero_or_pos xa.length with hra | hra
          · k_steps
            rw [hv9] at hret
            exact hret _ _ _ (by assumption) (cb_drop (by assumption) (fun p hp => hkp2 _ (hkp _ hp)))
          · replace hra : 1 ≤ xa.length := hra
            k_steps
            rw [hv9] at hret
            exact hret _ _ _ (by assumption) (cb_drop (by assumption) (fun p hp => hkp2 _ (hkp _ hp)))
      · have h3 : pre = p.length := by omega
        have hr0 : r.length = 0 := by omega
        refine nmG fun gG9 kG9 => ?_
        obtain ⟨xa, hxa⟩ : ∃ x : Str, x = mk r := ⟨_, rfl⟩
        obtain ⟨xb, hxb⟩ : ∃ x : Str, x = mk q := ⟨_, rfl⟩
        refine kG9 ?_
        clear kG9 gG9
        have sa : Txt.slice (mk (p ++ r)) (some (pre : Int)) none = xa := by rw [hxa, tslice_from _ (by rw [List.length_append]; omega), h3, List.drop_left]
        have sb : Txt.slice (mk (p ++ q)) (some (pre : Int)) none = xb := by rw [hxb, tslice_from _ (by rw [List.length_append]; omega), h3, List.drop_left]
        have hlr : xa.length = r.length := by rw [hxa]; exact mk_len r
        have hlq : xb.length = q.length := by rw [hxb]; exact mk_len q
        have hla9 : xa.length ≤ 1000 := by omega
        have hlb9 : xb.length ≤ 1000 := by omega
        have hv9 : levF r q = 2 * ((xa.length : Int) + xb.length) := by
          unfold levF
          rw [if_pos (.inl (List.length_eq_zero_iff.mp hr0)), hlr, hlq]
        unfold Hold
        (with_reducible rename Fr _ _ _ (_ : Str → Option Value) => F2)
        (with_reducible rename News _ _ _ nn => N2)
        clear F N
        (with_unfolding_all refine' mwhile (σ := Unit) nn (fun _ => [(("a" : Str), .str xa ?taR), (("b" : Str), .str xb ?tbR), (("max_cost" : Str), .int 99 v), (("post" : Str), .int 0 ?tcR)]) (fun n c _ => True) () 0 ?FR ?NR ?kpR ?hkR ?hjR ?turnR ?hER)
        case FR => exact F2
        case NR => exact N2
        case kpR => exact fun _ hp => hp
        case hkR => rw [← sa, ← sb]; kst_all
        case hjR => trivial
        case hER => with_unfolding_all passes_own
        case turnR =>
          rintro n2 c2 u2 nn2 h' tk2 hkp2 hJ2 F3 N3
          dsimp only [kstB] at F3
          clear F2 N2 hxa hxb sa sb
          have hra : xa.length = 0 := by omega
          k_steps
          rw [hv9] at hret
          exact hret _ _ _ (by assumption) (cb_drop (by assumption) (fun p hp => hkp2 _ (hkp _ hp)))⟩
theorem ctBne : Nonempty ((Str) × (Str) × (List Nat) × (List Nat) × (Tok) × (Tok) × (Str → Option Value) × (List (Addr × Obj)) × (Heap) × (Nat)) := ⟨(default, default, default, default, default, default, default, default, default, default)⟩
noncomputable def ctBd := pk ctBne fun v => Bx (ctB.1 v.1 v.2.1 v.2.2.1 v.2.2.2.1 v.2.2.2.2.1 v.2.2.2.2.2.1 v.2.2.2.2.2.2.1 v.2.2.2.2.2.2.2.1 v.2.2.2.2.2.2.2.2.1 v.2.2.2.2.2.2.2.2.2)
noncomputable def yac : Str := ctBd.1
noncomputable def ybc : Str := ctBd.2.1
noncomputable def lac : List Nat := ctBd.2.2.1
noncomputable def lbc : List Nat := ctBd.2.2.2.1
noncomputable def ta9c : Tok := ctBd.2.2.2.2.1
noncomputable def tb9c : Tok := ctBd.2.2.2.2.2.1
noncomputable def u9c : Str → Option Value := ctBd.2.2.2.2.2.2.1
noncomputable def nn9c : List (Addr × Obj) := ctBd.2.2.2.2.2.2.2.1
noncomputable def h9c : Heap := ctBd.2.2.2.2.2.2.2.2.1
noncomputable def tk9c : Nat := ctBd.2.2.2.2.2.2.2.2.2
noncomputable def ctX1 : (ctR : (Addr) → (Nat) → (Tok) → (Int) → (Tok) → (Str → Option Value) → (List (Addr × Obj)) → (List (Addr × Obj)) → (Heap) → (Nat) → (List Value) → (Nat) → Prop) ×' (∀ (C : At w mean mg mb 2 dp un cs outer A₀ base h₀ L m news s.heap) (hdj : ∀ c ∈ r, c ∉ q) (hl : p.length + r.length + q.length ≤ 15) (hLo : ∀ c, c ∈ r ∨ c ∈ q → LoOk c) (hret : ∀ (t' : Tok) (h' : Heap) (tk' : Nat), Fr h₀ L h' m → News h₀ L h' news → Q (.int (levF r q) t') { s with heap := h', toks := tk' }), (∀ dw i t res tr u3 nn3 ok h3 tk3 vs e, Bx (ctR dw i t res tr u3 nn3 ok h3 tk3 vs e)) → Bx (ctB.1 yac ybc lac lbc ta9c tb9c u9c nn9c h9c tk9c)) := ⟨_, by
  intro C hdj hl hLo hret ctH
  refine ⟨?_⟩
  dsimp only [ctB]
  k_with_none
  k_with "call builtin:str.lower" => (((try dsimp only); (k_dflt (refine' mlower ?a.«_@»._hyg ?b.«_@»._hyg ?_; (case a => assumption); (case b => exact Nat.le_of_ble_eq_true rfl)))))
  k_with "subscriptTail Name Slice str ref" => (((with_reducible show wpAny _ _ (subscriptTail _ (Expr.Slice none (some (Expr.BoolOp _ _ _)) none _) _ _) _ _ _); (with_reducible rename Fr _ _ _ _ => F'z9); (with_reducible rename News _ _ _ _ => N'z9); (refine mslice_all (hsz := ?hsz.«_@»._hyg) (s := ⟨_, _, _, _, _⟩) F'z9 N'z9 ?_ ?a.«_@»._hyg ?b.«_@»._hyg); (case hsz => omega); (case a => with_unfolding_all rfl); (case b => (intro _; with_unfolding_all rfl)); intro _ _ _ _ _))
  k_with "truthy str" => (((with_reducible show wpAny _ _ (PySem.truthy (Value.str _ _)) _ _ _); (refine' KXt.truthy_pos (K := 1000) ?a.«_@»._hyg ?b.«_@»._hyg ?c.«_@»._hyg ?_; (case a => with_reducible assumption); (case b => omega); (case c => decide)); intro _))
  k_with "truthy str" => (((with_reducible show wpAny _ _ (PySem.truthy (Value.str _ _)) _ _ _); (refine' mtruthy0 ?a.«_@»._hyg ?_; (case a => with_reducible assumption)); intro _))
  k_with "exec While BoolOp" => (refine hold ?_)
  k_with "exec If" => (((with_reducible rename Kp ((8 : Nat) = 8) => mk6); (with_reducible show wpAny _ _ (exec (PySem.Stmt.If (PySem.Expr.Compare (PySem.Expr.Call (PySem.Expr.Name (PySem.Str.ofString "len") _) [PySem.Expr.Name (PySem.Str.ofString "b") _] _ _) [PySem.CmpOp.Lt] _ _) _ _ _) _) _ _ _); refine hold ?_))
  k_with "call ref" => (((with_reducible show wpAny _ _ (call (Value.ref 192) _) _ _ _); k_dflt (refine' cost_ct' ⟨?k1.«_@»._hyg, ?k2.«_@»._hyg, ?k3.«_@»._hyg, ?k4.«_@»._hyg, ?k5.«_@»._hyg, ?k6.«_@»._hyg, ?k7.«_@»._hyg, ?k8.«_@»._hyg⟩ ?g1.«_@»._hyg ?g2.«_@»._hyg ?g3.«_@»._hyg ?g4.«_@»._hyg ?_; (case k1 => k_asm); (case k2 => k_asm); (case k3 => k_in); (case k4 => k_asm); (case k5 => k_asm); (case k6 => first | exact rfl | assumption); (case k7 => ktr_room); (case k8 => ktr_units); (case g1 => assumption); (case g2 => assumption); (case g3 => assumption); (case g4 => assumption)); intro t'z9 h'z9 tk'z9 F'z9 N'z9))
  k_with "call type:list" => (((rename IsRange _ _ _ _ _ _ _ _ => rgXz9); k_dflt (refine' mlist2 ?k0.«_@»._hyg ?k1.«_@»._hyg ?k2.«_@»._hyg ?k3.«_@»._hyg ?k4.«_@»._hyg ?k5.«_@»._hyg ?_; (case k0 => rfl); (case k1 => k_asm); (case k2 => k_asm); (case k3 => exact rgXz9); (case k4 => rfl); (case k5 => omega)); intro dw dvs dep h'z9 tk'z9 F'z9 N'z9 hdw hdi))
  k_with "pyIter ref" => (refine hold ?_)
  k_with "setItem ref int" => (refine hold ?_)
  refine nmG fun gG9 kG9 => ?_
  obtain ⟨B, F, X, N, T, kf, hd, hu⟩ := C
  refine kG9 ?_
  clear kG9 gG9
  revert X
  k_fill
  intro X
  intro FG' B' X' T' F9 N9 hya hyb hll hne9 hlb15 hLo9 hv9 hs99
  dsimp only [kstB] at F9
  have hna : yac.length = lac.length := by rw [hya]; exact mk_len lac
  have hnb : ybc.length = lbc.length := by rw [hyb]; exact mk_len lbc
  have ka := Kp.mk hya
  have kb := Kp.mk hyb
  have hla15 : lac.length ≤ 15 := by omega
  have hret9 : ∀ (t' : Tok) (h' : Heap) (tk' : Nat), Fr h₀ L h' m → News h₀ L h' news → Q (.int (dpOut lac lbc lbc.length).1 t') { s with heap := h', toks := tk' } := by rw [← hv9]; exact hret
  have hne9x := hne9
  clear hya hyb hLo hdj
  (try dsimp only)
  k_steps
  all_goals try (exfalso; omega)
  have hdw9 : ∀ p ∈ nn9c, p.1 ≠ dw := fun p hp => Nat.ne_of_lt (hdw p hp)
  clear hret hv9 hne9x
  unfold Hold
  have hdi9 : IntsAre dvs (row0 lac.length) := by rw [← hna]; exact hdi
  (with_unfolding_all refine' mrange (σ := Int × Tok) nn9c (fun c => [(("a" : Str), .str yac ?t1), (("b" : Str), .str ybc ?t2), (("max_cost" : Str), .int 99 v), (("row" : Str), .ref dw), (("result" : Str), .int c.1 c.2)]) (fun i c n => c.1 = (dpOut lac lbc i).1 ∧ ∃ vs e, (dw, ({ cls := .type "list", data := .seq (List.toArray vs) e } : Obj)) ∈ n ∧ IntsAre vs (dpOut lac lbc i).2) (0, ?t3) ?hh ?hr ?ha ?hb ?hn ?mo ?kp ?F ?N ?hk ?hj ?turn3 ?done3 ?hx)
  case hh => rfl
  case hr => assumption
  case F => k_asm
  case N => k_asm
  case ha => decide
  case hb => omega
  case hn => rfl
  case mo =>
    intro i c n n' hs hz9
    refine nmG fun gG9 kG9 => ?_
    refine an2 (hz9) ?_
    intro h1 y9w1
    refine ex2 (y9w1) ?_
    intro vs e y9w2
    refine an2 (y9w2) ?_
    intro m1 i1
    clear y9w2 y9w1
    try clear hz9
    refine kG9 ?_
    clear kG9 gG9
    exact ⟨h1, vs, e, hs _ m1 (.inr (by simp)), i1⟩
  case kp => first | exact (fun p hp => .tail _ hp) | exact (fun p hp => .tail _ (.tail _ hp))
  case hk => kst_all
  case hj => exact ⟨rfl, _, _, .head _, hdi9⟩
  case hx => exact fun _ => rfl
  case turn3 =>
    have en : ((ybc.length : Int) - 0).toNat = lbc.length := by omega
    rw [en]
    rintro i t ⟨res, tr⟩ u3 nn3 ok h3 tk3 hlt hko hok hok2 hz9
    refine nmG fun gG9 kG9 => ?_
    refine an2 (hz9) ?_
    intro hJ1 y9w1
    refine ex2 (y9w1) ?_
    intro vs e y9w2
    refine an2 (y9w2) ?_
    intro m1 i1
    clear y9w2 y9w1
    try clear hz9
    refine kG9 ?_
    clear kG9 gG9
    intro F N
    dsimp only [kstB] at F hJ1
    rw [Int.zero_add] at F
    have n1 := ok_ne N m1 (.inr (by simp)) hok hok2 hdw9
    have hyb : Txt.item ybc (i : Int) = ⟨#[lbc.getD i 0]⟩ := by rw [kb.k]; exact titem lbc hlt
    have hlob : LoOk (lbc.getD i 0) := hLo9 _ (.inr (getD_mem hlt))
    have hob := out_bd (b := lbc) hla15 i (by omega)
    (try dsimp only)
    revert hob; revert hlob; revert hyb; revert n1; revert N; revert F; revert i1; revert m1; revert hJ1; revert hok; revert hlt; revert hdw9; revert hla15; revert kb; revert ka; revert hnb; revert hna; revert hs99; revert hLo9; revert hlb15; revert hne9; revert hll; revert T'; revert X'; revert B'; revert FG'
    exact (ctH dw i t res tr u3 nn3 ok h3 tk3 vs e).out
  case done3 =>
    have en : ((ybc.length : Int) - 0).toNat = lbc.length := by omega
    rw [en]
    rintro ⟨res, tr⟩ u3 nn3 h3 tk3 hkn3 hz9
    refine nmG fun gG9 kG9 => ?_
    refine an2 (hz9) ?_
    intro hJ1 y9w1
    refine ex2 (y9w1) ?_
    intro vs e y9w2
    refine an2 (y9w2) ?_
    intro m1 i1
    clear y9w2 y9w1
    try clear hz9
    refine kG9 ?_
    clear kG9 gG9
    intro F N
    dsimp only [kstB, envOf] at F N hJ1
    k_steps
    rw [hJ1]
    exact hret9 _ _ _ (by assumption) (cb_drop (by assumption) (fun p hp => hkn3 _ (hs99 _ hp)))⟩
theorem ctX1ne : Nonempty ((Addr) × (Nat) × (Tok) × (Int) × (Tok) × (Str → Option Value) × (List (Addr × Obj)) × (List (Addr × Obj)) × (Heap) × (Nat) × (List Value) × (Nat)) := ⟨(default, default, default, default, default, default, default, default, default, default, default, default)⟩
noncomputable def ctX1d := pk ctX1ne fun v => Bx (ctX1.1 v.1 v.2.1 v.2.2.1 v.2.2.2.1 v.2.2.2.2.1 v.2.2.2.2.2.1 v.2.2.2.2.2.2.1 v.2.2.2.2.2.2.2.1 v.2.2.2.2.2.2.2.2.1 v.2.2.2.2.2.2.2.2.2.1 v.2.2.2.2.2.2.2.2.2.2.1 v.2.2.2.2.2.2.2.2.2.2.2)
noncomputable def dwc : Addr := ctX1d.1
noncomputable def ic : Nat := ctX1d.2.1
noncomputable def tc : Tok := ctX1d.2.2.1
noncomputable def resc : Int := ctX1d.2.2.2.1
noncomputable def trc : Tok := ctX1d.2.2.2.2.1
noncomputable def u3c : Str → Option Value := ctX1d.2.2.2.2.2.1
noncomputable def nn3c : List (Addr × Obj) := ctX1d.2.2.2.2.2.2.1
noncomputable def okc : List (Addr × Obj) := ctX1d.2.2.2.2.2.2.2.1
noncomputable def h3c : Heap := ctX1d.2.2.2.2.2.2.2.2.1
noncomputable def tk3c : Nat := ctX1d.2.2.2.2.2.2.2.2.2.1
noncomputable def vsc : List Value := ctX1d.2.2.2.2.2.2.2.2.2.2.1
noncomputable def ec : Nat := ctX1d.2.2.2.2.2.2.2.2.2.2.2
noncomputable def ctX2 : (ctR : (Nat) → (Tok) → (Int) → (Tok) → (Int) → (Tok) → (Int) → (Tok) → (Str → Option Value) → (List (Addr × Obj)) → (List (Addr × Obj)) → (Heap) → (Nat) → (List Value) → (Nat) → Prop) ×' (∀ (C : At w mean mg mb 2 dp un cs outer A₀ base h₀ L m news s.heap) (hdj : ∀ c ∈ r, c ∉ q) (hl : p.length + r.length + q.length ≤ 15) (hLo : ∀ c, c ∈ r ∨ c ∈ q → LoOk c) (hret : ∀ (t' : Tok) (h' : Heap) (tk' : Nat), Fr h₀ L h' m → News h₀ L h' news → Q (.int (levF r q) t') { s with heap := h', toks := tk' }), (∀ j tj d td rs trs mn tm u4 nn4 ok4 h4 tk4 vs4 e4, Bx (ctR j tj d td rs trs mn tm u4 nn4 ok4 h4 tk4 vs4 e4)) → Bx (ctX1.1 dwc ic tc resc trc u3c nn3c okc h3c tk3c vsc ec)) := ⟨_, by
  intro C hdj hl hLo hret ctH
  refine ⟨?_⟩
  dsimp only [ctX1]
  k_with_none
  k_with "call builtin:str.lower" => (((try dsimp only); (k_dflt (refine' mlower ?a.«_@»._hyg ?b.«_@»._hyg ?_; (case a => assumption); (case b => exact Nat.le_of_ble_eq_true rfl)))))
  k_with "subscriptTail Name Slice str ref" => (((with_reducible show wpAny _ _ (subscriptTail _ (Expr.Slice none (some (Expr.BoolOp _ _ _)) none _) _ _) _ _ _); (with_reducible rename Fr _ _ _ _ => F'z9); (with_reducible rename News _ _ _ _ => N'z9); (refine mslice_all (hsz := ?hsz.«_@»._hyg) (s := ⟨_, _, _, _, _⟩) F'z9 N'z9 ?_ ?a.«_@»._hyg ?b.«_@»._hyg); (case hsz => omega); (case a => with_unfolding_all rfl); (case b => (intro _; with_unfolding_all rfl)); intro _ _ _ _ _))
  k_with "truthy str" => (((with_reducible show wpAny _ _ (PySem.truthy (Value.str _ _)) _ _ _); (refine' KXt.truthy_pos (K := 1000) ?a.«_@»._hyg ?b.«_@»._hyg ?c.«_@»._hyg ?_; (case a => with_reducible assumption); (case b => omega); (case c => decide)); intro _))
  k_with "truthy str" => (((with_reducible show wpAny _ _ (PySem.truthy (Value.str _ _)) _ _ _); (refine' mtruthy0 ?a.«_@»._hyg ?_; (case a => with_reducible assumption)); intro _))
  k_with "exec While BoolOp" => (refine hold ?_)
  k_with "exec If" => (((with_reducible rename Kp ((8 : Nat) = 8) => mk6); (with_reducible show wpAny _ _ (exec (PySem.Stmt.If (PySem.Expr.Compare (PySem.Expr.Call (PySem.Expr.Name (PySem.Str.ofString "len") _) [PySem.Expr.Name (PySem.Str.ofString "b") _] _ _) [PySem.CmpOp.Lt] _ _) _ _ _) _) _ _ _); refine hold ?_))
  k_with "call ref" => (((with_reducible show wpAny _ _ (call (Value.ref 192) _) _ _ _); k_dflt (refine' cost_ct' ⟨?k1.«_@»._hyg, ?k2.«_@»._hyg, ?k3.«_@»._hyg, ?k4.«_@»._hyg, ?k5.«_@»._hyg, ?k6.«_@»._hyg, ?k7.«_@»._hyg, ?k8.«_@»._hyg⟩ ?g1.«_@»._hyg ?g2.«_@»._hyg ?g3.«_@»._hyg ?g4.«_@»._hyg ?_; (case k1 => k_asm); (case k2 => k_asm); (case k3 => k_in); (case k4 => k_asm); (case k5 => k_asm); (case k6 => first | exact rfl | assumption); (case k7 => ktr_room); (case k8 => ktr_units); (case g1 => assumption); (case g2 => assumption); (case g3 => assumption); (case g4 => assumption)); intro t'z9 h'z9 tk'z9 F'z9 N'z9))
  k_with "call type:list" => (((rename IsRange _ _ _ _ _ _ _ _ => rgXz9); k_dflt (refine' mlist2 ?k0.«_@»._hyg ?k1.«_@»._hyg ?k2.«_@»._hyg ?k3.«_@»._hyg ?k4.«_@»._hyg ?k5.«_@»._hyg ?_; (case k0 => rfl); (case k1 => k_asm); (case k2 => k_asm); (case k3 => exact rgXz9); (case k4 => rfl); (case k5 => omega)); intro dw dvs dep h'z9 tk'z9 F'z9 N'z9 hdw hdi))
  k_with "pyIter ref" => (refine hold ?_)
  k_with "setItem ref int" => (refine hold ?_)
  refine nmG fun gG9 kG9 => ?_
  obtain ⟨B, F, X, N, T, kf, hd, hu⟩ := C
  refine kG9 ?_
  clear kG9 gG9
  revert X
  k_fill
  intro X
  intro FG' B' X' T' hll hne9 hlb15 hLo9 hs99 hna hnb ka kb hla15 hdw9 hlt hok hJ1 m1 i1 F N n1 hyb hlob hob
  k_steps
  unfold Hold
  (with_unfolding_all refine' mrange (σ := (Int × Tok) × (Int × Tok) × (Int × Tok)) okc (fun c => [(("a" : Str), .str yac ?u1), (("b" : Str), .str ybc ?u2), (("max_cost" : Str), .int 99 v), (("row" : Str), .ref dwc), (("bchar" : Str), .str (Txt.item ybc (ic : Int)) ?u3), (("distance" : Str), .int c.1.1 c.1.2), (("result" : Str), .int c.2.1.1 c.2.1.2), (("minimum" : Str), .int c.2.2.1 c.2.2.2)]) (fun j c n => c.1.1 = (dpIn (lbc.getD ic 0) lac (dpOut lac lbc ic).2 ((ic : Int) * 2) j).1 ∧ c.2.1.1 = (dpIn (lbc.getD ic 0) lac (dpOut lac lbc ic).2 ((ic : Int) * 2) j).2.1 ∧ ((j = 0 ∧ c.2.2.1 = 9223372036854775807) ∨ (0 ≤ c.2.2.1 ∧ c.2.2.1 ≤ 99)) ∧ ∃ vsc ec, (dwc, ({ cls := .type "list", data := .seq (List.toArray vsc) ec } : Obj)) ∈ n ∧ IntsAre vsc (dpIn (lbc.getD ic 0) lac (dpOut lac lbc ic).2 ((ic : Int) * 2) j).2.2) (((ic : Int) * 2, ?w1), ((ic : Int) * 2, ?w2), (9223372036854775807, ?w3)) ?hh ?hr ?ha ?hb ?hn ?mo ?kp ?F ?N ?hk ?hj ?turn4 ?done4 ?hx)
  case hh => rfl
  case hr => assumption
  case F => k_asm
  case N => k_asm
  case ha => decide
  case hb => omega
  case hn => rfl
  case mo =>
    intro j c n n' hs hz9
    refine nmG fun gG9 kG9 => ?_
    refine an4 (hz9) ?_
    intro h1 h2 h3c y9w1
    refine ex2 (y9w1) ?_
    intro vsc ec y9w2
    refine an2 (y9w2) ?_
    intro m1 i1
    clear y9w2 y9w1
    try clear hz9
    refine kG9 ?_
    clear kG9 gG9
    exact ⟨h1, h2, h3c, vsc, ec, hs _ m1 (.inr (by simp)), i1⟩
  case kp => exact hok
  case hk => kst_all
  case hj => exact ⟨rfl, rfl, .inl ⟨rfl, rfl⟩, _, _, m1, i1⟩
  case hx => exact fun _ => rfl
  case turn4 =>
    have en2 : ((yac.length : Int) - 0).toNat = lac.length := by omega
    rw [en2]
    rintro j tj ⟨⟨d, td⟩, ⟨rs, trs⟩, ⟨mn, tm⟩⟩ u4 nn4 ok4 h4 tk4 hlt4 hko4 hok4 hok24 hz9
    refine nmG fun gG9 kG9 => ?_
    refine an4 (hz9) ?_
    intro hd1 hd2 hd3 y9w1
    refine ex2 (y9w1) ?_
    intro vs4 e4 y9w2
    refine an2 (y9w2) ?_
    intro m4 i4
    clear y9w2 y9w1
    try clear hz9
    refine kG9 ?_
    clear kG9 gG9
    intro F4 N4
    dsimp only [kstB] at F4 hd1 hd2 hd3
    rw [Int.zero_add] at F4
    have n4 := ok_ne N4 m4 (.inr (by simp)) hok4 hok24 n1
    have hya : Txt.item yac (j : Int) = ⟨#[lac.getD j 0]⟩ := by rw [ka.k]; exact titem lac hlt4
    have hloa : LoOk (lac.getD j 0) := hLo9 _ (.inl (getD_mem hlt4))
    have hib := in_bd (bc := lbc.getD ic 0) (a := lac) (row := (dpOut lac lbc ic).2) (z := (ic : Int) * 2) (M := 40 + 2 * (ic : Int)) hob.l (by omega) hob.e j (by omega)
    have hcb := cost_bd (lbc.getD ic 0) (lac.getD j 0)
    have hb1 := hib.d
    have hb2 := hib.r
    have hb3 := hib.lo j (Nat.le_refl _)
    have hb4 := hib.l
    clear F N
    have hib2 := (in_bd (bc := lbc.getD ic 0) (a := lac) (row := (dpOut lac lbc ic).2) (z := (ic : Int) * 2) (M := 40 + 2 * (ic : Int)) hob.l (by omega) hob.e (j + 1) (by omega)).r
    refine nmG fun gG9 kG9 => ?_
    obtain ⟨ds1, ds2, ds3⟩ := dpIn_succ (lbc.getD ic 0) lac (dpOut lac lbc ic).2 ((ic : Int) * 2) j
    refine kG9 ?_
    clear kG9 gG9
    (try dsimp only)
    revert ds3; revert ds2; revert ds1; revert hib2; revert hb4; revert hb3; revert hb2; revert hb1; revert hcb; revert hib; revert hloa; revert hya; revert n4; revert N4; revert F4; revert i4; revert m4; revert hd3; revert hd2; revert hd1; revert hok4; revert hlt4; revert hlob; revert hyb; revert hlt; revert hla15; revert kb; revert ka; revert hnb; revert hna; revert hlb15; revert hne9; revert hll; revert T'; revert X'; revert B'; revert FG'
    exact (ctH j tj d td rs trs mn tm u4 nn4 ok4 h4 tk4 vs4 e4).out
  case done4 =>
    have en2 : ((yac.length : Int) - 0).toNat = lac.length := by omega
    rw [en2]
    rintro ⟨⟨d, td⟩, ⟨rs, trs⟩, ⟨mn, tm⟩⟩ u4 nn4 h4 tk4 hkn4 hz9
    refine nmG fun gG9 kG9 => ?_
    refine an4 (hz9) ?_
    intro hd1 hd2 hd3 y9w1
    refine ex2 (y9w1) ?_
    intro vs4 e4 y9w2
    refine an2 (y9w2) ?_
    intro m4 i4
    clear y9w2 y9w1
    try clear hz9
    refine kG9 ?_
    clear kG9 gG9
    intro F4 N4
    dsimp only [kstB] at F4 hd1 hd2 hd3
    have hd4 : mn ≤ 99 := by omega
    clear F N
    k_steps
    exact TP.next (_, _) (by assumption) (by assumption) hkn4 (by kst_all) ⟨hd2, _, _, m4, i4⟩⟩
theorem ctX2ne : Nonempty ((Nat) × (Tok) × (Int) × (Tok) × (Int) × (Tok) × (Int) × (Tok) × (Str → Option Value) × (List (Addr × Obj)) × (List (Addr × Obj)) × (Heap) × (Nat) × (List Value) × (Nat)) := ⟨(default, default, default, default, default, default, default, default, default, default, default, default, default, default, default)⟩
noncomputable def ctX2d := pk ctX2ne fun v => Bx (ctX2.1 v.1 v.2.1 v.2.2.1 v.2.2.2.1 v.2.2.2.2.1 v.2.2.2.2.2.1 v.2.2.2.2.2.2.1 v.2.2.2.2.2.2.2.1 v.2.2.2.2.2.2.2.2.1 v.2.2.2.2.2.2.2.2.2.1 v.2.2.2.2.2.2.2.2.2.2.1 v.2.2.2.2.2.2.2.2.2.2.2.1 v.2.2.2.2.2.2.2.2.2.2.2.2.1 v.2.2.2.2.2.2.2.2.2.2.2.2.2.1 v.2.2.2.2.2.2.2.2.2.2.2.2.2.2)
noncomputable def jc : Nat := ctX2d.1
noncomputable def tjc : Tok := ctX2d.2.1
noncomputable def dc : Int := ctX2d.2.2.1
noncomputable def tdc : Tok := ctX2d.2.2.2.1
noncomputable def rsc : Int := ctX2d.2.2.2.2.1
noncomputable def trsc : Tok := ctX2d.2.2.2.2.2.1
noncomputable def mnc : Int := ctX2d.2.2.2.2.2.2.1
noncomputable def tmc : Tok := ctX2d.2.2.2.2.2.2.2.1
noncomputable def u4c : Str → Option Value := ctX2d.2.2.2.2.2.2.2.2.1
noncomputable def nn4c : List (Addr × Obj) := ctX2d.2.2.2.2.2.2.2.2.2.1
noncomputable def ok4c : List (Addr × Obj) := ctX2d.2.2.2.2.2.2.2.2.2.2.1
noncomputable def h4c : Heap := ctX2d.2.2.2.2.2.2.2.2.2.2.2.1
noncomputable def tk4c : Nat := ctX2d.2.2.2.2.2.2.2.2.2.2.2.2.1
noncomputable def vs4c : List Value := ctX2d.2.2.2.2.2.2.2.2.2.2.2.2.2.1
noncomputable def e4c : Nat := ctX2d.2.2.2.2.2.2.2.2.2.2.2.2.2.2
theorem ctX3 (C : At w mean mg mb 2 dp un cs outer A₀ base h₀ L m news s.heap) (hdj : ∀ c ∈ r, c ∉ q) (hl : p.length + r.length + q.length ≤ 15) (hLo : ∀ c, c ∈ r ∨ c ∈ q → LoOk c) (hret : ∀ (t' : Tok) (h' : Heap) (tk' : Nat), Fr h₀ L h' m → News h₀ L h' news → Q (.int (levF r q) t') { s with heap := h', toks := tk' }) : Bx (ctX2.1 jc tjc dc tdc rsc trsc mnc tmc u4c nn4c ok4c h4c tk4c vs4c e4c) := by
  refine ⟨?_⟩
  dsimp only [ctX2]
  k_with_none
  k_with "call builtin:str.lower" => (((try dsimp only); (k_dflt (refine' mlower ?a.«_@»._hyg ?b.«_@»._hyg ?_; (case a => assumption); (case b => exact Nat.le_of_ble_eq_true rfl)))))
  k_with "subscriptTail Name Slice str ref" => (((with_reducible show wpAny _ _ (subscriptTail _ (Expr.Slice none (some (Expr.BoolOp _ _ _)) none _) _ _) _ _ _); (with_reducible rename Fr _ _ _ _ => F'z9); (with_reducible rename News _ _ _ _ => N'z9); (refine mslice_all (hsz := ?hsz.«_@»._hyg) (s := ⟨_, _, _, _, _⟩) F'z9 N'z9 ?_ ?a.«_@»._hyg ?b.«_@»._hyg); (case hsz => omega); (case a => with_unfolding_all rfl); (case b => (intro _; with_unfolding_all rfl)); intro _ _ _ _ _))
  k_with "truthy str" => (((with_reducible show wpAny _ _ (PySem.truthy (Value.str _ _)) _ _ _); (refine' KXt.truthy_pos (K := 1000) ?a.«_@»._hyg ?b.«_@»._hyg ?c.«_@»._hyg ?_; (case a => with_reducible assumption); (case b => omega); (case c => decide)); intro _))
  k_with "truthy str" => (((with_reducible show wpAny _ _ (PySem.truthy (Value.str _ _)) _ _ _); (refine' mtruthy0 ?a.«_@»._hyg ?_; (case a => with_reducible assumption)); intro _))
  k_with "exec While BoolOp" => (refine hold ?_)
  k_with "exec If" => (((with_reducible rename Kp ((8 : Nat) = 8) => mk6); (with_reducible show wpAny _ _ (exec (PySem.Stmt.If (PySem.Expr.Compare (PySem.Expr.Call (PySem.Expr.Name (PySem.Str.ofString "len") _) [PySem.Expr.Name (PySem.Str.ofString "b") _] _ _) [PySem.CmpOp.Lt] _ _) _ _ _) _) _ _ _); refine hold ?_))
  k_with "call ref" => (((with_reducible show wpAny _ _ (call (Value.ref 192) _) _ _ _); k_dflt (refine' cost_ct' ⟨?k1.«_@»._hyg, ?k2.«_@»._hyg, ?k3.«_@»._hyg, ?k4.«_@»._hyg, ?k5.«_@»._hyg, ?k6.«_@»._hyg, ?k7.«_@»._hyg, ?k8.«_@»._hyg⟩ ?g1.«_@»._hyg ?g2.«_@»._hyg ?g3.«_@»._hyg ?g4.«_@»._hyg ?_; (case k1 => k_asm); (case k2 => k_asm); (case k3 => k_in); (case k4 => k_asm); (case k5 => k_asm); (case k6 => first | exact rfl | assumption); (case k7 => ktr_room); (case k8 => ktr_units); (case g1 => assumption); (case g2 => assumption); (case g3 => assumption); (case g4 => assumption)); intro t'z9 h'z9 tk'z9 F'z9 N'z9))
  k_with "call type:list" => (((rename IsRange _ _ _ _ _ _ _ _ => rgXz9); k_dflt (refine' mlist2 ?k0.«_@»._hyg ?k1.«_@»._hyg ?k2.«_@»._hyg ?k3.«_@»._hyg ?k4.«_@»._hyg ?k5.«_@»._hyg ?_; (case k0 => rfl); (case k1 => k_asm); (case k2 => k_asm); (case k3 => exact rgXz9); (case k4 => rfl); (case k5 => omega)); intro dw dvs dep h'z9 tk'z9 F'z9 N'z9 hdw hdi))
  k_with "pyIter ref" => (refine hold ?_)
  k_with "setItem ref int" => (refine hold ?_)
  refine nmG fun gG9 kG9 => ?_
  obtain ⟨B, F, X, N, T, kf, hd, hu⟩ := C
  refine kG9 ?_
  clear kG9 gG9
  revert X
  k_fill
  intro X
  intro FG' B' X' T' hll hne9 hlb15 hna hnb ka kb hla15 hlt hyb hlob hlt4 hok4 hd1 hd2 hd3 m4 i4 F4 N4 n4 hya hloa hib hcb hb1 hb2 hb3 hb4 hib2 ds1 ds2 ds3
  k_steps
  unfold Hold
  (with_reducible rename News _ _ _ nn4c => N5)
  (with_reducible rename Fr _ _ _ (_ : Str → Option Value) => F5)
  refine mset F5 N5 m4 i4 (Int.natCast_nonneg _) (by omega) (by omega) ?_
  intro h5 vs5 e5 F6 N6 i5
  have eX : ∀ X, IntsAre vs5 ((dpIn (lbc.getD ic 0) lac (dpOut lac lbc ic).2 ((ic : Int) * 2) jc).2.2.set ((jc : Int)).toNat X) → X = (dpIn (lbc.getD ic 0) lac (dpOut lac lbc ic).2 ((ic : Int) * 2) (jc + 1)).2.1 → IntsAre vs5 (dpIn (lbc.getD ic 0) lac (dpOut lac lbc ic).2 ((ic : Int) * 2) (jc + 1)).2.2 := fun X h ec => by rw [ds3, ← ec]; rwa [Int.toNat_natCast] at h
  have i6 := eX _ i5 (by rw [minIf, minIf, ds1, hd1, hd2, Int.toNat_natCast])
  clear eX
  k_steps
  · refine TP.next ((_, _), (_, _), (_, _)) (by assumption) (by assumption) (fun p hp => upd_old (hok4 p hp) (n4 p hp)) (by kst_all) ⟨by dsimp only; rw [ds2, Int.toNat_natCast], by dsimp only; rw [minIf, minIf, ds1, hd1, hd2, Int.toNat_natCast], .inr ?_, _, _, upd_mem, i6⟩
    dsimp only
    rw [minIf, minIf, hd1, hd2, Int.toNat_natCast, ← ds1]
    omega
  · (with_reducible rename ¬ _ < mnc => hn)
    refine TP.next ((_, _), (_, _), (mnc, _)) (by assumption) (by assumption) (fun p hp => upd_old (hok4 p hp) (n4 p hp)) (by kst_all) ⟨by dsimp only; rw [ds2, Int.toNat_natCast], by dsimp only; rw [minIf, minIf, ds1, hd1, hd2, Int.toNat_natCast], .inr ?_, _, _, upd_mem, i6⟩
    rw [minIf, minIf, hd1, hd2, Int.toNat_natCast, ← ds1] at hn
    dsimp only
    omega
theorem ctX2all (C : At w mean mg mb 2 dp un cs outer A₀ base h₀ L m news s.heap) (hdj : ∀ c ∈ r, c ∉ q) (hl : p.length + r.length + q.length ≤ 15) (hLo : ∀ c, c ∈ r ∨ c ∈ q → LoOk c) (hret : ∀ (t' : Tok) (h' : Heap) (tk' : Nat), Fr h₀ L h' m → News h₀ L h' news → Q (.int (levF r q) t') { s with heap := h', toks := tk' }) : ∀ (j : Nat) (tj : Tok) (d : Int) (td : Tok) (rs : Int) (trs : Tok) (mn : Int) (tm : Tok) (u4 : Str → Option Value) (nn4 : List (Addr × Obj)) (ok4 : List (Addr × Obj)) (h4 : Heap) (tk4 : Nat) (vs4 : List Value) (e4 : Nat), Bx (ctX2.1 j tj d td rs trs mn tm u4 nn4 ok4 h4 tk4 vs4 e4) := fun j tj d td rs trs mn tm u4 nn4 ok4 h4 tk4 vs4 e4 => pk_all (ne := ctX2ne) (P := fun v => Bx (ctX2.1 v.1 v.2.1 v.2.2.1 v.2.2.2.1 v.2.2.2.2.1 v.2.2.2.2.2.1 v.2.2.2.2.2.2.1 v.2.2.2.2.2.2.2.1 v.2.2.2.2.2.2.2.2.1 v.2.2.2.2.2.2.2.2.2.1 v.2.2.2.2.2.2.2.2.2.2.1 v.2.2.2.2.2.2.2.2.2.2.2.1 v.2.2.2.2.2.2.2.2.2.2.2.2.1 v.2.2.2.2.2.2.2.2.2.2.2.2.2.1 v.2.2.2.2.2.2.2.2.2.2.2.2.2.2)) (ctX3 C hdj hl hLo hret) (j, tj, d, td, rs, trs, mn, tm, u4, nn4, ok4, h4, tk4, vs4, e4)
theorem ctX1all (C : At w mean mg mb 2 dp un cs outer A₀ base h₀ L m news s.heap) (hdj : ∀ c ∈ r, c ∉ q) (hl : p.length + r.length + q.length ≤ 15) (hLo : ∀ c, c ∈ r ∨ c ∈ q → LoOk c) (hret : ∀ (t' : Tok) (h' : Heap) (tk' : Nat), Fr h₀ L h' m → News h₀ L h' news → Q (.int (levF r q) t') { s with heap := h', toks := tk' }) : ∀ (dw : Addr) (i : Nat) (t : Tok) (res : Int) (tr : Tok) (u3 : Str → Option Value) (nn3 : List (Addr × Obj)) (ok : List (Addr × Obj)) (h3 : Heap) (tk3 : Nat) (vs : List Value) (e : Nat), Bx (ctX1.1 dw i t res tr u3 nn3 ok h3 tk3 vs e) := fun dw i t res tr u3 nn3 ok h3 tk3 vs e => pk_all (ne := ctX1ne) (P := fun v => Bx (ctX1.1 v.1 v.2.1 v.2.2.1 v.2.2.2.1 v.2.2.2.2.1 v.2.2.2.2.2.1 v.2.2.2.2.2.2.1 v.2.2.2.2.2.2.2.1 v.2.2.2.2.2.2.2.2.1 v.2.2.2.2.2.2.2.2.2.1 v.2.2.2.2.2.2.2.2.2.2.1 v.2.2.2.2.2.2.2.2.2.2.2)) (ctX2.2 C hdj hl hLo hret (ctX2all C hdj hl hLo hret)) (dw, i, t, res, tr, u3, nn3, ok, h3, tk3, vs, e)
theorem ctBall (C : At w mean mg mb 2 dp un cs outer A₀ base h₀ L m news s.heap) (hdj : ∀ c ∈ r, c ∉ q) (hl : p.length + r.length + q.length ≤ 15) (hLo : ∀ c, c ∈ r ∨ c ∈ q → LoOk c) (hret : ∀ (t' : Tok) (h' : Heap) (tk' : Nat), Fr h₀ L h' m → News h₀ L h' news → Q (.int (levF r q) t') { s with heap := h', toks := tk' }) : ∀ (ya : Str) (yb : Str) (la : List Nat) (lb : List Nat) (ta9 : Tok) (tb9 : Tok) (u9 : Str → Option Value) (nn9 : List (Addr × Obj)) (h9 : Heap) (tk9 : Nat), Bx (ctB.1 ya yb la lb ta9 tb9 u9 nn9 h9 tk9) := fun ya yb la lb ta9 tb9 u9 nn9 h9 tk9 => pk_all (ne := ctBne) (P := fun v => Bx (ctB.1 v.1 v.2.1 v.2.2.1 v.2.2.2.1 v.2.2.2.2.1 v.2.2.2.2.2.1 v.2.2.2.2.2.2.1 v.2.2.2.2.2.2.2.1 v.2.2.2.2.2.2.2.2.1 v.2.2.2.2.2.2.2.2.2)) (ctX1.2 C hdj hl hLo hret (ctX1all C hdj hl hLo hret)) (ya, yb, la, lb, ta9, tb9, u9, nn9, h9, tk9)
theorem ctT : ctS w mean mg mb dp un gd cn cs a ccd cl outer A₀ base h₀ L m s Q E news p r q t u v := ⟨fun C hdj hl hLo hret => ctA.2 C hdj hl hLo hret (pk_all3 (ne := ned) (R := fun g0 L0 h0 => Bx (ctA.1 g0 L0 h0)) rfl rfl rfl (ctB.2 C hdj hl hLo hret (ctBall C hdj hl hLo hret)))⟩
theorem all : ∀ v : V0 × ((List Nat) × (List Nat) × (List Nat) × (Tok) × (Tok) × (Tok)), ctS v.1.w v.1.mean v.1.mg v.1.mb v.1.dp v.1.un v.1.gd v.1.cn v.1.cs v.1.a v.1.ccd v.1.cl v.1.outer v.1.A₀ v.1.base v.1.h₀ v.1.L v.1.m v.1.s v.1.Q v.1.E v.1.news v.2.1 v.2.2.1 v.2.2.2.1 v.2.2.2.2.1 v.2.2.2.2.2.1 v.2.2.2.2.2.2 := pk_all (ne := ne) (P := fun v => ctS v.1.w v.1.mean v.1.mg v.1.mb v.1.dp v.1.un v.1.gd v.1.cn v.1.cs v.1.a v.1.ccd v.1.cl v.1.outer v.1.A₀ v.1.base v.1.h₀ v.1.L v.1.m v.1.s v.1.Q v.1.E v.1.news v.2.1 v.2.2.1 v.2.2.2.1 v.2.2.2.2.1 v.2.2.2.2.2.1 v.2.2.2.2.2.2) ctT
end Zlev_ct
section
variable {w : World} {mean : ExcName → Option Value} {mg mb : Str → Option Value} {dp un : Nat} {gd : Option (List Code)} {cn : Str} {cs : Scope} {a : Addr} {ccd : Value} {cl : List (Str × Addr)} {outer : List Env} {A₀ : Around} {base h₀ : Heap} {L : Addr} {m : Str → Option Value} {s : Shared} {Q E : Value → Shared → Prop} {news : List (Addr × Obj)}
theorem lev_ct  (C : At w mean mg mb 2 dp un cs outer A₀ base h₀ L m news s.heap) {p r q : List Nat} {t u v : Tok} (hdj : ∀ c ∈ r, c ∉ q) (hl : p.length + r.length + q.length ≤ 15) (hLo : ∀ c, c ∈ r ∨ c ∈ q → LoOk c)
  (hret : ∀ (t' : Tok) (h' : Heap) (tk' : Nat), Fr h₀ L h' m → News h₀ L h' news → Q (.int (levF r q) t') { s with heap := h', toks := tk' }) :
  wpAny (model PySem.Challenge.rw_xe0048_01.row.prog w) (ktrTop dp un gd cn cs L a ccd cl outer) (call (.ref 199) [.str (mk (p ++ r)) t, .str (mk (p ++ q)) u, .int 99 v]) Q E s := by
  exact (Zlev_ct.all ⟨⟨w, mean, mg, mb, dp, un, gd, cn, cs, a, ccd, cl, outer, A₀, base, h₀, L, m, s, Q, E, news⟩, p, r, q, t, u, v⟩).out C hdj hl hLo hret
end
end Mine
end
theorem Mine.rstV2 : True := by
  w_top off
  trivial
section
open PySem PySem.W PyProof.Rows PySem.Calls PySem.Spec PyProof.V
set_option Elab.async false
set_option maxRecDepth 100000
set_option maxHeartbeats 1000000
namespace Mine
noncomputable def famF (ab : List (Nat × Nat)) : List (Nat × List Nat) := ab.foldl (fun f p => f ++ [(p.1, (f.lookup p.2).getD [] ++ [p.1])]) [(0, [])]
theorem famF_snoc (ab : List (Nat × Nat)) (p : Nat × Nat) : famF (ab ++ [p]) = famF ab ++ [(p.1, ((famF ab).lookup p.2).getD [] ++ [p.1])] := by
  unfold famF; rw [List.foldl_append]; rfl
noncomputable def nameF (l : List Nat) : Str := mk (l.map (96 + ·))
noncomputable def hostF (l : List Nat) : Str := mk (l.reverse.flatMap (fun k => [96 + k, 46]) ++ [108, 111, 99, 97, 108])
noncomputable def DictF (R : Value → List Nat → Prop) : List (Int × Value) → List (Nat × List Nat) → Prop
  | [], [] => True
  | (k, v) :: r, (p, l) :: s => k = (p : Int) ∧ R v l ∧ DictF R r s
  | _, _ => False
section
variable {R R' : Value → List Nat → Prop}
theorem DictF.len : ∀ {kvs : List (Int × Value)} {f : List (Nat × List Nat)}, DictF R kvs f → kvs.length = f.length
  | [], [], _ => rfl
  | (_, _) :: _, (_, _) :: _, h => by rw [List.length_cons, List.length_cons, h.2.2.len]
  | [], (_, _) :: _, h => h.elim
  | (_, _) :: _, [], h => h.elim
theorem DictF.mono (hR : ∀ v l, R v l → R' v l) : ∀ {kvs : List (Int × Value)} {f : List (Nat × List Nat)}, DictF R kvs f → DictF R' kvs f
  | [], [], _ => trivial
  | (_, _) :: _, (_, _) :: _, h => ⟨h.1, hR _ _ h.2.1, h.2.2.mono hR⟩
  | [], (_, _) :: _, h => h.elim
  | (_, _) :: _, [], h => h.elim
theorem DictF.snoc : ∀ {kvs : List (Int × Value)} {f : List (Nat × List Nat)}, DictF R kvs f → ∀ (p : Nat) (v : Value) (l : List Nat), R v l → DictF R (kvs ++ [((p : Int), v)]) (f ++ [(p, l)])
  | [], [], _, p, v, l, h => ⟨rfl, h, trivial⟩
  | (_, _) :: _, (_, _) :: _, h, p, v, l, hr => ⟨h.1, h.2.1, h.2.2.snoc p v l hr⟩
  | [], (_, _) :: _, h, _, _, _, _ => h.elim
  | (_, _) :: _, [], h, _, _, _, _ => h.elim
theorem DictF.get : ∀ {kvs : List (Int × Value)} {f : List (Nat × List Nat)}, DictF R kvs f → ∀ {p : Nat} {l : List Nat}, f.lookup p = some l → ∃ v, valueAt kvs (p : Int) = some v ∧ R v l
  | [], [], _, _, _, h => by simp at h
  | (k, v) :: r, (x, y) :: s, ⟨h1, h2, h3⟩, p, l, h => by
    subst h1
    rw [List.lookup_cons] at h
    unfold valueAt
    rw [List.find?_cons]
    by_cases e : p = x
    · subst e
      have e1 : (p == p) = true := by simp
      rw [e1] at h
      dsimp only at h
      cases h
      refine ⟨v, ?_, h2⟩
      simp
    · have e1 : (p == x) = false := by simpa using e
      rw [e1] at h
      have e2 : decide ((x : Int) = (p : Int)) = false := by simp; (first | lia | omega)
      rw [e2]
      exact h3.get h
  | [], (_, _) :: _, h, _, _, _ => h.elim
  | (_, _) :: _, [], h, _, _, _ => h.elim
theorem DictF.new {kvs : List (Int × Value)} {f : List (Nat × List Nat)} (h : DictF R kvs f) {a : Nat} (hn : ∀ p ∈ f, p.1 ≠ a) (v : Value) : stored kvs (a : Int) v = kvs ++ [((a : Int), v)] := by
  have : ∀ {kvs : List (Int × Value)} {f : List (Nat × List Nat)}, DictF R kvs f → (∀ p ∈ f, p.1 ≠ a) → kvs.any (fun kv => decide (kv.1 = (a : Int))) = false := by
    intro kvs
    induction kvs with
    | nil => intro f _ _; rfl
    | cons p r ih =>
      obtain ⟨k, v⟩ := p
      intro f h hn
      cases f with
      | nil => exact h.elim
      | cons q s =>
        refine nmG fun gG9 kG9 => ?_
        obtain ⟨x, y⟩ := q
        obtain ⟨h1, _, h3⟩ := h
        refine kG9 ?_
        clear kG9 gG9
        have h4 := hn _ (.head _)
        rw [List.any_cons, ih h3 fun p hp => hn p (.tail _ hp)]
        subst h1
        simp at h4 ⊢
        (first | lia | omega)
  unfold stored
  rw [this h hn]
  rfl
end
noncomputable def intsN (l : List Nat) : List Int := l.map fun (k : Nat) => (k : Int)
noncomputable def RK (nn : List (Addr × Obj)) (v : Value) (l : List Nat) : Prop := ∃ a vs e, v = .ref a ∧ (a, ({ cls := .type "list", data := .seq (List.toArray vs) e } : Obj)) ∈ nn ∧ IntsAre vs (intsN l)
noncomputable def RN (v : Value) (l : List Nat) : Prop := ∃ t, v = .str (nameF l) t
noncomputable def RH (v : Value) (l : List Nat) : Prop := ∃ t, v = .str (hostF l) t
/-- the parents' table: keys rise, a parent stands ahead of its child -/
inductive AbOk : Nat → List (Nat × Nat) → Prop
  | nil : AbOk 0 []
  | skip {i : Nat} {ab : List (Nat × Nat)} : AbOk i ab → AbOk (i + 1) ab
  | add {i q : Nat} {ab : List (Nat × Nat)} : AbOk i ab → (q = 0 ∨ ∃ v, (q, v) ∈ ab) → AbOk (i + 1) (ab ++ [(i + 1, q)])
structure FamIn (w : World) (nn : List (Addr × Obj)) (T : Addr) (f : List (Nat × List Nat)) : Prop where
  ex : ∃ dk dn dh e ok on oh kk kn kh, (T, ({ cls := .type "tuple", data := .seq [.ref dk, .ref dn, .ref dh].toArray e } : Obj)) ∈ nn ∧
    (dk, ok) ∈ nn ∧ ok.IsDictOf (intKind PySem.Challenge.rw_xe0048_01.row.prog w) kk ∧ DictF (RK nn) kk f ∧
    (dn, on) ∈ nn ∧ on.IsDictOf (intKind PySem.Challenge.rw_xe0048_01.row.prog w) kn ∧ DictF RN kn f ∧
    (dh, oh) ∈ nn ∧ oh.IsDictOf (intKind PySem.Challenge.rw_xe0048_01.row.prog w) kh ∧ DictF RH kh f
theorem lookup_key {f : List (Nat × List Nat)} {q : Nat} (h : ∃ r ∈ f, r.1 = q) : ∃ l, f.lookup q = some l := by
  induction f with
  | nil => obtain ⟨r, hr, _⟩ := h; cases hr
  | cons x s ih =>
    obtain ⟨a, b⟩ := x
    rw [List.lookup_cons]
    by_cases e : q = a
    · subst e; simp
    · have e1 : (q == a) = false := by simpa using e
      rw [e1]
      refine nmG fun gG9 kG9 => ?_
      obtain ⟨r, hr, h2⟩ := h
      refine kG9 ?_
      clear kG9 gG9
      rcases mcs hr with rfl | hr
      · exact absurd h2.symm e
      · exact ih ⟨r, hr, h2⟩
theorem famF_keys (ab : List (Nat × Nat)) : (famF ab).map (·.1) = 0 :: ab.map (·.1) := by
  have : ∀ (ab : List (Nat × Nat)) (f : List (Nat × List Nat)), (ab.foldl (fun f p => f ++ [(p.1, (f.lookup p.2).getD [] ++ [p.1])]) f).map (·.1) = f.map (·.1) ++ ab.map (·.1) := by
    intro ab
    induction ab with
    | nil => intro f; simp
    | cons p r ih => intro f; rw [List.foldl_cons, ih]; simp
  exact this ab _
theorem famF_mem {ab : List (Nat × Nat)} {q : Nat} (h : q = 0 ∨ ∃ v, (q, v) ∈ ab) : ∃ l, (famF ab).lookup q = some l := by
  refine lookup_key ?_
  have : q ∈ (famF ab).map (·.1) := by
    rw [famF_keys]
    rcases h with rfl | ⟨v, hv⟩
    · exact .head _
    · exact .tail _ (List.mem_map.mpr ⟨_, hv, rfl⟩)
  refine nmG fun gG9 kG9 => ?_
  obtain ⟨r, hr, e⟩ := List.mem_map.mp this
  refine kG9 ?_
  clear kG9 gG9
  exact ⟨r, hr, e⟩
structure AbGood (n : Nat) (ab : List (Nat × Nat)) : Prop where
  at_ : ∀ i p q, ab[i]? = some (p, q) → 1 ≤ p ∧ p ≤ n ∧ (∃ l, (famF (ab.take i)).lookup q = some l) ∧ (∀ r ∈ famF (ab.take i), r.1 < p ∧ r.2.length ≤ r.1)
  fl : ∀ r ∈ famF ab, r.2.length ≤ r.1
  bd : ∀ p ∈ ab, p.1 ≤ n
  len : ab.length ≤ n
theorem mem_of_lookup {f : List (Nat × List Nat)} {q : Nat} {l : List Nat} (h : f.lookup q = some l) : (q, l) ∈ f := by
  induction f with
  | nil => simp at h
  | cons x s ih =>
    obtain ⟨a, b⟩ := x
    rw [List.lookup_cons] at h
    by_cases e : q = a
    · subst e
      have e1 : (q == q) = true := by simp
      rw [e1] at h
      cases h
      exact .head _
    · have e1 : (q == a) = false := by simpa using e
      rw [e1] at h
      exact .tail _ (ih h)
theorem AbOk.good {n : Nat} {ab : List (Nat × Nat)} (h : AbOk n ab) : AbGood n ab := by
  induction h with
  | nil => exact ⟨by simp, by simp [famF], by simp, by simp⟩
  | skip _ ih => exact ⟨fun i p q e => by obtain ⟨a, b, c⟩ := ih.at_ i p q e; exact ⟨a, by (first | lia | omega), c⟩, ih.fl, fun p hp => by have := ih.bd p hp; (first | lia | omega), by have := ih.len; (first | lia | omega)⟩
  | @add i q ab _ hq ih =>
    have hlt : ∀ r ∈ famF ab, r.1 ≤ i := fun r hr => by
      have : r.1 ∈ (famF ab).map (·.1) := List.mem_map.mpr ⟨r, hr, rfl⟩
      rw [famF_keys] at this
      rcases List.mem_cons.mp this with e | e
      · (first | lia | omega)
      · refine nmG fun gG9 kG9 => ?_
        obtain ⟨x, hx, e2⟩ := List.mem_map.mp e
        refine kG9 ?_
        clear kG9 gG9
        have := ih.bd x hx
        (first | lia | omega)
    obtain ⟨lq, hlq⟩ := famF_mem hq
    have hmq := mem_of_lookup hlq
    have hml := ih.fl _ hmq
    have hmk := hlt _ hmq
    refine ⟨fun j p r e => ?_, fun r hr => ?_, fun p hp => ?_, by have := ih.len; rw [List.length_append]; simp; (first | lia | omega)⟩
    · by_cases hj : j < ab.length
      · rw [List.getElem?_append_left hj] at e
        refine nmG fun gG9 kG9 => ?_
        obtain ⟨a, b, c⟩ := ih.at_ j p r e
        refine kG9 ?_
        clear kG9 gG9
        rw [List.take_append_of_le_length (by (first | lia | omega))]
        exact ⟨a, by (first | lia | omega), c⟩
      · have hj2 : j = ab.length := by
          have := (List.getElem?_eq_some_iff.mp e).1
          rw [List.length_append] at this
          simp at this
          (first | lia | omega)
        subst hj2
        rw [List.getElem?_append_right (Nat.le_refl _)] at e
        simp at e
        obtain ⟨rfl, rfl⟩ := e
        rw [List.take_left' rfl]
        exact ⟨by (first | lia | omega), Nat.le_refl _, famF_mem hq, fun r hr => ⟨by have := hlt r hr; (first | lia | omega), ih.fl r hr⟩⟩
    · rw [famF_snoc, hlq] at hr
      rcases List.mem_append.mp hr with hr | hr
      · exact ih.fl r hr
      · rw [List.mem_singleton.mp hr]
        dsimp only at hml hmk ⊢
        simp
        (first | lia | omega)
    · rcases List.mem_append.mp hp with hp | hp
      · have := ih.bd p hp; (first | lia | omega)
      · rw [List.mem_singleton.mp hp]; exact Nat.le_refl _
theorem AbIs.at_ : ∀ {kvs : List (Int × Value)} {ab : List (Nat × Nat)}, AbIs kvs ab → ∀ {i : Nat} {k : Int} {y : Value}, kvs[i]? = some (k, y) → ∃ p q t, ab[i]? = some (p, q) ∧ k = (p : Int) ∧ y = .int (q : Int) t
  | [], _, _, i, _, _, h => by simp at h
  | (a, b) :: r, (c, d) :: l, ⟨h1, ⟨t, h2⟩, h3⟩, 0, k, y, h => by
    simp at h
    obtain ⟨rfl, rfl⟩ := h
    exact ⟨c, d, t, rfl, h1, h2⟩
  | (a, b) :: r, (c, d) :: l, ⟨_, _, h3⟩, i + 1, k, y, h => h3.at_ (i := i) (by simpa using h)
  | _ :: _, [], h, _, _, _, _ => h.elim
theorem row_last {ps : List (List Nat × Nat)} (h : LOk 4 ps) {k : Nat} (h1 : 1 ≤ k) (h5 : k ≤ 5) : Txt.item (rowAt ps k) (-1) = ⟨#[96 + k]⟩ := by
  obtain ⟨j, rfl⟩ : ∃ j, k = j + 1 := ⟨k - 1, by (first | lia | omega)⟩
  rw [row_succ h (by (first | lia | omega)), item_last_right1]
  have e : 97 + j = 96 + (j + 1) := by (first | lia | omega)
  rw [e]
theorem row_pos {ps : List (List Nat × Nat)} (h : LOk 4 ps) {k : Nat} (h1 : 1 ≤ k) (h5 : k ≤ 5) : 1 ≤ (rowAt ps k).length := by
  obtain ⟨j, rfl⟩ : ∃ j, k = j + 1 := ⟨k - 1, by (first | lia | omega)⟩
  rw [row_succ h (by (first | lia | omega))]
  simp [PySem.Str.length, PySem.Str.cps_append]
theorem rowAt_get (ps : List (List Nat × Nat)) (p : Nat) : (rowsF ps).getD ((p : Int)).toNat PySem.Str.empty = rowAt ps p := by rw [Int.toNat_natCast]; rfl
theorem name_snoc (l : List Nat) (p : Nat) : nameF l ++ (⟨#[96 + p]⟩ : Str) = nameF (l ++ [p]) := by
  unfold nameF
  rw [show (⟨#[96 + p]⟩ : Str) = mk [96 + p] from rfl, mk_append]
  simp
theorem flat2 (l : List Nat) : (l.flatMap (fun k => [96 + k, 46])).length = 2 * l.length := by
  induction l with
  | nil => rfl
  | cons a r ih => rw [List.flatMap_cons, List.length_append, ih]; simp; (first | lia | omega)
theorem hostF_len (l : List Nat) : (hostF l).length = 2 * l.length + 5 := by
  unfold hostF
  rw [mk_len, List.length_append, flat2, List.length_reverse]
  rfl
theorem host_snoc (l : List Nat) (p : Nat) : (⟨#[96 + p]⟩ : Str) ++ PySem.Str.ofString "." ++ hostF l = hostF (l ++ [p]) := by
  unfold hostF
  rw [show (⟨#[96 + p]⟩ : Str) = mk [96 + p] from rfl, show PySem.Str.ofString "." = mk [46] from rfl, mk_append, mk_append]
  simp
local macro_rules | `(tactic| k_mem) => `(tactic| first | assumption | exact List.Mem.head _ | exact upd_mem | (refine List.Mem.tail _ ?_; k_mem) | (refine upd_old ?_ ?_; (k_mem); (first | assumption | (refine Ne.symm ?_; assumption))))
theorem fam_names {h₀ h : Heap} {L a1 a2 a3 a4 : Addr} {o1 o2 o3 o4 : Obj} {r : List (Addr × Obj)} (_ : News h₀ L h ((a1, o1) :: (a2, o2) :: (a3, o3) :: (a4, o4) :: r)) : ∃ dk dn dh, dk = a4 ∧ dn = a2 ∧ dh = a1 := ⟨_, _, _, rfl, rfl, rfl⟩
theorem news_front3 {h₀ h : Heap} {L a b c : Addr} {nn : List (Addr × Obj)} {oa ob oc : Obj} (N : News h₀ L h nn) (ha : (a, oa) ∈ nn) (hb : (b, ob) ∈ nn) (hc : (c, oc) ∈ nn) :
    ∃ rest, News h₀ L h ((a, oa) :: (b, ob) :: (c, oc) :: rest) ∧ (∀ p ∈ rest, p.1 ≠ a ∧ p.1 ≠ b ∧ p.1 ≠ c) ∧ (∀ p ∈ nn, p.1 ≠ a → p.1 ≠ b → p.1 ≠ c → p ∈ rest) := by
  refine ⟨nn.filter fun p => p.1 != a && p.1 != b && p.1 != c, fun p hp => ?_, fun p hp => ?_, fun p hp h1 h2 h3 => List.mem_filter.mpr ⟨hp, by simp [h1, h2, h3]⟩⟩
  · rcases mcs hp with rfl | hp
    · exact N _ ha
    rcases mcs hp with rfl | hp
    · exact N _ hb
    rcases mcs hp with rfl | hp
    · exact N _ hc
    exact N _ (List.mem_filter.mp hp).1
  · have h := (List.mem_filter.mp hp).2
    simp only [Bool.and_eq_true, bne_iff_ne, ne_eq] at h
    exact ⟨h.1.1, h.1.2, h.2⟩
theorem mitem_last {prog : Program} {w : World} {A : Around} {E : Value → Shared → Prop} {s : Shared} {value slice : Expr} {x y : Str} {t u : Tok} {Q : Value → Shared → Prop} (hp : 1 ≤ x.length) (hl : x.length ≤ 1000) (e : Txt.item x (-1) = y) (h : ∀ t k, Q (.str y t) { s with toks := k })
    (hs : subscripted slice false (.str x t) (.int (-1) u) = operate [.str x t, .int (-1) u] (getItem (.str x t) (.int (-1) u)))
    (ht : ∀ r, letTemporaryGo value (.str x t) r = pure ()) : wpAny (model prog w) A (subscriptTail value slice (.str x t) (.int (-1) u)) Q E s :=
  item_str (by decide) (by (first | lia | omega)) (by (first | lia | omega)) (fun _ => by rw [e]; exact h _ _) hs ht
section
variable {w : World} {mean : ExcName → Option Value} {mg mb : Str → Option Value} {dp un : Nat} {gd : Option (List Code)} {cn : Str} {cs : Scope} {a : Addr} {ccd : Value} {cl : List (Str × Addr)} {outer : List Env} {A₀ : Around} {base h₀ : Heap} {L : Addr} {m : Str → Option Value} {s : Shared} {Q E : Value → Shared → Prop} {news : List (Addr × Obj)}
end
namespace Zfam_ct
noncomputable def ctS (w : World) (mean : ExcName → Option Value) (mg : Str → Option Value) (mb : Str → Option Value) (dp : Nat) (un : Nat) (gd : Option (List Code)) (cn : Str) (cs : Scope) (a : Addr) (ccd : Value) (cl : List (Str × Addr)) (outer : List Env) (A₀ : Around) (base : Heap) (h₀ : Heap) (L : Addr) (m : Str → Option Value) (s : Shared) (Q : Value → Shared → Prop) (E : Value → Shared → Prop) (news : List (Addr × Obj)) (pg : Addr) (dd : Addr) (pv : List Value) (pe : Nat) (ps : List (List Nat × Nat)) (od : Obj) (kvs : List (Int × Value)) (ab : List (Nat × Nat)) : Prop := Bx (
  ∀ (C : At w mean mg mb 1 dp un cs outer A₀ base h₀ L m news s.heap) (hO : LOk 4 ps) (mp : (pg, ({ cls := .type "list", data := .seq pv.toArray pe } : Obj)) ∈ news) (hS : StrsAre pv (rowsF ps)) (md : (dd, od) ∈ news) (hsm : (dd == sysModules) = false) (hdi : od.IsDictOf (intKind PySem.Challenge.rw_xe0048_01.row.prog w) kvs) (hab : AbIs kvs ab) (hok : AbOk 5 ab) (hret : ∀ (T : Addr) (nn : List (Addr × Obj)) (h' : Heap) (tk' : Nat), FamIn w nn T (famF ab) → (∀ p ∈ news, p ∈ nn) → Fr h₀ L h' m → News h₀ L h' nn → Q (.ref T) { s with heap := h', toks := tk' }),
  wpAny (model PySem.Challenge.rw_xe0048_01.row.prog w) (ktrTop dp un gd cn cs L a ccd cl outer) (call (.ref 247) [.ref pg, .ref dd]) Q E s)
theorem ne : Nonempty (V0 × ((Addr) × (Addr) × (List Value) × (Nat) × (List (List Nat × Nat)) × (Obj) × (List (Int × Value)) × (List (Nat × Nat)))) := ne_V ⟨(default, default, default, default, default, default, default, default)⟩
noncomputable def ctc : V0 × ((Addr) × (Addr) × (List Value) × (Nat) × (List (List Nat × Nat)) × (Obj) × (List (Int × Value)) × (List (Nat × Nat))) := pk ne fun v => ctS v.1.w v.1.mean v.1.mg v.1.mb v.1.dp v.1.un v.1.gd v.1.cn v.1.cs v.1.a v.1.ccd v.1.cl v.1.outer v.1.A₀ v.1.base v.1.h₀ v.1.L v.1.m v.1.s v.1.Q v.1.E v.1.news v.2.1 v.2.2.1 v.2.2.2.1 v.2.2.2.2.1 v.2.2.2.2.2.1 v.2.2.2.2.2.2.1 v.2.2.2.2.2.2.2.1 v.2.2.2.2.2.2.2.2
noncomputable def w : World := ctc.1.w
noncomputable def mean : ExcName → Option Value := ctc.1.mean
noncomputable def mg : Str → Option Value := ctc.1.mg
noncomputable def mb : Str → Option Value := ctc.1.mb
noncomputable def dp : Nat := ctc.1.dp
noncomputable def un : Nat := ctc.1.un
noncomputable def gd : Option (List Code) := ctc.1.gd
noncomputable def cn : Str := ctc.1.cn
noncomputable def cs : Scope := ctc.1.cs
noncomputable def a : Addr := ctc.1.a
noncomputable def ccd : Value := ctc.1.ccd
noncomputable def cl : List (Str × Addr) := ctc.1.cl
noncomputable def outer : List Env := ctc.1.outer
noncomputable def A₀ : Around := ctc.1.A₀
noncomputable def base : Heap := ctc.1.base
noncomputable def h₀ : Heap := ctc.1.h₀
noncomputable def L : Addr := ctc.1.L
noncomputable def m : Str → Option Value := ctc.1.m
noncomputable def s : Shared := ctc.1.s
noncomputable def Q : Value → Shared → Prop := ctc.1.Q
noncomputable def E : Value → Shared → Prop := ctc.1.E
noncomputable def news : List (Addr × Obj) := ctc.1.news
noncomputable def pg : Addr := ctc.2.1
noncomputable def dd : Addr := ctc.2.2.1
noncomputable def pv : List Value := ctc.2.2.2.1
noncomputable def pe : Nat := ctc.2.2.2.2.1
noncomputable def ps : List (List Nat × Nat) := ctc.2.2.2.2.2.1
noncomputable def od : Obj := ctc.2.2.2.2.2.2.1
noncomputable def kvs : List (Int × Value) := ctc.2.2.2.2.2.2.2.1
noncomputable def ab : List (Nat × Nat) := ctc.2.2.2.2.2.2.2.2
noncomputable def ctA : (ctR : (Heap) → (Addr) → (Heap) → Prop) ×' (∀ (C : At w mean mg mb 1 dp un cs outer A₀ base h₀ L m news s.heap) (hO : LOk 4 ps) (mp : (pg, ({ cls := .type "list", data := .seq pv.toArray pe } : Obj)) ∈ news) (hS : StrsAre pv (rowsF ps)) (md : (dd, od) ∈ news) (hsm : (dd == sysModules) = false) (hdi : od.IsDictOf (intKind PySem.Challenge.rw_xe0048_01.row.prog w) kvs) (hab : AbIs kvs ab) (hok : AbOk 5 ab) (hret : ∀ (T : Addr) (nn : List (Addr × Obj)) (h' : Heap) (tk' : Nat), FamIn w nn T (famF ab) → (∀ p ∈ news, p ∈ nn) → Fr h₀ L h' m → News h₀ L h' nn → Q (.ref T) { s with heap := h', toks := tk' }), (∀ g0 L0 h0, Bx (ctR g0 L0 h0)) → wpAny (model PySem.Challenge.rw_xe0048_01.row.prog w) (ktrTop dp un gd cn cs L a ccd cl outer) (call (.ref 247) [.ref pg, .ref dd]) Q E s) := ⟨_, by
  intro C hO mp hS md hsm hdi hab hok hret ctH
  k_with_none
  refine nmG fun gG9 kG9 => ?_
  obtain ⟨B, F, X, N, T, kf, hd, hu⟩ := C
  refine kG9 ?_
  clear kG9 gG9
  revert X
  k_fill
  intro X
  refine wpAny_call ?_
  k_dflt (refine' code_def ?k1 ?k2 ?k3 ?k4 ?k5 ?kA ?kF ?kK ?k6 ?k7 ?k8 ?k9 ?kB ?_ ?c2 ?c3 ?c4 ?c5; (case kA => exact rfl); (case kF => exact rfl); (case kK => assumption); (case k1 => k_asm); (case k2 => k_asm); (case k3 => k_asm); (case k4 => k_asm); (case k5 => k_asm); (case k6 => k_is); (case k7 => k_is); (case k8 => ktr_room); (case k9 => exact BindsTo.of_eq rfl); (case c5 => decide); (case kB => exact locs rfl); (case c2 => exact rfl); (case c3 => exact rfl); (case c4 => exact rfl); k_whole; exact fun g0 L0 h0 => (ctH g0 L0 h0).out)⟩
theorem ned : Nonempty ((Heap) × (Addr) × (Heap)) := ⟨(default, default, default)⟩
noncomputable def ctd := pk ned fun v => Bx (ctA.1 v.1 v.2.1 v.2.2)
noncomputable def g0 : Heap := ctd.1
noncomputable def L0 : Addr := ctd.2.1
noncomputable def h0 : Heap := ctd.2.2
noncomputable def ctB : (ctR : (Addr) → (Addr) → (Addr) → (Nat) → (Str → Option Value) → (List (Addr × Obj)) → (List (Addr × Obj)) → (Heap) → (Nat) → (Obj) → (Obj) → (Obj) → (List (Int × Value)) → (List (Int × Value)) → (List (Int × Value)) → (Tok) → (Nat) → (Nat) → (Tok) → (List Nat) → (List (Addr × Obj)) → (Tok) → (Addr) → (List Value) → (Nat) → (Tok) → (Tok) → Prop) ×' (∀ (C : At w mean mg mb 1 dp un cs outer A₀ base h₀ L m news s.heap) (hO : LOk 4 ps) (mp : (pg, ({ cls := .type "list", data := .seq pv.toArray pe } : Obj)) ∈ news) (hS : StrsAre pv (rowsF ps)) (md : (dd, od) ∈ news) (hsm : (dd == sysModules) = false) (hdi : od.IsDictOf (intKind PySem.Challenge.rw_xe0048_01.row.prog w) kvs) (hab : AbIs kvs ab) (hok : AbOk 5 ab) (hret : ∀ (T : Addr) (nn : List (Addr × Obj)) (h' : Heap) (tk' : Nat), FamIn w nn T (famF ab) → (∀ p ∈ news, p ∈ nn) → Fr h₀ L h' m → News h₀ L h' nn → Q (.ref T) { s with heap := h', toks := tk' }), (∀ dk dn dh i u nn ok9 h tk ok on oh kk kn kh t p q tq lq R tq9 ak vks ek9 tn9 th9, Bx (ctR dk dn dh i u nn ok9 h tk ok on oh kk kn kh t p q tq lq R tq9 ak vks ek9 tn9 th9)) → Bx (ctA.1 g0 L0 h0)) := ⟨_, by
  intro C hO mp hS md hsm hdi hab hok hret ctH
  refine ⟨?_⟩
  dsimp only [ctA]
  k_with_none
  k_with "subscriptTail" => (((with_reducible show wpAny _ _ (subscriptTail _ _ (Value.ref _) (Value.int _ _)) _ _ _); (k_dflt (refine' mitem_strsE ?c1.«_@»._hyg ?c2.«_@»._hyg ?c3.«_@»._hyg ?c4.«_@»._hyg ?c5.«_@»._hyg ?c6.«_@»._hyg ?c7.«_@»._hyg ?_ ?c9.«_@»._hyg; (case c1 => k_asm); (case c2 => k_mem); (case c3 => assumption); (case c4 => (first | lia | omega)); (case c5 => (rw [rowsF_len]; (first | lia | omega))); (case c6 => (rw [rowsF_len]; (first | lia | omega))); (case c7 => exact rowAt_get _ _); (case c9 => with_unfolding_all rfl))); intro tz9))
  k_with "subscriptTail" => (((with_reducible show wpAny _ _ (subscriptTail _ _ (Value.ref _) (Value.int _ _)) _ _ _); (k_dflt (refine' kda_item (knd := PySem.intKind _ _) ?c1.«_@»._hyg ?c2.«_@»._hyg ?c3.«_@»._hyg ?c4.«_@»._hyg ?c5.«_@»._hyg ?_ ?c7.«_@»._hyg ?c8.«_@»._hyg; (case c1 => k_asm); (case c2 => k_mem); (case c3 => assumption); (case c4 => exact intKind_is _ _ _ _); (case c5 => assumption); (case c7 => with_unfolding_all rfl); (case c8 => (intro _; with_unfolding_all rfl))))))
  k_with "subscriptTail" => (((with_reducible show wpAny _ _ (subscriptTail _ _ (Value.str _ _) (Value.int (-1) _)) _ _ _); (k_dflt (refine' mitem_last ?c1.«_@»._hyg ?c2.«_@»._hyg ?c3.«_@»._hyg ?_ ?c4.«_@»._hyg ?c5.«_@»._hyg; (case c1 => with_reducible assumption); (case c2 => (first | lia | omega)); (case c3 => with_reducible assumption); (case c4 => with_unfolding_all rfl); (case c5 => (intro _; with_unfolding_all rfl)))); intro _ _))
  k_with "binaryOp Add str str" => ((k_dflt (refine' madds ?a.«_@»._hyg ?b.«_@»._hyg ?_; (case a => first | assumption | decide | (first | lia | omega)); (case b => first | assumption | decide | (first | lia | omega))); intro _ _))
  k_with "newList" => ((k_here; k_dflt (refine' newList_K ?k1.«_@»._hyg ?k2.«_@»._hyg ?_; (case k1 => k_asm); (case k2 => k_asm); k_whole); intro al h'z9 F'z9 N'z9 hal; (have l1z9 := hal); (try k_lt l1z9)))
  k_with "setItem ref int" => (refine hold ?_)
  k_with "binaryOp Add ref ref" => (refine hold ?_)
  k_with "exec For Name Name cons nil" => ((k_here; (rename Fr _ _ _ _ => lF'z9); (with_unfolding_all refine' For_invVF lF'z9 ?k1.«_@»._hyg ?k2.«_@»._hyg ?_; (case k1 => exact rfl); (case k2 => exact rfl); k_whole)))
  k_with "pyIter ref" => (refine hold ?_)
  refine nmG fun gG9 kG9 => ?_
  obtain ⟨B, F, X, N, T, kf, hd, hu⟩ := C
  refine kG9 ?_
  clear kG9 gG9
  revert X
  k_fill
  intro X
  intro FG' F' N' B' X' T'
  (try dsimp only); (try k_lift B'); (try k_fold)
  k_steps
  unfold Hold
  (with_reducible rename News _ _ _ ((_, _) :: _) => N1)
  (with_reducible rename ∀ p ∈ news, p.1 < _ => lw0)
  (with_reducible rename _ ∧ AllLt _ news => lw1)
  (with_reducible rename _ ∧ _ ∧ AllLt _ news => lwn)
  (with_reducible rename _ ∧ _ ∧ _ ∧ AllLt _ news => lwh)
  refine nmG fun gG9 kG9 => ?_
  refine ex3 (fam_names N1) ?_
  intro dk dn dh y9w1
  refine an3 (y9w1) ?_
  intro eqk eqn eqh
  clear y9w1
  have z1 : dn ≠ dk := by rw [eqk, eqn]; exact Nat.ne_of_gt lwn.2.1
  have z2 : dh ≠ dn := by rw [eqh, eqn]; exact Nat.ne_of_gt lwh.1
  have z3 : dh ≠ dk := by rw [eqh, eqk]; exact Nat.ne_of_gt lwh.2.2.1
  have w1 : ∀ p ∈ news, p.1 ≠ dk := fun p hp => by rw [eqk]; exact Nat.ne_of_lt (lw0 p hp)
  have w2 : ∀ p ∈ news, p.1 ≠ dn := fun p hp => by rw [eqn]; exact Nat.ne_of_lt (allLt_mem lwn.2.2 p hp)
  have w3 : ∀ p ∈ news, p.1 ≠ dh := fun p hp => by rw [eqh]; exact Nat.ne_of_lt (allLt_mem lwh.2.2.2 p hp)
  have hgood := hok.good
  have mdd1 := N1 _ (.tail _ (.tail _ (.tail _ (.tail _ md))))
  obtain ⟨ep, hDat⟩ := (Heap.dictOf_iff.mpr ⟨od, mdd1.1, hdi⟩).dictAt
  refine kG9 ?_
  clear kG9 gG9
  have hkl := hab.len
  (with_unfolding_all refine' mdict (knd := intKind _ w) (d := dd) (kvs := kvs) (ep := ep) news (fun (_ : Unit) => [(("page" : Str), .ref pg), (("above" : Str), .ref dd), (("kin" : Str), .ref dk), (("names" : Str), .ref dn), (("hosts" : Str), .ref dh)]) (fun i _ n => ∃ ok on oh kk kn kh, (dk, ok) ∈ n ∧ ok.IsDictOf (intKind PySem.Challenge.rw_xe0048_01.row.prog w) kk ∧ DictF (RK n) kk (famF (ab.take i)) ∧ (dn, on) ∈ n ∧ on.IsDictOf (intKind PySem.Challenge.rw_xe0048_01.row.prog w) kn ∧ DictF RN kn (famF (ab.take i)) ∧ (dh, oh) ∈ n ∧ oh.IsDictOf (intKind PySem.Challenge.rw_xe0048_01.row.prog w) kh ∧ DictF RH kh (famF (ab.take i))) () ?hh hsm hDat ?hdL ?mo ?kp ?F ?N ?hk ?hj ?turn ?done ?hx)
  case F => k_asm
  case N => exact N1
  case hk => rw [eqk, eqn, eqh]; kst_all
  case hh => rfl
  case hdL => exact mdd1.2.1
  case kp => exact fun p hp => .tail _ (.tail _ (.tail _ (.tail _ hp)))
  case hx => exact fun _ => rfl
  case mo =>
    intro i c n n' hs hz9
    refine nmG fun gG9 kG9 => ?_
    refine ex6 (hz9) ?_
    intro ok on oh kk kn kh y9w1
    refine an9 (y9w1) ?_
    intro m1 i1 a1 m2 i2 a2 m3 i3 a3
    clear y9w1
    try clear hz9
    refine kG9 ?_
    clear kG9 gG9
    refine (exi6 ok on oh kk kn kh ⟨hs _ m1 (.inr (by simp [dict_cls i1])), i1, a1.mono ?_, hs _ m2 (.inr (by simp [dict_cls i2])), i2, a2, hs _ m3 (.inr (by simp [dict_cls i3])), i3, a3⟩)
    intro v l hz9
    refine nmG fun gG9 kG9 => ?_
    refine ex3 (hz9) ?_
    intro a vs e y9w1
    refine an3 (y9w1) ?_
    intro h1 h2 h3
    clear y9w1
    try clear hz9
    refine kG9 ?_
    clear kG9 gG9
    exact ⟨a, vs, e, h1, hs _ h2 (.inr (by simp)), h3⟩
  case hj => rw [eqk, eqn, eqh]; exact (exi6 _ _ _ [(0, _)] [(0, _)] [(0, _)] ⟨.tail _ (.tail _ (.tail _ (.head _))), by assumption, ⟨rfl, ⟨_, [], _, rfl, .tail _ (.tail _ (.head _)), .nil⟩, trivial⟩, .tail _ (.head _), by assumption, ⟨rfl, ⟨_, rfl⟩, trivial⟩, .head _, by assumption, ⟨rfl, ⟨_, rfl⟩, trivial⟩⟩)
  case turn =>
    intro i v k y c u nn ok9 h tk hiv hkv hko hok9 hok2 hz9
    refine nmG fun gG9 kG9 => ?_
    refine ex6 (hz9) ?_
    intro ok on oh kk kn kh y9w1
    refine an9 (y9w1) ?_
    intro m1 i1 a1 m2 i2 a2 m3 i3 a3
    clear y9w1
    try clear hz9
    refine kG9 ?_
    clear kG9 gG9
    intro F N
    refine nmG fun gG9 kG9 => ?_
    obtain ⟨t, rfl⟩ := Value.isInt_shape hkv
    refine ex3 (hab.at_ hiv) ?_
    intro p q tq y9w1
    refine an3 (y9w1) ?_
    intro hpq y9z2 y9z4
    clear y9w1
    subst y9z2
    subst y9z4
    refine an4 (hgood.at_ i p q hpq) ?_
    intro g1 g2 y9z1 g4
    obtain ⟨lq, hlq⟩ := y9z1
    dsimp only [kstB] at F
    obtain ⟨R, N3, u1, u2⟩ := news_front3 N m1 m2 m3
    have mdR : (dd, od) ∈ R := u2 _ (hok9 _ (hko _ md)) (w1 _ md) (w2 _ md) (w3 _ md)
    have mpR := u2 _ (hok9 _ (hko _ mp)) (w1 _ mp) (w2 _ mp) (w3 _ mp)
    have hnd : (ab.map fun p => (p.1 : Int)).Nodup := by
      obtain ⟨_, _, _, _, _, _, h6⟩ := hdi
      rw [hab.keys] at h6
      exact h6
    obtain ⟨tq9, hvd⟩ := hab.get (lookup_mem hnd (p, q) (List.mem_of_getElem? hpq))
    refine ex1 (a1.get hlq) ?_
    intro vk y9w1
    refine an2 (y9w1) ?_
    intro hvk y9w2
    refine ex3 (y9w2) ?_
    intro ak vks ek9 y9w3
    refine an3 (y9w3) ?_
    intro y9z4 mk9 ik9
    clear y9w3 y9w2 y9w1
    subst y9z4
    obtain ⟨vn, hvn, tn9, rfl⟩ := a2.get hlq
    obtain ⟨vh, hvh, th9, rfl⟩ := a3.get hlq
    refine kG9 ?_
    clear kG9 gG9
    have mkR : (ak, ({ cls := .type "list", data := .seq (List.toArray vks) ek9 } : Obj)) ∈ R := u2 _ mk9 (ne_addr N mk9 m1 (by simp [dict_cls i1])) (ne_addr N mk9 m2 (by simp [dict_cls i2])) (ne_addr N mk9 m3 (by simp [dict_cls i3]))
    have hrp := row_pos hO g1 g2
    have hrl : (rowAt ps p).length ≤ 50 := row_len hO _ (by unfold rowAt; rw [List.getD_eq_getElem?_getD, List.getElem?_eq_getElem (by rw [rowsF_len]; (first | lia | omega))]; exact List.getElem_mem _)
    have hit := row_last hO g1 g2
    have hil : i < ab.length := (List.getElem?_eq_some_iff.mp hpq).1
    have habl := hgood.len
    have hfl : (famF (ab.take i)).length = i + 1 := by
      have := congrArg List.length (famF_keys (ab.take i))
      simp at this
      (first | lia | omega)
    have hk1 := a1.len
    have hk2 := a2.len
    have hk3 := a3.len
    have hlq5 : lq.length ≤ 5 := by have := g4 _ (mem_of_lookup hlq); dsimp only at this; (first | lia | omega)
    have hvl : vks.length = lq.length := by have := ik9.length; rw [this]; simp [intsN]
    have t1 : (nameF lq).length ≤ 1000 := by unfold nameF; rw [mk_len]; simp; (first | lia | omega)
    have t2 : (hostF lq).length ≤ 1000 := by rw [hostF_len]; (first | lia | omega)
    have t3 : (⟨#[96 + p]⟩ : Str).length ≤ 1000 := Nat.le_of_ble_eq_true rfl
    have t4 : ((⟨#[96 + p]⟩ : Str) ++ PySem.Str.ofString ".").length ≤ 1000 := by rw [show (⟨#[96 + p]⟩ : Str) = mk [96 + p] from rfl, show PySem.Str.ofString "." = mk [46] from rfl, mk_append, mk_len]; simp
    have o1 := ok_ne' N m1 (.inr (by simp [dict_cls i1])) hok9 hok2 w1 (w1 _ md)
    have o2 := ok_ne' N m2 (.inr (by simp [dict_cls i2])) hok9 hok2 w2 (w2 _ md)
    have o3 := ok_ne' N m3 (.inr (by simp [dict_cls i3])) hok9 hok2 w3 (w3 _ md)
    have hokR : ∀ p ∈ ok9, p ∈ R := fun p hp => u2 p (hok9 p hp) (o1 p hp) (o2 p hp) (o3 p hp)
    have hst : famF (ab.take (i + 1)) = famF (ab.take i) ++ [(p, lq ++ [p])] := by rw [takeG hpq, famF_snoc, hlq]; rfl
    have aR : DictF (RK R) kk (famF (ab.take i)) := a1.mono fun v l ⟨a, vs, e, h1, h2, h3⟩ => ⟨a, vs, e, h1, u2 _ h2 (ne_addr N h2 m1 (by simp [dict_cls i1])) (ne_addr N h2 m2 (by simp [dict_cls i2])) (ne_addr N h2 m3 (by simp [dict_cls i3])), h3⟩
    clear N1 lw0 lw1 lwn lwh mdd1 hDat N
    (try dsimp only)
    revert aR; revert hst; revert hokR; revert t4; revert t3; revert t2; revert t1; revert hvl; revert hlq5; revert hk3; revert hk2; revert hk1; revert hfl; revert habl; revert hil; revert hit; revert hrl; revert hrp; revert mkR; revert hvh; revert hvn; revert ik9; revert hvk; revert hvd; revert hnd; revert mpR; revert mdR; revert u1; revert N3; revert hlq; revert g4; revert g2; revert g1; revert F; revert hpq; revert a3; revert i3; revert a2; revert i2; revert a1; revert i1; revert hkl; revert hgood; revert z3; revert z2; revert z1; revert T'; revert X'; revert B'; revert FG'
    exact (ctH dk dn dh i u nn ok9 h tk ok on oh kk kn kh t p q tq lq R tq9 ak vks ek9 tn9 th9).out
  case done =>
    intro c u nn h tk hkn hz9
    refine nmG fun gG9 kG9 => ?_
    refine ex6 (hz9) ?_
    intro ok on oh kk kn kh y9w1
    refine an9 (y9w1) ?_
    intro m1 i1 a1 m2 i2 a2 m3 i3 a3
    clear y9w1
    try clear hz9
    refine kG9 ?_
    clear kG9 gG9
    intro F N
    rw [hkl, List.take_of_length_le (Nat.le_refl _)] at a1 a2 a3
    dsimp only [kstB, envOf] at F N
    k_steps
    refine hret _ _ _ _ ⟨dk, dn, dh, _, ok, on, oh, kk, kn, kh, .head _, .tail _ m1, i1, a1.mono ?_, .tail _ m2, i2, a2, .tail _ m3, i3, a3⟩ (fun p hp => .tail _ (hkn p hp)) (by assumption) (by assumption)
    intro v l hz9
    refine nmG fun gG9 kG9 => ?_
    refine ex3 (hz9) ?_
    intro a vs e y9w1
    refine an3 (y9w1) ?_
    intro h1 h2 h3
    clear y9w1
    try clear hz9
    refine kG9 ?_
    clear kG9 gG9
    exact ⟨a, vs, e, h1, .tail _ h2, h3⟩⟩
theorem ctBne : Nonempty ((Addr) × (Addr) × (Addr) × (Nat) × (Str → Option Value) × (List (Addr × Obj)) × (List (Addr × Obj)) × (Heap) × (Nat) × (Obj) × (Obj) × (Obj) × (List (Int × Value)) × (List (Int × Value)) × (List (Int × Value)) × (Tok) × (Nat) × (Nat) × (Tok) × (List Nat) × (List (Addr × Obj)) × (Tok) × (Addr) × (List Value) × (Nat) × (Tok) × (Tok)) := ⟨(default, default, default, default, default, default, default, default, default, default, default, default, default, default, default, default, default, default, default, default, default, default, default, default, default, default, default)⟩
noncomputable def ctBd := pk ctBne fun v => Bx (ctB.1 v.1 v.2.1 v.2.2.1 v.2.2.2.1 v.2.2.2.2.1 v.2.2.2.2.2.1 v.2.2.2.2.2.2.1 v.2.2.2.2.2.2.2.1 v.2.2.2.2.2.2.2.2.1 v.2.2.2.2.2.2.2.2.2.1 v.2.2.2.2.2.2.2.2.2.2.1 v.2.2.2.2.2.2.2.2.2.2.2.1 v.2.2.2.2.2.2.2.2.2.2.2.2.1 v.2.2.2.2.2.2.2.2.2.2.2.2.2.1 v.2.2.2.2.2.2.2.2.2.2.2.2.2.2.1 v.2.2.2.2.2.2.2.2.2.2.2.2.2.2.2.1 v.2.2.2.2.2.2.2.2.2.2.2.2.2.2.2.2.1 v.2.2.2.2.2.2.2.2.2.2.2.2.2.2.2.2.2.1 v.2.2.2.2.2.2.2.2.2.2.2.2.2.2.2.2.2.2.1 v.2.2.2.2.2.2.2.2.2.2.2.2.2.2.2.2.2.2.2.1 v.2.2.2.2.2.2.2.2.2.2.2.2.2.2.2.2.2.2.2.2.1 v.2.2.2.2.2.2.2.2.2.2.2.2.2.2.2.2.2.2.2.2.2.1 v.2.2.2.2.2.2.2.2.2.2.2.2.2.2.2.2.2.2.2.2.2.2.1 v.2.2.2.2.2.2.2.2.2.2.2.2.2.2.2.2.2.2.2.2.2.2.2.1 v.2.2.2.2.2.2.2.2.2.2.2.2.2.2.2.2.2.2.2.2.2.2.2.2.1 v.2.2.2.2.2.2.2.2.2.2.2.2.2.2.2.2.2.2.2.2.2.2.2.2.2.1 v.2.2.2.2.2.2.2.2.2.2.2.2.2.2.2.2.2.2.2.2.2.2.2.2.2.2)
noncomputable def dkc : Addr := ctBd.1
noncomputable def dnc : Addr := ctBd.2.1
noncomputable def dhc : Addr := ctBd.2.2.1
noncomputable def ic : Nat := ctBd.2.2.2.1
noncomputable def uc : Str → Option Value := ctBd.2.2.2.2.1
noncomputable def nnc : List (Addr × Obj) := ctBd.2.2.2.2.2.1
noncomputable def ok9c : List (Addr × Obj) := ctBd.2.2.2.2.2.2.1
noncomputable def hc : Heap := ctBd.2.2.2.2.2.2.2.1
noncomputable def tkc : Nat := ctBd.2.2.2.2.2.2.2.2.1
noncomputable def okc : Obj := ctBd.2.2.2.2.2.2.2.2.2.1
noncomputable def onc : Obj := ctBd.2.2.2.2.2.2.2.2.2.2.1
noncomputable def ohc : Obj := ctBd.2.2.2.2.2.2.2.2.2.2.2.1
noncomputable def kkc : List (Int × Value) := ctBd.2.2.2.2.2.2.2.2.2.2.2.2.1
noncomputable def knc : List (Int × Value) := ctBd.2.2.2.2.2.2.2.2.2.2.2.2.2.1
noncomputable def khc : List (Int × Value) := ctBd.2.2.2.2.2.2.2.2.2.2.2.2.2.2.1
noncomputable def tc : Tok := ctBd.2.2.2.2.2.2.2.2.2.2.2.2.2.2.2.1
noncomputable def pc : Nat := ctBd.2.2.2.2.2.2.2.2.2.2.2.2.2.2.2.2.1
noncomputable def qc : Nat := ctBd.2.2.2.2.2.2.2.2.2.2.2.2.2.2.2.2.2.1
noncomputable def tqc : Tok := ctBd.2.2.2.2.2.2.2.2.2.2.2.2.2.2.2.2.2.2.1
noncomputable def lqc : List Nat := ctBd.2.2.2.2.2.2.2.2.2.2.2.2.2.2.2.2.2.2.2.1
noncomputable def Rc : List (Addr × Obj) := ctBd.2.2.2.2.2.2.2.2.2.2.2.2.2.2.2.2.2.2.2.2.1
noncomputable def tq9c : Tok := ctBd.2.2.2.2.2.2.2.2.2.2.2.2.2.2.2.2.2.2.2.2.2.1
noncomputable def akc : Addr := ctBd.2.2.2.2.2.2.2.2.2.2.2.2.2.2.2.2.2.2.2.2.2.2.1
noncomputable def vksc : List Value := ctBd.2.2.2.2.2.2.2.2.2.2.2.2.2.2.2.2.2.2.2.2.2.2.2.1
noncomputable def ek9c : Nat := ctBd.2.2.2.2.2.2.2.2.2.2.2.2.2.2.2.2.2.2.2.2.2.2.2.2.1
noncomputable def tn9c : Tok := ctBd.2.2.2.2.2.2.2.2.2.2.2.2.2.2.2.2.2.2.2.2.2.2.2.2.2.1
noncomputable def th9c : Tok := ctBd.2.2.2.2.2.2.2.2.2.2.2.2.2.2.2.2.2.2.2.2.2.2.2.2.2.2
theorem ctX1 (C : At w mean mg mb 1 dp un cs outer A₀ base h₀ L m news s.heap) (hO : LOk 4 ps) (mp : (pg, ({ cls := .type "list", data := .seq pv.toArray pe } : Obj)) ∈ news) (hS : StrsAre pv (rowsF ps)) (md : (dd, od) ∈ news) (hsm : (dd == sysModules) = false) (hdi : od.IsDictOf (intKind PySem.Challenge.rw_xe0048_01.row.prog w) kvs) (hab : AbIs kvs ab) (hok : AbOk 5 ab) (hret : ∀ (T : Addr) (nn : List (Addr × Obj)) (h' : Heap) (tk' : Nat), FamIn w nn T (famF ab) → (∀ p ∈ news, p ∈ nn) → Fr h₀ L h' m → News h₀ L h' nn → Q (.ref T) { s with heap := h', toks := tk' }) : Bx (ctB.1 dkc dnc dhc ic uc nnc ok9c hc tkc okc onc ohc kkc knc khc tc pc qc tqc lqc Rc tq9c akc vksc ek9c tn9c th9c) := by
  refine ⟨?_⟩
  dsimp only [ctB]
  k_with_none
  k_with "subscriptTail" => (((with_reducible show wpAny _ _ (subscriptTail _ _ (Value.ref _) (Value.int _ _)) _ _ _); (k_dflt (refine' mitem_strsE ?c1.«_@»._hyg ?c2.«_@»._hyg ?c3.«_@»._hyg ?c4.«_@»._hyg ?c5.«_@»._hyg ?c6.«_@»._hyg ?c7.«_@»._hyg ?_ ?c9.«_@»._hyg; (case c1 => k_asm); (case c2 => k_mem); (case c3 => assumption); (case c4 => (first | lia | omega)); (case c5 => (rw [rowsF_len]; (first | lia | omega))); (case c6 => (rw [rowsF_len]; (first | lia | omega))); (case c7 => exact rowAt_get _ _); (case c9 => with_unfolding_all rfl))); intro tz9))
  k_with "subscriptTail" => (((with_reducible show wpAny _ _ (subscriptTail _ _ (Value.ref _) (Value.int _ _)) _ _ _); (k_dflt (refine' kda_item (knd := PySem.intKind _ _) ?c1.«_@»._hyg ?c2.«_@»._hyg ?c3.«_@»._hyg ?c4.«_@»._hyg ?c5.«_@»._hyg ?_ ?c7.«_@»._hyg ?c8.«_@»._hyg; (case c1 => k_asm); (case c2 => k_mem); (case c3 => assumption); (case c4 => exact intKind_is _ _ _ _); (case c5 => assumption); (case c7 => with_unfolding_all rfl); (case c8 => (intro _; with_unfolding_all rfl))))))
  k_with "subscriptTail" => (((with_reducible show wpAny _ _ (subscriptTail _ _ (Value.str _ _) (Value.int (-1) _)) _ _ _); (k_dflt (refine' mitem_last ?c1.«_@»._hyg ?c2.«_@»._hyg ?c3.«_@»._hyg ?_ ?c4.«_@»._hyg ?c5.«_@»._hyg; (case c1 => with_reducible assumption); (case c2 => (first | lia | omega)); (case c3 => with_reducible assumption); (case c4 => with_unfolding_all rfl); (case c5 => (intro _; with_unfolding_all rfl)))); intro _ _))
  k_with "binaryOp Add str str" => ((k_dflt (refine' madds ?a.«_@»._hyg ?b.«_@»._hyg ?_; (case a => first | assumption | decide | (first | lia | omega)); (case b => first | assumption | decide | (first | lia | omega))); intro _ _))
  k_with "newList" => ((k_here; k_dflt (refine' newList_K ?k1.«_@»._hyg ?k2.«_@»._hyg ?_; (case k1 => k_asm); (case k2 => k_asm); k_whole); intro al h'z9 F'z9 N'z9 hal; (have l1z9 := hal); (try k_lt l1z9)))
  k_with "setItem ref int" => (refine hold ?_)
  k_with "binaryOp Add ref ref" => (refine hold ?_)
  k_with "exec For Name Name cons nil" => ((k_here; (rename Fr _ _ _ _ => lF'z9); (with_unfolding_all refine' For_invVF lF'z9 ?k1.«_@»._hyg ?k2.«_@»._hyg ?_; (case k1 => exact rfl); (case k2 => exact rfl); k_whole)))
  k_with "pyIter ref" => (refine hold ?_)
  refine nmG fun gG9 kG9 => ?_
  obtain ⟨B, F, X, N, T, kf, hd, hu⟩ := C
  refine kG9 ?_
  clear kG9 gG9
  revert X
  k_fill
  intro X
  intro FG' B' X' T' z1 z2 z3 hgood hkl i1 a1 i2 a2 i3 a3 hpq F g1 g2 g4 hlq N3 u1 mdR mpR hnd hvd hvk ik9 hvn hvh mkR hrp hrl hit hil habl hfl hk1 hk2 hk3 hlq5 hvl t1 t2 t3 t4 hokR hst aR
  k_steps
  unfold Hold
  (with_reducible rename News _ _ _ ((al, _) :: _) => N4)
  (with_reducible rename Fr _ _ _ (_ : Str → Option Value) => F4)
  refine madd (vs := vksc) (ws := [.int (pc : Int) tc]) F4 N4 (N4.isList (.tail _ (.tail _ (.tail _ (.tail _ mkR))))) (N4.isList (.head _)) (by simp; (first | lia | omega)) ?_
  intro ds h5 F5 N5 lds
  have q1 : al ≠ dkc := Nat.ne_of_gt (hal (dkc, okc) (.head _))
  have q2 : al ≠ dnc := Nat.ne_of_gt (hal (dnc, onc) (.tail _ (.head _)))
  have q3 : al ≠ dhc := Nat.ne_of_gt (hal (dhc, ohc) (.tail _ (.tail _ (.head _))))
  have r1 : ds ≠ dkc := Nat.ne_of_gt (lds (dkc, okc) (.tail _ (.head _)))
  have r2 : ds ≠ dnc := Nat.ne_of_gt (lds (dnc, onc) (.tail _ (.tail _ (.head _))))
  have r3 : ds ≠ dhc := Nat.ne_of_gt (lds (dhc, ohc) (.tail _ (.tail _ (.tail _ (.head _)))))
  have hp9 : ∀ r ∈ famF (ab.take ic), r.1 ≠ pc := fun r hr => Nat.ne_of_lt (g4 r hr).1
  k_steps
  unfold Hold
  (with_reducible rename News _ _ _ ((ds, _) :: _) => N6)
  (with_reducible rename Fr _ _ _ (_ : Str → Option Value) => F6)
  refine mput (knd := PySem.intKind _ _) F6 N6 (.tail _ (.tail _ (.head _))) i1 (intKind_is _ _ _ _) (by (first | lia | omega)) ?_
  intro h7 o7 F7 N7 i7
  rw [a1.new hp9] at i7
  replace N7 := news_sub N7 (upd_split (pre := [_, _]) (post := (dnc, onc) :: (dhc, ohc) :: Rc) (by
    intro x hx
    rcases mcs hx with rfl | hx
    · exact r1
    rcases mcs hx with rfl | hx
    · exact q1
    · exact nomatch hx) (by
    intro x hx
    rcases mcs hx with rfl | hx
    · exact z1
    rcases mcs hx with rfl | hx
    · exact z3
    · exact (u1 x hx).1))
  simp only [List.cons_append, List.nil_append] at N7
  clear N6 F6
  k_steps
  unfold Hold
  (with_reducible rename News _ _ _ ((ds, _) :: _) => N8)
  (with_reducible rename Fr _ _ _ (_ : Str → Option Value) => F8)
  refine mput (knd := PySem.intKind _ _) F8 N8 (.tail _ (.tail _ (.tail _ (.head _)))) i2 (intKind_is _ _ _ _) (by (first | lia | omega)) ?_
  intro h9 o9 F9 N9 i9
  rw [a2.new hp9] at i9
  replace N9 := news_sub N9 (upd_split (pre := [_, _, _]) (post := (dhc, ohc) :: Rc) (by
    intro x hx
    rcases mcs hx with rfl | hx
    · exact r2
    rcases mcs hx with rfl | hx
    · exact q2
    rcases mcs hx with rfl | hx
    · exact z1.symm
    · exact nomatch hx) (by
    intro x hx
    rcases mcs hx with rfl | hx
    · exact z2
    · exact (u1 x hx).2.1))
  simp only [List.cons_append, List.nil_append] at N9
  clear N8 F8
  k_steps
  unfold Hold
  (with_reducible rename News _ _ _ ((ds, _) :: _) => Na)
  (with_reducible rename Fr _ _ _ (_ : Str → Option Value) => Fa)
  refine mput (knd := PySem.intKind _ _) Fa Na (.tail _ (.tail _ (.tail _ (.tail _ (.head _))))) i3 (intKind_is _ _ _ _) (by (first | lia | omega)) ?_
  intro hb ob Fb Nb ib
  rw [a3.new hp9] at ib
  replace Nb := news_sub Nb (upd_split (pre := [_, _, _, _]) (post := Rc) (by
    intro x hx
    rcases mcs hx with rfl | hx
    · exact r3
    rcases mcs hx with rfl | hx
    · exact q3
    rcases mcs hx with rfl | hx
    · exact z3.symm
    rcases mcs hx with rfl | hx
    · exact z2.symm
    · exact nomatch hx) (by
    intro x hx
    exact (u1 x hx).2.2))
  simp only [List.cons_append, List.nil_append] at Nb
  clear Na Fa
  k_steps
  refine TP.next () (by assumption) (by assumption) (fun pc hp => .tail _ (.tail _ (.tail _ (.tail _ (.tail _ (hokR pc hp)))))) (by kst_all) ⟨_, _, _, _, _, _, .tail _ (.tail _ (.head _)), i7, ?_, .tail _ (.tail _ (.tail _ (.head _))), i9, ?_, .tail _ (.tail _ (.tail _ (.tail _ (.head _)))), ib, ?_⟩
  · rw [hst]
    refine (aR.mono fun v l ⟨a, vs, e, h1, h2, h3⟩ => ⟨a, vs, e, h1, .tail _ (.tail _ (.tail _ (.tail _ (.tail _ h2)))), h3⟩).snoc pc _ _ ⟨ds, _, _, rfl, .head _, ?_⟩
    have : intsN (lqc ++ [pc]) = intsN lqc ++ [(pc : Int)] := by simp [intsN]
    rw [this]
    exact ik9.append (.cons _ _ .nil)
  · rw [hst]
    exact a2.snoc pc _ _ ⟨_, by rw [← name_snoc]⟩
  · rw [hst]
    exact a3.snoc pc _ _ ⟨_, by rw [← host_snoc]⟩
theorem ctBall (C : At w mean mg mb 1 dp un cs outer A₀ base h₀ L m news s.heap) (hO : LOk 4 ps) (mp : (pg, ({ cls := .type "list", data := .seq pv.toArray pe } : Obj)) ∈ news) (hS : StrsAre pv (rowsF ps)) (md : (dd, od) ∈ news) (hsm : (dd == sysModules) = false) (hdi : od.IsDictOf (intKind PySem.Challenge.rw_xe0048_01.row.prog w) kvs) (hab : AbIs kvs ab) (hok : AbOk 5 ab) (hret : ∀ (T : Addr) (nn : List (Addr × Obj)) (h' : Heap) (tk' : Nat), FamIn w nn T (famF ab) → (∀ p ∈ news, p ∈ nn) → Fr h₀ L h' m → News h₀ L h' nn → Q (.ref T) { s with heap := h', toks := tk' }) : ∀ (dk : Addr) (dn : Addr) (dh : Addr) (i : Nat) (u : Str → Option Value) (nn : List (Addr × Obj)) (ok9 : List (Addr × Obj)) (h : Heap) (tk : Nat) (ok : Obj) (on : Obj) (oh : Obj) (kk : List (Int × Value)) (kn : List (Int × Value)) (kh : List (Int × Value)) (t : Tok) (p : Nat) (q : Nat) (tq : Tok) (lq : List Nat) (R : List (Addr × Obj)) (tq9 : Tok) (ak : Addr) (vks : List Value) (ek9 : Nat) (tn9 : Tok) (th9 : Tok), Bx (ctB.1 dk dn dh i u nn ok9 h tk ok on oh kk kn kh t p q tq lq R tq9 ak vks ek9 tn9 th9) := fun dk dn dh i u nn ok9 h tk ok on oh kk kn kh t p q tq lq R tq9 ak vks ek9 tn9 th9 => pk_all (ne := ctBne) (P := fun v => Bx (ctB.1 v.1 v.2.1 v.2.2.1 v.2.2.2.1 v.2.2.2.2.1 v.2.2.2.2.2.1 v.2.2.2.2.2.2.1 v.2.2.2.2.2.2.2.1 v.2.2.2.2.2.2.2.2.1 v.2.2.2.2.2.2.2.2.2.1 v.2.2.2.2.2.2.2.2.2.2.1 v.2.2.2.2.2.2.2.2.2.2.2.1 v.2.2.2.2.2.2.2.2.2.2.2.2.1 v.2.2.2.2.2.2.2.2.2.2.2.2.2.1 v.2.2.2.2.2.2.2.2.2.2.2.2.2.2.1 v.2.2.2.2.2.2.2.2.2.2.2.2.2.2.2.1 v.2.2.2.2.2.2.2.2.2.2.2.2.2.2.2.2.1 v.2.2.2.2.2.2.2.2.2.2.2.2.2.2.2.2.2.1 v.2.2.2.2.2.2.2.2.2.2.2.2.2.2.2.2.2.2.1 v.2.2.2.2.2.2.2.2.2.2.2.2.2.2.2.2.2.2.2.1 v.2.2.2.2.2.2.2.2.2.2.2.2.2.2.2.2.2.2.2.2.1 v.2.2.2.2.2.2.2.2.2.2.2.2.2.2.2.2.2.2.2.2.2.1 v.2.2.2.2.2.2.2.2.2.2.2.2.2.2.2.2.2.2.2.2.2.2.1 v.2.2.2.2.2.2.2.2.2.2.2.2.2.2.2.2.2.2.2.2.2.2.2.1 v.2.2.2.2.2.2.2.2.2.2.2.2.2.2.2.2.2.2.2.2.2.2.2.2.1 v.2.2.2.2.2.2.2.2.2.2.2.2.2.2.2.2.2.2.2.2.2.2.2.2.2.1 v.2.2.2.2.2.2.2.2.2.2.2.2.2.2.2.2.2.2.2.2.2.2.2.2.2.2)) (ctX1 C hO mp hS md hsm hdi hab hok hret) (dk, dn, dh, i, u, nn, ok9, h, tk, ok, on, oh, kk, kn, kh, t, p, q, tq, lq, R, tq9, ak, vks, ek9, tn9, th9)
theorem ctT : ctS w mean mg mb dp un gd cn cs a ccd cl outer A₀ base h₀ L m s Q E news pg dd pv pe ps od kvs ab := ⟨fun C hO mp hS md hsm hdi hab hok hret => ctA.2 C hO mp hS md hsm hdi hab hok hret (pk_all3 (ne := ned) (R := fun g0 L0 h0 => Bx (ctA.1 g0 L0 h0)) rfl rfl rfl (ctB.2 C hO mp hS md hsm hdi hab hok hret (ctBall C hO mp hS md hsm hdi hab hok hret)))⟩
theorem all : ∀ v : V0 × ((Addr) × (Addr) × (List Value) × (Nat) × (List (List Nat × Nat)) × (Obj) × (List (Int × Value)) × (List (Nat × Nat))), ctS v.1.w v.1.mean v.1.mg v.1.mb v.1.dp v.1.un v.1.gd v.1.cn v.1.cs v.1.a v.1.ccd v.1.cl v.1.outer v.1.A₀ v.1.base v.1.h₀ v.1.L v.1.m v.1.s v.1.Q v.1.E v.1.news v.2.1 v.2.2.1 v.2.2.2.1 v.2.2.2.2.1 v.2.2.2.2.2.1 v.2.2.2.2.2.2.1 v.2.2.2.2.2.2.2.1 v.2.2.2.2.2.2.2.2 := pk_all (ne := ne) (P := fun v => ctS v.1.w v.1.mean v.1.mg v.1.mb v.1.dp v.1.un v.1.gd v.1.cn v.1.cs v.1.a v.1.ccd v.1.cl v.1.outer v.1.A₀ v.1.base v.1.h₀ v.1.L v.1.m v.1.s v.1.Q v.1.E v.1.news v.2.1 v.2.2.1 v.2.2.2.1 v.2.2.2.2.1 v.2.2.2.2.2.1 v.2.2.2.2.2.2.1 v.2.2.2.2.2.2.2.1 v.2.2.2.2.2.2.2.2) ctT
end Zfam_ct
section
variable {w : World} {mean : ExcName → Option Value} {mg mb : Str → Option Value} {dp un : Nat} {gd : Option (List Code)} {cn : Str} {cs : Scope} {a : Addr} {ccd : Value} {cl : List (Str × Addr)} {outer : List Env} {A₀ : Around} {base h₀ : Heap} {L : Addr} {m : Str → Option Value} {s : Shared} {Q E : Value → Shared → Prop} {news : List (Addr × Obj)}
theorem fam_ct  (C : At w mean mg mb 1 dp un cs outer A₀ base h₀ L m news s.heap) {pg dd : Addr} {pv : List Value} {pe : Nat} {ps : List (List Nat × Nat)} {od : Obj} {kvs : List (Int × Value)} {ab : List (Nat × Nat)} (hO : LOk 4 ps) (mp : (pg, ({ cls := .type "list", data := .seq pv.toArray pe } : Obj)) ∈ news) (hS : StrsAre pv (rowsF ps))
  (md : (dd, od) ∈ news) (hsm : (dd == sysModules) = false) (hdi : od.IsDictOf (intKind PySem.Challenge.rw_xe0048_01.row.prog w) kvs) (hab : AbIs kvs ab) (hok : AbOk 5 ab)
  (hret : ∀ (T : Addr) (nn : List (Addr × Obj)) (h' : Heap) (tk' : Nat), FamIn w nn T (famF ab) → (∀ p ∈ news, p ∈ nn) → Fr h₀ L h' m → News h₀ L h' nn → Q (.ref T) { s with heap := h', toks := tk' }) :
  wpAny (model PySem.Challenge.rw_xe0048_01.row.prog w) (ktrTop dp un gd cn cs L a ccd cl outer) (call (.ref 247) [.ref pg, .ref dd]) Q E s := by
  exact (Zfam_ct.all ⟨⟨w, mean, mg, mb, dp, un, gd, cn, cs, a, ccd, cl, outer, A₀, base, h₀, L, m, s, Q, E, news⟩, pg, dd, pv, pe, ps, od, kvs, ab⟩).out C hO mp hS md hsm hdi hab hok hret
end
end Mine
end
theorem Mine.rstV3 : True := by
  w_top off
  trivial
section
open PySem PySem.W PyProof.Rows PySem.Calls PySem.Spec PyProof.V
set_option Elab.async false
set_option maxRecDepth 100000
set_option maxHeartbeats 1000000
namespace Mine
open LCg LCt
theorem dict_at_of {prog : Program} {w : World} {K : Type} [DecidableEq K] {knd : KeyKind prog w K} {d : Addr} {od : Obj} {kvs : List (K × Value)} (i : od.IsDictOf knd kvs) : ∃ ep, ∀ h : Heap, h.get? d = some od → h.DictAt knd d kvs ep := by
  refine nmG fun gG9 kG9 => ?_
  refine ex2 (i) ?_
  intro es ep y9w1
  refine an5 (y9w1) ?_
  intro h1 h2 h3 h4 h5
  clear y9w1
  try clear i
  refine kG9 ?_
  clear kG9 gG9
  exact ⟨ep, fun h e => ⟨od, es, e, h1, h2, h3, h4, h5⟩⟩
section
variable {prog : Program} {w : World} {A : Around} {E : Value → Shared → Prop} {s : Shared} {h₀ : Heap} {L : Addr} {m : Str → Option Value} {env : Env}
theorem ListComp_DT {K : Type} [DecidableEq K] {knd : KeyKind prog w K} {ct elt iter : Expr} {x : Str} {px : Pos} {scope : Scope} {cl : List (Str × Addr)} {pos : Pos} {Q : Value → Shared → Prop} (F₀ : Fr h₀ L s.heap m)
    (hclos : closureFor scope env = pure cl) (hcell : ∀ y ∈ scope.names, y.2 ≠ .cell) (hkind : scope.kind = .function)
    (hnames : ∀ y ∈ scope.names, y.2 = .local → scope.names.lookup y.1 = some .local) (hx : scope.names.lookup x = some .local)
    (h : wpAny (model prog w) A (eval iter env) (fun xv s₁ => Hold (∃ (d : Addr) (od : Obj) (kvs : List (K × Value)) (ep : Nat) (news : List (Addr × Obj)), xv = .ref d ∧ A.handled = none ∧ (d == sysModules) = false ∧ Fr h₀ L s₁.heap m ∧ News h₀ L s₁.heap news ∧ (d, od) ∈ news ∧ (∀ h : Heap, h.get? d = some od → h.DictAt knd d kvs ep) ∧ kvs.length ≤ sizeLine ∧
      ∀ g, CompRestT prog w A h₀ L m env ct elt x scope cl { s₁ with heap := g } (fun nw => (d, od) ∈ nw) (fun i v => ∃ k y, kvs[i]? = some (k, y) ∧ knd.is k v = true) (FinE h₀ L m { s₁ with heap := g } Q) kvs.length 0 [] news)) E s)
    (hs : ∀ x, foldedSetIterable iter env x = pure x := by intro _; rfl) :
    wpAny (model prog w) A (eval (.ListComp elt [⟨.Name x px, iter, [ct], 0⟩] scope pos) env) Q E s := by
  rw [eval_ListComp]
  refine wpAny_comprehension_free (use := none) rfl hs hclos hkind hnames (wpAny_mono h (fun xv s₁ h₁ => ?_) fun _ _ e => e)
  refine nmG fun gG9 kG9 => ?_
  refine ex5 (h₁) ?_
  intro d od kvs ep news y9w1
  refine an9 (y9w1) ?_
  intro y9z2 hh hsm F N S hat hsz R
  clear y9w1
  try clear h₁
  subst y9z2
  refine kG9 ?_
  clear kG9 gG9
  have hg := (N _ S).1
  have hlt : d < s₁.heap.objs.size := Heap.lt_size hg
  refine wpAny_pyIter_dict hsm (hat _ hg) ?_
  have up : ∀ b o, s₁.heap.get? b = some o → (s₁.heap.push { cls := .type "dict_keyiterator", data := .fields #[.ref d, .int 0 0, .int kvs.length 0, .int ep 0] }).get? b = some o := fun b o e => Heap.get?_push_of_some _ e
  refine block_T (Walks.dictKeys (knd := knd) hh s₁.heap.objs.size d (Nat.ne_of_lt hlt) kvs ep) hsz (fun i h st => by obtain ⟨o, e, _⟩ := st.1; exact ⟨o, e⟩) (fun i h h' o nw st e1 e2 k N' S' => ⟨st.1.at fun o' e' => by rw [e1] at e'; cases e'; exact e2, hat _ (N' _ S').1⟩) hcell hkind hx ⟨⟨_, Heap.get?_push_size _ rfl, rfl, rfl⟩, hat _ (up _ _ hg)⟩ (fun b hb => ?_)
    (F.keeps up) (N.grown up) (Nat.ne_of_lt F.ns.lt) (next_is_new F) (fun p hp => Nat.ne_of_lt (Heap.lt_size (N p hp).1)) S (R _) ?_
  · show b < (s₁.heap.push _).objs.size
    rw [Heap.size_push]
    rcases mcs hb with rfl | hb
    · exact Nat.lt_succ_self _
    · rw [List.mem_singleton.mp hb]; exact Nat.lt_succ_of_lt hlt
  · intro D C h tk m' ys news' F' N' o1 hn hC₀ hD₀ hCL hDL hCD offC fin
    refine ⟨m', hn, fun h'' hs'' => fin D h'' tk (F'.change hs'' hCL hC₀) (fun p hp => ?_) o1⟩
    refine ⟨hs''.extBut _ _ ?_ (N' p hp).1, (N' p hp).2⟩
    rcases mcs hp with rfl | hp
    · exact Ne.symm hCD
    · exact offC p hp
end
noncomputable def foreF (ab : List (Nat × Nat)) (g : Nat → Bool) (n : Nat) : List Nat := ((ab.take n).filter fun p => g p.1).map (·.1)
/-- what user_domain_match asks of a host behind a dot -/
structure HostOk (l : List Nat) : Prop where
  lo : Txt.lower (PySem.Str.ofString "." ++ hostF l) = PySem.Str.ofString "." ++ hostF l
  ln : (PySem.Str.ofString "." ++ hostF l).length ≤ 1000
  hl : (hostF l).length ≤ 1000
  dg : ∀ k ∈ (PySem.Str.ofString "." ++ hostF l).cps, ¬ (48 ≤ k ∧ k ≤ 57)
  st : Txt.startswith (PySem.Str.ofString "." ++ hostF l) (PySem.Str.ofString ".") = true
theorem foreF_succ {ab : List (Nat × Nat)} {g : Nat → Bool} {i p q : Nat} (h : ab[i]? = some (p, q)) : foreF ab g (i + 1) = foreF ab g i ++ (if g p = true then [p] else []) := by
  unfold foreF
  rw [takeG h, List.filter_append, List.map_append]
  by_cases e : g p = true <;> simp [e]
local macro_rules | `(tactic| k_mem) => `(tactic| first | assumption | exact List.Mem.head _ | (refine List.Mem.tail _ ?_; k_mem))
local macro_rules | `(tactic| k_all) => `(tactic| first | assumption | exact ne_of_l1 (by assumption))
local macro_rules | `(tactic| k_ne) => `(tactic| first | assumption | (refine Ne.symm ?_; assumption))
section
variable {w : World} {mean : ExcName → Option Value} {mg mb : Str → Option Value} {dp un : Nat} {gd : Option (List Code)} {cn : Str} {cs : Scope} {a : Addr} {ccd : Value} {cl : List (Str × Addr)} {outer : List Env} {A₀ : Around} {base h₀ : Heap} {L : Addr} {m : Str → Option Value} {s : Shared} {Q E : Value → Shared → Prop} {news : List (Addr × Obj)}
end
namespace Zfore_ct
noncomputable def ctS (w : World) (mean : ExcName → Option Value) (mg : Str → Option Value) (mb : Str → Option Value) (dp : Nat) (un : Nat) (gd : Option (List Code)) (cn : Str) (cs : Scope) (a : Addr) (ccd : Value) (cl : List (Str × Addr)) (outer : List Env) (A₀ : Around) (base : Heap) (h₀ : Heap) (L : Addr) (m : Str → Option Value) (s : Shared) (Q : Value → Shared → Prop) (E : Value → Shared → Prop) (news : List (Addr × Obj)) (x : Str) (xu : Str) (t : Tok) (dd : Addr) (dh : Addr) (od : Obj) (oh : Obj) (kvs : List (Int × Value)) (kh : List (Int × Value)) (ab : List (Nat × Nat)) (xl : Str) (g : Nat → Bool) : Prop := Bx (
  ∀ (C : At w mean mg mb 3 dp un cs outer A₀ base h₀ L m news s.heap) (md : (dd, od) ∈ news) (hsm : (dd == sysModules) = false) (hdi : od.IsDictOf (intKind PySem.Challenge.rw_xe0048_01.row.prog w) kvs) (hab : AbIs kvs ab) (hok : AbOk 5 ab) (mh : (dh, oh) ∈ news) (hhi : oh.IsDictOf (intKind PySem.Challenge.rw_xe0048_01.row.prog w) kh) (hh : DictF RH kh (famF ab)) (hxu : Txt.upper x = xu) (hxl : x.length ≤ 1000) (hxul : xu.length ≤ 900) (hlo : Txt.lower (PySem.Str.ofString "X." ++ xu) = xl) (hl1 : (PySem.Str.ofString "X." ++ xu).length ≤ 1000) (hxs : xl.cps.size ≤ 1000) (hxd : ∀ k ∈ xl.cps, ¬ (48 ≤ k ∧ k ≤ 57)) (hg : ∀ p lp, (famF ab).lookup p = some lp → HostOk lp ∧ Txt.endswith xl (PySem.Str.ofString "." ++ hostF lp) = g p) (hret : ∀ (D : Addr) (vs : List Value) (e : Nat) (nn : List (Addr × Obj)) (h' : Heap) (tk' : Nat), (D, ({ cls := .type "list", data := .seq (List.toArray vs) e } : Obj)) ∈ nn → IntsAre vs (intsN (foreF ab g 5)) → (∀ p ∈ news, p ∈ nn) → Fr h₀ L h' m → News h₀ L h' nn → Q (.ref D) { s with heap := h', toks := tk' }),
  wpAny (model PySem.Challenge.rw_xe0048_01.row.prog w) (ktrTop dp un gd cn cs L a ccd cl outer) (call (.ref 252) [.str x t, .ref dd, .ref dh]) Q E s)
theorem ne : Nonempty (V0 × ((Str) × (Str) × (Tok) × (Addr) × (Addr) × (Obj) × (Obj) × (List (Int × Value)) × (List (Int × Value)) × (List (Nat × Nat)) × (Str) × (Nat → Bool))) := ne_V ⟨(default, default, default, default, default, default, default, default, default, default, default, default)⟩
noncomputable def ctc : V0 × ((Str) × (Str) × (Tok) × (Addr) × (Addr) × (Obj) × (Obj) × (List (Int × Value)) × (List (Int × Value)) × (List (Nat × Nat)) × (Str) × (Nat → Bool)) := pk ne fun v => ctS v.1.w v.1.mean v.1.mg v.1.mb v.1.dp v.1.un v.1.gd v.1.cn v.1.cs v.1.a v.1.ccd v.1.cl v.1.outer v.1.A₀ v.1.base v.1.h₀ v.1.L v.1.m v.1.s v.1.Q v.1.E v.1.news v.2.1 v.2.2.1 v.2.2.2.1 v.2.2.2.2.1 v.2.2.2.2.2.1 v.2.2.2.2.2.2.1 v.2.2.2.2.2.2.2.1 v.2.2.2.2.2.2.2.2.1 v.2.2.2.2.2.2.2.2.2.1 v.2.2.2.2.2.2.2.2.2.2.1 v.2.2.2.2.2.2.2.2.2.2.2.1 v.2.2.2.2.2.2.2.2.2.2.2.2
noncomputable def w : World := ctc.1.w
noncomputable def mean : ExcName → Option Value := ctc.1.mean
noncomputable def mg : Str → Option Value := ctc.1.mg
noncomputable def mb : Str → Option Value := ctc.1.mb
noncomputable def dp : Nat := ctc.1.dp
noncomputable def un : Nat := ctc.1.un
noncomputable def gd : Option (List Code) := ctc.1.gd
noncomputable def cn : Str := ctc.1.cn
noncomputable def cs : Scope := ctc.1.cs
noncomputable def a : Addr := ctc.1.a
noncomputable def ccd : Value := ctc.1.ccd
noncomputable def cl : List (Str × Addr) := ctc.1.cl
noncomputable def outer : List Env := ctc.1.outer
noncomputable def A₀ : Around := ctc.1.A₀
noncomputable def base : Heap := ctc.1.base
noncomputable def h₀ : Heap := ctc.1.h₀
noncomputable def L : Addr := ctc.1.L
noncomputable def m : Str → Option Value := ctc.1.m
noncomputable def s : Shared := ctc.1.s
noncomputable def Q : Value → Shared → Prop := ctc.1.Q
noncomputable def E : Value → Shared → Prop := ctc.1.E
noncomputable def news : List (Addr × Obj) := ctc.1.news
noncomputable def x : Str := ctc.2.1
noncomputable def xu : Str := ctc.2.2.1
noncomputable def t : Tok := ctc.2.2.2.1
noncomputable def dd : Addr := ctc.2.2.2.2.1
noncomputable def dh : Addr := ctc.2.2.2.2.2.1
noncomputable def od : Obj := ctc.2.2.2.2.2.2.1
noncomputable def oh : Obj := ctc.2.2.2.2.2.2.2.1
noncomputable def kvs : List (Int × Value) := ctc.2.2.2.2.2.2.2.2.1
noncomputable def kh : List (Int × Value) := ctc.2.2.2.2.2.2.2.2.2.1
noncomputable def ab : List (Nat × Nat) := ctc.2.2.2.2.2.2.2.2.2.2.1
noncomputable def xl : Str := ctc.2.2.2.2.2.2.2.2.2.2.2.1
noncomputable def g : Nat → Bool := ctc.2.2.2.2.2.2.2.2.2.2.2.2
noncomputable def ctA : (ctR : (Heap) → (Addr) → (Heap) → (Nat) → Prop) ×' (∀ (C : At w mean mg mb 3 dp un cs outer A₀ base h₀ L m news s.heap) (md : (dd, od) ∈ news) (hsm : (dd == sysModules) = false) (hdi : od.IsDictOf (intKind PySem.Challenge.rw_xe0048_01.row.prog w) kvs) (hab : AbIs kvs ab) (hok : AbOk 5 ab) (mh : (dh, oh) ∈ news) (hhi : oh.IsDictOf (intKind PySem.Challenge.rw_xe0048_01.row.prog w) kh) (hh : DictF RH kh (famF ab)) (hxu : Txt.upper x = xu) (hxl : x.length ≤ 1000) (hxul : xu.length ≤ 900) (hlo : Txt.lower (PySem.Str.ofString "X." ++ xu) = xl) (hl1 : (PySem.Str.ofString "X." ++ xu).length ≤ 1000) (hxs : xl.cps.size ≤ 1000) (hxd : ∀ k ∈ xl.cps, ¬ (48 ≤ k ∧ k ≤ 57)) (hg : ∀ p lp, (famF ab).lookup p = some lp → HostOk lp ∧ Txt.endswith xl (PySem.Str.ofString "." ++ hostF lp) = g p) (hret : ∀ (D : Addr) (vs : List Value) (e : Nat) (nn : List (Addr × Obj)) (h' : Heap) (tk' : Nat), (D, ({ cls := .type "list", data := .seq (List.toArray vs) e } : Obj)) ∈ nn → IntsAre vs (intsN (foreF ab g 5)) → (∀ p ∈ news, p ∈ nn) → Fr h₀ L h' m → News h₀ L h' nn → Q (.ref D) { s with heap := h', toks := tk' }), (∀ g0 L9 h0 k0, Bx (ctR g0 L9 h0 k0)) → wpAny (model PySem.Challenge.rw_xe0048_01.row.prog w) (ktrTop dp un gd cn cs L a ccd cl outer) (call (.ref 252) [.str x t, .ref dd, .ref dh]) Q E s) := ⟨_, by
  intro C md hsm hdi hab hok mh hhi hh hxu hxl hxul hlo hl1 hxs hxd hg hret ctH
  k_with_none
  refine nmG fun gG9 kG9 => ?_
  obtain ⟨B, F, X, N, T, kf, hd, hu⟩ := C
  refine kG9 ?_
  clear kG9 gG9
  revert X
  k_fill
  intro X
  refine wpAny_call ?_
  k_dflt (refine' code_defC ?k1 ?k2 ?k3 ?k4 ?k5 ?kA ?kF ?kK ?k6 ?k7 ?k8 ?k9 ?kB ?kD ?_ ?c2 ?c3 ?c4; (case kA => exact rfl); (case kF => exact rfl); (case kK => assumption); (case k1 => k_asm); (case k2 => k_asm); (case k3 => k_asm); (case k4 => k_asm); (case k5 => k_asm); (case k6 => k_is); (case k7 => k_is); (case k8 => ktr_room); (case k9 => exact BindsTo.of_eq rfl); (case kB => exact rfl); (case kD => decide +kernel); (case c2 => exact rfl); (case c3 => exact rfl); (case c4 => exact rfl); k_whole; exact fun g0 L9 h0 k0 => (ctH g0 L9 h0 k0).out)⟩
theorem ned : Nonempty ((Heap) × (Addr) × (Heap) × (Nat)) := ⟨(default, default, default, default)⟩
noncomputable def ctd := pk ned fun v => Bx (ctA.1 v.1 v.2.1 v.2.2.1 v.2.2.2)
noncomputable def g0 : Heap := ctd.1
noncomputable def L9 : Addr := ctd.2.1
noncomputable def h0 : Heap := ctd.2.2.1
noncomputable def k0 : Nat := ctd.2.2.2
theorem ctB (C : At w mean mg mb 3 dp un cs outer A₀ base h₀ L m news s.heap) (md : (dd, od) ∈ news) (hsm : (dd == sysModules) = false) (hdi : od.IsDictOf (intKind PySem.Challenge.rw_xe0048_01.row.prog w) kvs) (hab : AbIs kvs ab) (hok : AbOk 5 ab) (mh : (dh, oh) ∈ news) (hhi : oh.IsDictOf (intKind PySem.Challenge.rw_xe0048_01.row.prog w) kh) (hh : DictF RH kh (famF ab)) (hxu : Txt.upper x = xu) (hxl : x.length ≤ 1000) (hxul : xu.length ≤ 900) (hlo : Txt.lower (PySem.Str.ofString "X." ++ xu) = xl) (hl1 : (PySem.Str.ofString "X." ++ xu).length ≤ 1000) (hxs : xl.cps.size ≤ 1000) (hxd : ∀ k ∈ xl.cps, ¬ (48 ≤ k ∧ k ≤ 57)) (hg : ∀ p lp, (famF ab).lookup p = some lp → HostOk lp ∧ Txt.endswith xl (PySem.Str.ofString "." ++ hostF lp) = g p) (hret : ∀ (D : Addr) (vs : List Value) (e : Nat) (nn : List (Addr × Obj)) (h' : Heap) (tk' : Nat), (D, ({ cls := .type "list", data := .seq (List.toArray vs) e } : Obj)) ∈ nn → IntsAre vs (intsN (foreF ab g 5)) → (∀ p ∈ news, p ∈ nn) → Fr h₀ L h' m → News h₀ L h' nn → Q (.ref D) { s with heap := h', toks := tk' }) : Bx (ctA.1 g0 L9 h0 k0) := by
  refine ⟨?_⟩
  dsimp only [ctA]
  k_with_none
  k_with "eval ListComp" => ((k_here; (with_reducible show wpAny _ _ (eval (PySem.Expr.ListComp _ [⟨_, _, [_], _⟩] _ _) _) _ _ _); k_dflt (refine ListComp_DT (knd := PySem.intKind _ _) (F₀ := by k_asm) (by with_unfolding_all rfl) (by decide) (by rfl) (by decide) (by rfl) ?_)))
  k_with "call ref" => (((with_reducible show wpAny _ _ (call (Value.ref 64) _) _ _ _); k_dflt (refine' udm_ct ⟨?k1.«_@»._hyg, ?k2.«_@»._hyg, ?k3.«_@»._hyg, ?k4.«_@»._hyg, ?k5.«_@»._hyg, ?k6.«_@»._hyg, ?k7.«_@»._hyg, ?k8.«_@»._hyg⟩ ?g1.«_@»._hyg ?g2.«_@»._hyg ?g3.«_@»._hyg ?g4.«_@»._hyg ?g5.«_@»._hyg ?g6.«_@»._hyg ?g7.«_@»._hyg ?g8.«_@»._hyg ?g9.«_@»._hyg ?_; (case k1 => k_asm); (case k2 => k_asm); (case k3 => k_in); (case k4 => k_asm); (case k5 => k_asm); (case k6 => first | exact rfl | assumption); (case k7 => ktr_room); (case k8 => ktr_units); (case g1 => assumption); (case g2 => assumption); (case g3 => assumption); (case g4 => assumption); (case g5 => assumption); (case g6 => assumption); (case g7 => assumption); (case g8 => assumption); (case g9 => assumption)); intro h'z9 tk'z9 F'z9 N'z9))
  k_with "subscriptTail" => (((with_reducible show wpAny _ _ (subscriptTail _ _ (Value.ref _) (Value.int _ _)) _ _ _); (k_dflt (refine' kda_item (knd := PySem.intKind _ _) ?c1.«_@»._hyg ?c2.«_@»._hyg ?c3.«_@»._hyg ?c4.«_@»._hyg ?c5.«_@»._hyg ?_ ?c7.«_@»._hyg ?c8.«_@»._hyg; (case c1 => k_asm); (case c2 => k_mem); (case c3 => assumption); (case c4 => exact intKind_is _ _ _ _); (case c5 => assumption); (case c7 => with_unfolding_all rfl); (case c8 => (intro _; with_unfolding_all rfl))))))
  k_with "call builtin:str.upper" => (((try dsimp only); (k_dflt (refine' mupper ?a.«_@»._hyg ?b.«_@»._hyg ?_; (case a => assumption); (case b => assumption)))))
  k_with "binaryOp Add str str" => ((k_dflt (refine' madds ?a.«_@»._hyg ?b.«_@»._hyg ?_; (case a => first | assumption | decide | omega); (case b => first | assumption | decide | omega)); intro _ _))
  refine nmG fun gG9 kG9 => ?_
  obtain ⟨B, F, X, N, T, kf, hd, hu⟩ := C
  refine kG9 ?_
  clear kG9 gG9
  revert X
  k_fill
  intro X
  have hxul' : xu.length ≤ 1000 := by omega
  intro cells' FG' F9 N9 Y' B' X' T' lnews
  (have hY := CellsAre.two Y')
  (obtain ⟨oP, oL, hE', dP, dL⟩ := hY)
  subst hE'
  clear Y'
  (try simp only [List.cons_append, List.nil_append] at N9)
  (try dsimp only)
  have z1 : L9 + 1 + 1 ≠ L9 + 1 := Nat.ne_of_gt (Nat.lt_succ_self _)
  have w1 : ∀ p ∈ news, p.1 ≠ L9 + 1 := fun p hp => Nat.ne_of_lt (Nat.lt_succ_of_lt (lnews p hp))
  have w2 : ∀ p ∈ news, p.1 ≠ L9 + 1 + 1 := fun p hp => Nat.ne_of_lt (Nat.lt_succ_of_lt (Nat.lt_succ_of_lt (lnews p hp)))
  obtain ⟨ep, hat⟩ := dict_at_of (d := dd) hdi
  have hkl := hab.len
  have hal := hok.good.len
  k_steps
  unfold Hold
  (with_reducible rename (_ : Obj).data = Data.cell (some (Value.str _ _)) => dX)
  obtain ⟨oX, eX⟩ := nameO dX
  subst eX
  (with_reducible rename News _ _ _ ((L9 + 1 + 1, oX) :: _) => N2)
  (with_reducible rename Fr _ L9 _ (_ : Str → Option Value) => F2)
  refine ⟨dd, od, kvs, ep, _, rfl, rfl, hsm, F2, N2, .tail _ (.tail _ md), hat, by rw [sizeLine_eq]; omega, fun g0 => mrestT ((L9 + 1 + 1, oX) :: (L9 + 1, oL) :: news) (fun i ys _ => IntsAre ys (intsN (foreF ab g i))) (fun p hp => hp) .nil ?turn ?done⟩
  case turn =>
    intro i v ys nn I oI C oC D m₂ h tk E' hi hz9
    refine nmG fun gG9 kG9 => ?_
    obtain ⟨k, y, hiv, hkv⟩ := hz9
    refine kG9 ?_
    clear kG9 gG9
    intro hkn hJ hC hx F N off ne
    refine nmG fun gG9 kG9 => ?_
    obtain ⟨tv, rfl⟩ := Value.isInt_shape hkv
    refine ex3 (hab.at_ hiv) ?_
    intro p q tq y9w1
    refine an3 (y9w1) ?_
    intro hpq y9z2 y9z4
    clear y9w1
    subst y9z2
    subst y9z4
    obtain ⟨lp, hlp⟩ := famF_mem (ab := ab) (q := p) (.inr ⟨q, List.mem_of_getElem? hpq⟩)
    obtain ⟨⟨ho1, ho2, ho3, ho4, ho5⟩, hgp⟩ := hg p lp hlp
    obtain ⟨vh, hvh, th9, rfl⟩ := hh.get hlp
    refine kG9 ?_
    clear kG9 gG9
    have ho6 : (PySem.Str.ofString "." ++ hostF lp).cps.size ≤ 1000 := ho2
    have mA := hkn _ (.head _)
    have mB := hkn _ (.tail _ (.head _))
    have mH := hkn _ (.tail _ (.tail _ mh))
    have mDD := hkn _ (.tail _ (.tail _ md))
    clear N2 F2
    k_steps
    · (with_reducible rename (Txt.endswith _ _ == true) = true => ht)
      have hgt : g p = true := by rw [← hgp]; simpa using ht
      refine cend (by assumption) (by assumption) (.head _) (.tail _ (.head _)) (.tail _ (.tail _ (.head _))) (fun p hp => .tail _ (.tail _ (.tail _ hp))) off mDD ⟨hkn, ?_⟩
      have e9 : intsN (foreF ab g (i + 1)) = intsN (foreF ab g i) ++ [(p : Int)] := by rw [foreF_succ hpq, if_pos hgt]; simp [intsN]
      rw [e9]
      exact hJ.append (.cons _ _ .nil)
    · (with_reducible rename (Txt.endswith _ _ == true) = false => ht)
      have hgt : ¬ g p = true := by rw [← hgp]; simpa using ht
      refine cend (by assumption) (by assumption) (.head _) (.tail _ (.head _)) (.tail _ (.tail _ (.head _))) (fun p hp => .tail _ (.tail _ (.tail _ hp))) off mDD ⟨hkn, ?_⟩
      have e9 : intsN (foreF ab g (i + 1)) = intsN (foreF ab g i) := by rw [foreF_succ hpq, if_neg hgt, List.append_nil]
      rw [e9]
      exact hJ
  case done =>
    intro ys nn hkn hJ
    intro D2 h tk F N off1
    rw [hkl] at hJ
    have e5 : foreF ab g ab.length = foreF ab g 5 := by unfold foreF; rw [List.take_of_length_le (Nat.le_refl _), List.take_of_length_le (by omega)]
    rw [e5] at hJ
    k_steps
    exact hret D2 ys _ _ _ _ (.head _) hJ (fun p hp => .tail _ (hkn p (.tail _ (.tail _ hp)))) (by assumption) (by assumption)
theorem ctT : ctS w mean mg mb dp un gd cn cs a ccd cl outer A₀ base h₀ L m s Q E news x xu t dd dh od oh kvs kh ab xl g := ⟨fun C md hsm hdi hab hok mh hhi hh hxu hxl hxul hlo hl1 hxs hxd hg hret => ctA.2 C md hsm hdi hab hok mh hhi hh hxu hxl hxul hlo hl1 hxs hxd hg hret (pk_all4 (ne := ned) (R := fun g0 L9 h0 k0 => Bx (ctA.1 g0 L9 h0 k0)) rfl rfl rfl rfl (ctB C md hsm hdi hab hok mh hhi hh hxu hxl hxul hlo hl1 hxs hxd hg hret))⟩
theorem all : ∀ v : V0 × ((Str) × (Str) × (Tok) × (Addr) × (Addr) × (Obj) × (Obj) × (List (Int × Value)) × (List (Int × Value)) × (List (Nat × Nat)) × (Str) × (Nat → Bool)), ctS v.1.w v.1.mean v.1.mg v.1.mb v.1.dp v.1.un v.1.gd v.1.cn v.1.cs v.1.a v.1.ccd v.1.cl v.1.outer v.1.A₀ v.1.base v.1.h₀ v.1.L v.1.m v.1.s v.1.Q v.1.E v.1.news v.2.1 v.2.2.1 v.2.2.2.1 v.2.2.2.2.1 v.2.2.2.2.2.1 v.2.2.2.2.2.2.1 v.2.2.2.2.2.2.2.1 v.2.2.2.2.2.2.2.2.1 v.2.2.2.2.2.2.2.2.2.1 v.2.2.2.2.2.2.2.2.2.2.1 v.2.2.2.2.2.2.2.2.2.2.2.1 v.2.2.2.2.2.2.2.2.2.2.2.2 := pk_all (ne := ne) (P := fun v => ctS v.1.w v.1.mean v.1.mg v.1.mb v.1.dp v.1.un v.1.gd v.1.cn v.1.cs v.1.a v.1.ccd v.1.cl v.1.outer v.1.A₀ v.1.base v.1.h₀ v.1.L v.1.m v.1.s v.1.Q v.1.E v.1.news v.2.1 v.2.2.1 v.2.2.2.1 v.2.2.2.2.1 v.2.2.2.2.2.1 v.2.2.2.2.2.2.1 v.2.2.2.2.2.2.2.1 v.2.2.2.2.2.2.2.2.1 v.2.2.2.2.2.2.2.2.2.1 v.2.2.2.2.2.2.2.2.2.2.1 v.2.2.2.2.2.2.2.2.2.2.2.1 v.2.2.2.2.2.2.2.2.2.2.2.2) ctT
end Zfore_ct
section
variable {w : World} {mean : ExcName → Option Value} {mg mb : Str → Option Value} {dp un : Nat} {gd : Option (List Code)} {cn : Str} {cs : Scope} {a : Addr} {ccd : Value} {cl : List (Str × Addr)} {outer : List Env} {A₀ : Around} {base h₀ : Heap} {L : Addr} {m : Str → Option Value} {s : Shared} {Q E : Value → Shared → Prop} {news : List (Addr × Obj)}
theorem fore_ct  (C : At w mean mg mb 3 dp un cs outer A₀ base h₀ L m news s.heap) {x xu : Str} {t : Tok} {dd dh : Addr} {od oh : Obj} {kvs kh : List (Int × Value)} {ab : List (Nat × Nat)}
  (md : (dd, od) ∈ news) (hsm : (dd == sysModules) = false) (hdi : od.IsDictOf (intKind PySem.Challenge.rw_xe0048_01.row.prog w) kvs) (hab : AbIs kvs ab) (hok : AbOk 5 ab)
  (mh : (dh, oh) ∈ news) (hhi : oh.IsDictOf (intKind PySem.Challenge.rw_xe0048_01.row.prog w) kh) (hh : DictF RH kh (famF ab)) (hxu : Txt.upper x = xu) (hxl : x.length ≤ 1000) (hxul : xu.length ≤ 900) {xl : Str} (hlo : Txt.lower (PySem.Str.ofString "X." ++ xu) = xl) (hl1 : (PySem.Str.ofString "X." ++ xu).length ≤ 1000) (hxs : xl.cps.size ≤ 1000) (hxd : ∀ k ∈ xl.cps, ¬ (48 ≤ k ∧ k ≤ 57))
  {g : Nat → Bool} (hg : ∀ p lp, (famF ab).lookup p = some lp → HostOk lp ∧ Txt.endswith xl (PySem.Str.ofString "." ++ hostF lp) = g p)
  (hret : ∀ (D : Addr) (vs : List Value) (e : Nat) (nn : List (Addr × Obj)) (h' : Heap) (tk' : Nat), (D, ({ cls := .type "list", data := .seq (List.toArray vs) e } : Obj)) ∈ nn → IntsAre vs (intsN (foreF ab g 5)) → (∀ p ∈ news, p ∈ nn) → Fr h₀ L h' m → News h₀ L h' nn → Q (.ref D) { s with heap := h', toks := tk' }) :
  wpAny (model PySem.Challenge.rw_xe0048_01.row.prog w) (ktrTop dp un gd cn cs L a ccd cl outer) (call (.ref 252) [.str x t, .ref dd, .ref dh]) Q E s := by
  exact (Zfore_ct.all ⟨⟨w, mean, mg, mb, dp, un, gd, cn, cs, a, ccd, cl, outer, A₀, base, h₀, L, m, s, Q, E, news⟩, x, xu, t, dd, dh, od, oh, kvs, kh, ab, xl, g⟩).out C md hsm hdi hab hok mh hhi hh hxu hxl hxul hlo hl1 hxs hxd hg hret
end
end Mine
end
theorem Mine.rstP4 : True := by
  w_top off
  trivial
section
open PySem PySem.W PyProof.Rows PySem.Calls PySem.Spec PyProof.V
set_option Elab.async false
set_option maxRecDepth 100000
set_option maxHeartbeats 1000000
namespace Mine
/-- the inner loop once more, each state looked at once -/
noncomputable def dpQ (bc : Nat) (a : List Nat) (row : List Int) (z : Int) : Nat → Int × Int × List Int
  | 0 => (z, z, row)
  | n + 1 => match dpQ bc a row z n with
    | (d, r, w) => match min (min r (w.getD n 0) + 2) (d + costF bc (a.getD n 0)) with
      | x => (w.getD n 0, x, w.set n x)
theorem dpQ_eq (bc : Nat) (a : List Nat) (row : List Int) (z : Int) : ∀ n, dpQ bc a row z n = dpIn bc a row z n
  | 0 => rfl
  | n + 1 => by unfold dpQ dpIn; rw [dpQ_eq bc a row z n]
noncomputable def outQ (a b : List Nat) : Nat → Int × List Int
  | 0 => (0, row0 a.length)
  | n + 1 => match outQ a b n with
    | (_, w) => (dpQ (b.getD n 0) a w ((n : Int) * 2) a.length).2
theorem outQ_eq (a b : List Nat) : ∀ n, outQ a b n = dpOut a b n
  | 0 => rfl
  | n + 1 => by
    unfold outQ dpOut
    rw [outQ_eq a b n]
    show (dpQ (b.getD n 0) a (dpOut a b n).2 ((n : Int) * 2) a.length).2 = _
    rw [dpQ_eq]
noncomputable def levQ (r q : List Nat) : Int := if r = [] ∨ q = [] then 2 * ((r.length : Int) + q.length) else if q.length < r.length then (outQ q r r.length).1 else (outQ r q q.length).1
noncomputable def subs : List Nat → List (List Nat)
  | [] => [[]]
  | a :: r => subs r ++ (subs r).map (a :: ·)
theorem mem_subs {l r : List Nat} (h : l.Sublist r) : l ∈ subs r := by
  induction h with
  | slnil => exact .head _
  | cons a _ ih => exact List.mem_append_left _ ih
  | cons_cons a _ ih => exact List.mem_append_right _ (List.mem_map.mpr ⟨_, ih, rfl⟩)
noncomputable def cpl : List Nat → List Nat → Nat
  | a :: r, b :: s => if a = b then cpl r s + 1 else 0
  | _, _ => 0
noncomputable def lows (l : List Nat) : List Nat := l.map (96 + ·)
noncomputable def upps (l : List Nat) : List Nat := l.map (64 + ·)
noncomputable def treeOk (l1 l2 : List Nat) : Bool := (l1.drop (cpl l1 l2)).all fun x => !(l2.drop (cpl l1 l2)).contains x
noncomputable def pairOk (l1 l2 : List Nat) : Bool :=
  !treeOk l1 l2 || (decide (levQ (lows (l1.drop (cpl l1 l2))) (lows (l2.drop (cpl l1 l2))) = 2 * (max (l1.length : Int) l2.length - (l1.filter fun k => l2.contains k).length)) &&
    decide (levQ (upps l1) (lows l2) = 2 * (max (l1.length : Int) l2.length - (l1.filter fun k => l2.contains k).length) + (l1.filter fun k => l2.contains k).length))
theorem pairs_ok : ∀ l1 ∈ subs [1, 2, 3, 4, 5], ∀ l2 ∈ subs [1, 2, 3, 4, 5], pairOk l1 l2 = true := by decide +kernel
end Mine
end
theorem Mine.rstP5 : True := by
  w_top off
  trivial
section
open PySem PySem.W PyProof.Rows PySem.Calls PySem.Spec PyProof.V
set_option Elab.async false
set_option maxRecDepth 100000
set_option maxHeartbeats 1000000
namespace Mine
theorem levQ_eq (r q : List Nat) : levQ r q = levF r q := by unfold levQ levF; rw [outQ_eq, outQ_eq]
/-- every table of parents -/
noncomputable def allAb : Nat → List (List (Nat × Nat))
  | 0 => [[]]
  | i + 1 => allAb i ++ (allAb i).flatMap fun ab => (0 :: ab.map (·.1)).map fun q => ab ++ [(i + 1, q)]
theorem AbOk.mem {n : Nat} {ab : List (Nat × Nat)} (h : AbOk n ab) : ab ∈ allAb n := by
  induction h with
  | nil => exact .head _
  | skip _ ih => exact List.mem_append_left _ ih
  | @add i q ab _ hq ih =>
    refine List.mem_append_right _ (List.mem_flatMap.mpr ⟨ab, ih, List.mem_map.mpr ⟨q, ?_, rfl⟩⟩)
    rcases hq with rfl | ⟨v, hv⟩
    · exact .head _
    · exact .tail _ (List.mem_map.mpr ⟨_, hv, rfl⟩)
theorem ab_ok (ps : List (List Nat × Nat)) : ∀ i, AbOk i (plainF ps i).ab ∧ ∀ x ∈ (plainF ps i).rc, x = 0 ∨ ∃ v, (x, v) ∈ (plainF ps i).ab := by
  intro i
  induction i with
  | zero => exact ⟨.nil, by simp [plainF]⟩
  | succ i ih =>
    obtain ⟨h1, h2⟩ := ih
    show AbOk (i + 1) (stepF ps (plainF ps i) (i + 1)).ab ∧ ∀ x ∈ (stepF ps (plainF ps i) (i + 1)).rc, x = 0 ∨ ∃ v, (x, v) ∈ (stepF ps (plainF ps i) (i + 1)).ab
    unfold stepF
    dsimp only
    split
    · refine ⟨.add h1 ?_, fun x hx => ?_⟩
      · cases e : (plainF ps i).rc with
        | nil => exact .inl rfl
        | cons a r => exact h2 a (by rw [e]; exact .head _)
      · rcases mcs hx with rfl | hx
        · exact .inr ⟨_, List.mem_append_right _ (.head _)⟩
        · exact (h2 x hx).imp_right fun ⟨v, hv⟩ => ⟨v, List.mem_append_left _ hv⟩
    · obtain ⟨l, el⟩ := popF_suf ps (i + 1) (plainF ps i).rc
      split
      · rename_i z a r e
        rw [e] at el
        refine ⟨.add h1 (h2 a (by rw [el]; simp)), fun x hx => ?_⟩
        rcases mcs hx with rfl | hx
        · exact .inr ⟨_, List.mem_append_right _ (.head _)⟩
        · exact (h2 x (by rw [el]; exact List.mem_append_right _ (.tail _ hx))).imp_right fun ⟨v, hv⟩ => ⟨v, List.mem_append_left _ hv⟩
      · exact ⟨.skip h1, h2⟩
noncomputable def kinOf (ab : List (Nat × Nat)) (p : Nat) : List Nat := ((famF ab).lookup p).getD []
noncomputable def five : List Nat := [1, 2, 3, 4, 5]
/-- what a table of parents tells of kin -/
noncomputable def abChk (ab : List (Nat × Nat)) : Bool :=
  ab.all fun p => (subs five).contains (kinOf ab p.1) && decide (kinOf ab p.1 = kinOf ab p.2 ++ [p.1]) && decide (foreF ab (fun k => (kinOf ab k).isPrefixOf (kinOf ab p.1)) 5 = kinOf ab p.1) &&
    ab.all fun q => treeOk (kinOf ab p.1) (kinOf ab q.1)
theorem abs_chk : ∀ ab ∈ allAb 5, abChk ab = true := by decide +kernel
noncomputable def xhostF (l : List Nat) : Str := mk ([120, 46] ++ (hostF l).cps.toList)
noncomputable def uhostF (l : List Nat) : Str := mk ((hostF l).cps.toList.map fun c => if 97 ≤ c ∧ c ≤ 122 then c - 32 else c)
theorem hosts_ok0 : ∀ l ∈ subs five, Txt.lower (PySem.Str.ofString "." ++ hostF l) = PySem.Str.ofString "." ++ hostF l ∧ (PySem.Str.ofString "." ++ hostF l).length ≤ 1000 ∧ (hostF l).length ≤ 1000 ∧ (∀ k ∈ (PySem.Str.ofString "." ++ hostF l).cps, ¬ (48 ≤ k ∧ k ≤ 57)) ∧ Txt.startswith (PySem.Str.ofString "." ++ hostF l) (PySem.Str.ofString ".") = true := by decide +kernel
theorem hosts_ok : ∀ l ∈ subs five, HostOk l := fun l hl => let ⟨a, b, c, d, e⟩ := hosts_ok0 l hl; ⟨a, b, c, d, e⟩
theorem hosts_up : ∀ l ∈ subs five, Txt.upper (hostF l) = uhostF l ∧ (uhostF l).length ≤ 900 ∧ Txt.lower (PySem.Str.ofString "X." ++ uhostF l) = xhostF l ∧ (PySem.Str.ofString "X." ++ uhostF l).length ≤ 1000 ∧ (xhostF l).cps.size ≤ 1000 ∧ (∀ k ∈ (xhostF l).cps, ¬ (48 ≤ k ∧ k ≤ 57)) := by decide +kernel
theorem hosts_ends : ∀ l1 ∈ subs five, ∀ l2 ∈ subs five, Txt.endswith (xhostF l1) (PySem.Str.ofString "." ++ hostF l2) = l2.isPrefixOf l1 := by decide +kernel
theorem hosts_reach : ∀ l ∈ subs five, l = [] ∨ ((hostF l).cps.size ≤ 1000 ∧ (∀ k ∈ (hostF l).cps, ¬ (48 ≤ k ∧ k ≤ 57)) ∧ 1 ≤ (hostF l).length ∧ (hostF l == PySem.Str.ofString "") = false ∧ (Txt.item (hostF l) 0 == PySem.Str.ofString ".") = false ∧ (Txt.item (hostF l) (-1) == PySem.Str.ofString ".") = false ∧
    Txt.find (hostF l) (PySem.Str.ofString ".") = 1 ∧ Txt.slice (hostF l) (some (1 + 1)) none = hostF l.dropLast ∧ (hostF l.dropLast).length ≤ 1000 ∧ (0 ≤ Txt.find (hostF l.dropLast) (PySem.Str.ofString ".") ∨ hostF l.dropLast = PySem.Str.ofString "local")) := by decide +kernel
theorem letters_lo : ∀ c, (65 ≤ c ∧ c ≤ 69) ∨ (97 ≤ c ∧ c ≤ 101) → Txt.lower (⟨#[c]⟩ : Str) = ⟨#[lo c]⟩ := fun c h =>
  (by decide +kernel : ∀ c, c < 102 → (65 ≤ c ∧ c ≤ 69) ∨ (97 ≤ c ∧ c ≤ 101) → Txt.lower (⟨#[c]⟩ : Str) = ⟨#[lo c]⟩) c (h.elim (fun h => Nat.lt_of_le_of_lt h.2 (by decide)) (fun h => Nat.lt_of_le_of_lt h.2 (by decide))) h
theorem names_up : ∀ l ∈ subs five, Txt.upper (nameF l) = mk (upps l) ∧ (nameF l).length ≤ 1000 := by decide +kernel
end Mine
end
theorem Mine.rstL18 : True := by
  w_top off
  trivial
section
open PySem PySem.W PyProof.Rows PySem.Calls PySem.Spec PyProof.V
set_option Elab.async false
set_option maxRecDepth 100000
set_option maxHeartbeats 1000000
namespace Mine
section
variable {prog : Program} {w : World} {A : Around} {E : Value → Shared → Prop} {s : Shared} {x : Str} {body : List Stmt} {Q : Flow → Shared → Prop} {cn : Str} {cs : Scope} {L a c : Addr} {ccd : Value} {cl : List (Str × Addr)}
noncomputable def EndC (h₀ : Heap) (L c I : Addr) (oI : Obj) (keep : List (Addr × Obj)) (ps : List (Str × Value)) (s₁ : Shared) (f : Flow) (s₂ : Shared) : Prop :=
  f = .next ∧ ∃ h' tk m' nn oc v, s₂ = { s₁ with heap := h', toks := tk } ∧ Fr h₀ L h' m' ∧ News h₀ L h' nn ∧ (I, oI) ∈ nn ∧ (∀ p ∈ keep, p ∈ nn) ∧ (c, oc) ∈ nn ∧ oc.data = .cell v ∧ (∀ p ∈ ps, m' p.1 = some p.2)
/-- a loop over a dict's keys whose name is a cell -/
theorem For_C {K : Type} [DecidableEq K] {knd : KeyKind prog w K} {px pos : Pos} {iter : Expr} (h₀ : Heap) (hkf : cs.kind = .function) (hx : (envX cn cs L a ccd cl).kindOf x = some .cell) (hc : cl.lookup x = some c) (hh : A.handled = none)
    (h : wpAny (model prog w) A (eval iter (envX cn cs L a ccd cl)) (fun xv s₁ => Hold (∃ (d : Addr) (od : Obj) (kvs : List (K × Value)) (ep : Nat) (m₀ : Str → Option Value) (keep : List (Addr × Obj)) (oc : Obj) (v : Option Value) (ps : List (Str × Value)), xv = .ref d ∧ (d == sysModules) = false ∧ (d, od) ∈ keep ∧ (∀ h : Heap, h.get? d = some od → h.DictAt knd d kvs ep) ∧ (∀ p ∈ keep, p.1 ≠ c) ∧
      Fr h₀ L s₁.heap m₀ ∧ News h₀ L s₁.heap ((c, oc) :: keep) ∧ oc.data = .cell v ∧ (∀ p ∈ ps, m₀ p.1 = some p.2) ∧
      (∀ (i : Nat) (v : Value) (k : K) (y : Value) (h : Heap) (tk : Nat) (u : Str → Option Value) (I : Addr) (oI oc' : Obj), kvs[i]? = some (k, y) → knd.is k v = true → oc'.data = .cell (some v) → Fr h₀ L h (kstB u ps) → News h₀ L h ((I, oI) :: (c, oc') :: keep) → (∀ p ∈ keep, p.1 ≠ I) → c ≠ I →
        wpAny (model prog w) A (execs body (envX cn cs L a ccd cl)) (EndC h₀ L c I oI keep ps { s₁ with heap := h, toks := tk }) E { s₁ with heap := h, toks := tk }) ∧
      (∀ (h : Heap) (tk : Nat) (u : Str → Option Value) (oc' : Obj) (v' : Option Value), Fr h₀ L h (kstB u ps) → News h₀ L h ((c, oc') :: keep) → oc'.data = .cell v' → Q .next { s₁ with heap := h, toks := tk }))) E s)
    (hs : ∀ x, foldedSetIterable iter (envX cn cs L a ccd cl) x = pure x) (hE : PassesOwn (model prog w) A (envX cn cs L a ccd cl) E) :
    wpAny (model prog w) A (exec (.For (.Name x px) iter body [] pos) (envX cn cs L a ccd cl)) Q E s := by
  refine wpAny_For (wpAny_mono h (fun xv s₁ h₁ => ?_) fun _ _ e => e) hs
  refine nmG fun gG9 kG9 => ?_
  refine ex9 (h₁) ?_
  intro d od kvs ep m₀ keep oc v ps y9w1
  refine an11 (y9w1) ?_
  intro y9z2 hsm hd hat hkc F N hoc hps step hQ
  clear y9w1
  try clear h₁
  subst y9z2
  refine kG9 ?_
  clear kG9 gG9
  have hg := (N _ (.tail _ hd)).1
  have hlt : d < s₁.heap.objs.size := Heap.lt_size hg
  refine wpAny_pyIter_dict hsm (hat _ hg) ?_
  have W := Walks.dictKeys (prog := prog) (w := w) (knd := knd) hh s₁.heap.objs.size d (Nat.ne_of_lt hlt) kvs ep
  generalize hI : s₁.heap.objs.size = I at W
  have hNI : ∀ p ∈ (c, oc) :: keep, p.1 ≠ I := fun p hp => hI ▸ Nat.ne_of_lt (Heap.lt_size (N p hp).1)
  have hIh : h₀.get? I = none := hI ▸ next_is_new F
  have hLI : L ≠ I := hI ▸ Nat.ne_of_lt F.ns.lt
  have hcI : c ≠ I := hNI _ (.head _)
  have hdI : d ≠ I := hNI _ (.tail _ hd)
  have hcL : c ≠ L := (N _ (.head _)).2.1
  have hc0 : h₀.get? c = none := (N _ (.head _)).2.2
  have hcd : c ≠ d := fun e => hkc _ hd e.symm
  have old : ∀ b o, s₁.heap.get? b = some o → (s₁.heap.push { cls := .type "dict_keyiterator", data := .fields #[.ref d, .int 0 0, .int kvs.length 0, .int ep 0] }).get? b = some o := fun b o e => Heap.get?_push_of_some _ e
  refine codeAny_forLoop
    (fun k s' => ∃ h' tk m' i oc v, s' = { s₁ with heap := h', toks := tk } ∧ (h'.IsKeyIter I d i kvs.length ep ∧ h'.DictAt knd d kvs ep) ∧ Fr h₀ L h' m' ∧ News h₀ L h' ((c, oc) :: keep) ∧ oc.data = .cell v ∧ (∀ p ∈ ps, m' p.1 = some p.2) ∧ i ≤ kvs.length ∧ k = kvs.length + 1 - i) ?_ (kvs.length + 1)
    ⟨_, _, m₀, 0, oc, v, rfl, ⟨by subst hI; exact ⟨_, Heap.get?_push_size _ rfl, rfl, rfl⟩, hat _ (old _ _ hg)⟩, F.push _, fun p hp => ⟨old _ _ (N p hp).1, (N p hp).2⟩, hoc, hps, Nat.zero_le _, rfl⟩
  intro k s' hz9
  refine nmG fun gG9 kG9 => ?_
  refine ex6 (hz9) ?_
  intro h' tk m' i oc' v' y9w1
  refine an8 (y9w1) ?_
  intro y9z2 hst' F' N' hoc' hps' hi y9z4
  clear y9w1
  try clear hz9
  subst y9z2
  subst y9z4
  refine kG9 ?_
  clear kG9 gG9
  have next : ∀ h₁ : Heap, (∀ b o, b ∉ [I] → h'.get? b = some o → h₁.get? b = some o) → Fr h₀ L h₁ m' ∧ News h₀ L h₁ ((c, oc') :: keep) := fun h₁ hk₁ =>
    ⟨⟨F'.ns.at' fun o e => hk₁ _ o (by simpa using hLI) e, fun b o e => hk₁ b o (by
      intro hm
      rw [List.mem_singleton.mp hm, hIh] at e; cases e) (F'.keep b o e), F'.above⟩, fun p hp => ⟨hk₁ _ _ (by
      have : p.1 ≠ I := by
        rcases mcs hp with rfl | hp
        · exact hcI
        · exact hNI p (.tail _ hp)
      simpa using this) (N' p hp).1, (N' p hp).2⟩⟩
  by_cases hlt2 : i < kvs.length
  · refine W.item i _ _ _ hlt2 hst' fun v h₁ tk₁ hP hst₁ hk₁ => ?_
    obtain ⟨F₁, N₁⟩ := next h₁ hk₁
    refine wpAny_assign_Name (wpAny_storeName_cell hkf hx hc ⟨oc', (N₁ _ (.head _)).1, hoc'⟩ fun h₂ hv₂ hs₂ => ?_)
    refine nmG fun gG9 kG9 => ?_
    obtain ⟨oc2, hoc2, hd2⟩ := hv₂
    have F₂ := F₁.change hs₂ hcL hc0
    have hst₂ := W.frame _ _ _ hst₁ fun b hb o e => (hs₂.2 b fun q => by
      rcases List.mem_cons.mp hb with h | h
      · exact hcI (q.symm.trans h)
      · exact hcd (q.symm.trans (List.mem_singleton.mp h))).trans e
    obtain ⟨oI, hoI, _⟩ := id hst₂.1
    have N₂ : News h₀ L h₂ ((I, oI) :: (c, oc2) :: keep) := fun p hp => by
      rcases mcs hp with rfl | hp
      · exact ⟨hoI, hLI.symm, hIh⟩
      rcases mcs hp with rfl | hp
      · exact ⟨hoc2, hcL, hc0⟩
      · exact ⟨(hs₂.2 _ (hkc p hp)).trans (N₁ p (.tail _ hp)).1, (N₁ p (.tail _ hp)).2⟩
    obtain ⟨k, y, hk, hkv⟩ := hP
    refine kG9 ?_
    clear kG9 gG9
    refine wpAny_mono (wpAny_passesOwn hE (step i v k y h₂ _ _ I oI oc2 hk hkv hd2 (fr_map F₂ (kstB_self hps')) N₂ (fun p hp => hNI p (.tail _ hp)) hcI)) (fun f s₃ h₃ => ?_) fun _ _ e => e
    refine nmG fun gG9 kG9 => ?_
    refine an2 (h₃) ?_
    intro y9z1 y9w2
    refine ex6 (y9w2) ?_
    intro h₃' tk₃ m₂ nn₂ oc3 v3 y9w3
    refine an8 (y9w3) ?_
    intro y9z4 F₃ N₃ hmI hmk hmc hd3 hp3
    clear y9w3 y9w2
    try clear h₃
    subst y9z1
    subst y9z4
    refine kG9 ?_
    clear kG9 gG9
    refine ⟨kvs.length + 1 - (i + 1), by omega, h₃', tk₃, m₂, i + 1, oc3, v3, rfl, ⟨hst₂.1.at fun o e => by rw [hoI] at e; cases e; exact (N₃ _ hmI).1, hat _ (N₃ _ (hmk _ hd)).1⟩, F₃, fun p hp => ?_, hd3, hp3, hlt2, rfl⟩
    rcases mcs hp with rfl | hp
    · exact N₃ _ hmc
    · exact N₃ _ (hmk p hp)
  · have hin : i = kvs.length := by omega
    subst hin
    refine W.done _ _ _ hst' fun h₁ tk₁ hk₁ => wpAny_execs_nil ?_
    obtain ⟨F₁, N₁⟩ := next h₁ hk₁
    exact hQ h₁ tk₁ _ _ _ (fr_map F₁ (kstB_self hps')) N₁ hoc'
end
end Mine
end
theorem Mine.rstP6 : True := by
  w_top off
  trivial
section
open PySem PySem.W PyProof.Rows PySem.Calls PySem.Spec PyProof.V
set_option Elab.async false
set_option maxRecDepth 100000
set_option maxHeartbeats 1000000
namespace Mine
theorem fam_zero : ∀ ab ∈ allAb 5, (famF ab).lookup 0 = some [] := by decide +kernel
theorem subs_bd : ∀ l ∈ subs five, l.length ≤ 5 ∧ ∀ k ∈ l, 1 ≤ k ∧ k ≤ 5 := by decide +kernel
theorem cpl_take : ∀ (l1 l2 : List Nat), l1.take (cpl l1 l2) = l2.take (cpl l1 l2)
  | [], _ => by simp [cpl]
  | _ :: _, [] => by simp [cpl]
  | a :: r, b :: s => by
    unfold cpl
    split
    · rename_i e; subst e; simp [cpl_take r s]
    · simp
noncomputable def commonF (l1 l2 : List Nat) : List Nat := l1.filter fun k => l2.contains k
structure PairFacts (l1 l2 p r q : List Nat) : Prop where
  n1 : nameF l1 = mk (p ++ r)
  n2 : nameF l2 = mk (p ++ q)
  dj : ∀ c ∈ r, c ∉ q
  ln : p.length + r.length + q.length ≤ 15
  lo : ∀ c, c ∈ r ∨ c ∈ q → LoOk c
  near : levF r q = 2 * (max (l1.length : Int) l2.length - (commonF l1 l2).length)
  dj' : ∀ c ∈ upps l1, c ∉ lows l2
  ln' : ([] : List Nat).length + (upps l1).length + (lows l2).length ≤ 15
  lo' : ∀ c, c ∈ upps l1 ∨ c ∈ lows l2 → LoOk c
  up : Txt.upper (nameF l1) = mk (upps l1)
  ll : (nameF l1).length ≤ 1000
  n2' : nameF l2 = mk (lows l2)
  far : levF (upps l1) (lows l2) = levF r q + (commonF l1 l2).length
theorem pair_facts {l1 l2 : List Nat} (h1 : l1 ∈ subs five) (h2 : l2 ∈ subs five) (ht : treeOk l1 l2 = true) : ∃ p r q, PairFacts l1 l2 p r q := by
  refine nmG fun gG9 kG9 => ?_
  obtain ⟨b1, c1⟩ := subs_bd _ h1
  obtain ⟨b2, c2⟩ := subs_bd _ h2
  refine kG9 ?_
  clear kG9 gG9
  have hp := pairs_ok l1 h1 l2 h2
  unfold pairOk at hp
  rw [ht, levQ_eq, levQ_eq] at hp
  simp only [Bool.not_true, Bool.false_or, Bool.and_eq_true, decide_eq_true_eq] at hp
  refine nmG fun gG9 kG9 => ?_
  obtain ⟨e1, e2⟩ := hp
  obtain ⟨u1, u2⟩ := names_up _ h1
  refine kG9 ?_
  clear kG9 gG9
  unfold treeOk at ht
  have e : ∀ l : List Nat, lows l = lows (l.take (cpl l1 l2)) ++ lows (l.drop (cpl l1 l2)) := fun l => by unfold lows; rw [← List.map_append, List.take_append_drop]
  have hlo : ∀ c (l : List Nat), (∀ k ∈ l, 1 ≤ k ∧ k ≤ 5) → c ∈ lows l → 97 ≤ c ∧ c ≤ 101 := fun c l h hc => by
    obtain ⟨x, hx, rfl⟩ := List.mem_map.mp hc
    have := h x hx
    omega
  have hup : ∀ c (l : List Nat), (∀ k ∈ l, 1 ≤ k ∧ k ≤ 5) → c ∈ upps l → 65 ≤ c ∧ c ≤ 69 := fun c l h hc => by
    obtain ⟨x, hx, rfl⟩ := List.mem_map.mp hc
    have := h x hx
    omega
  refine ⟨lows (l1.take (cpl l1 l2)), lows (l1.drop (cpl l1 l2)), lows (l2.drop (cpl l1 l2)), ?_, ?_, ?_, ?_, ?_, e1, ?_, ?_, ?_, u1, u2, rfl, ?_⟩
  · show mk (lows l1) = _
    rw [← e l1]
  · show mk (lows l2) = _
    rw [cpl_take, ← e l2]
  · intro c hc hd
    refine nmG fun gG9 kG9 => ?_
    obtain ⟨x, hx, rfl⟩ := List.mem_map.mp hc
    obtain ⟨y, hy, e3⟩ := List.mem_map.mp hd
    refine kG9 ?_
    clear kG9 gG9
    have e4 : y = x := by omega
    subst e4
    have := List.all_eq_true.mp ht y hx
    simp at this
    exact this hy
  · unfold lows
    simp only [List.length_map, List.length_take, List.length_drop]
    omega
  · intro c hc
    refine letters_lo c (.inr ?_)
    rcases hc with hc | hc
    · exact hlo c _ (fun k hk => c1 k (List.mem_of_mem_drop hk)) hc
    · exact hlo c _ (fun k hk => c2 k (List.mem_of_mem_drop hk)) hc
  · intro c hc hd
    have := hup c _ c1 hc
    have := hlo c _ c2 hd
    omega
  · unfold lows upps
    simp only [List.length_map, List.length_nil]
    omega
  · intro c hc
    refine letters_lo c ?_
    rcases hc with hc | hc
    · exact .inl (hup c _ c1 hc)
    · exact .inr (hlo c _ c2 hc)
  · rw [e2, e1]; rfl
structure KinFacts (ab : List (Nat × Nat)) (p q : Nat) (lq : List Nat) : Prop where
  kp : (famF ab).lookup p = some (lq ++ [p])
  kq : (famF ab).lookup q = some lq
  sp : lq ++ [p] ∈ subs five
  sq : lq ∈ subs five
  fore : foreF ab (fun k => (kinOf ab k).isPrefixOf (lq ++ [p])) 5 = lq ++ [p]
  tree : ∀ r s l, (r, s) ∈ ab → (famF ab).lookup r = some l → l ∈ subs five ∧ treeOk (lq ++ [p]) l = true
theorem kin_all {ab : List (Nat × Nat)} (h : AbOk 5 ab) {p : Nat} {l : List Nat} (hl : (famF ab).lookup p = some l) : l ∈ subs five := by
  have hc := List.all_eq_true.mp (abs_chk ab h.mem)
  have hk : p ∈ (famF ab).map (·.1) := List.mem_map.mpr ⟨_, mem_of_lookup hl, rfl⟩
  rw [famF_keys] at hk
  rcases mcs hk with rfl | hk
  · rw [fam_zero ab h.mem] at hl
    cases hl
    decide +kernel
  · refine nmG fun gG9 kG9 => ?_
    obtain ⟨x, hx, rfl⟩ := List.mem_map.mp hk
    have := hc x hx
    simp only [Bool.and_eq_true, decide_eq_true_eq] at this
    obtain ⟨⟨⟨a, b⟩, c⟩, d⟩ := this
    refine kG9 ?_
    clear kG9 gG9
    unfold kinOf at a
    rw [hl] at a
    simpa using a
theorem ab_parent {n : Nat} {ab : List (Nat × Nat)} (h : AbOk n ab) : ∀ p q, (p, q) ∈ ab → q = 0 ∨ ∃ v, (q, v) ∈ ab := by
  induction h with
  | nil => intro p q h; cases h
  | skip _ ih => exact ih
  | @add i q ab _ hq ih =>
    intro p q' hm
    rcases List.mem_append.mp hm with hm | hm
    · exact (ih p q' hm).imp_right fun ⟨v, hv⟩ => ⟨v, List.mem_append_left _ hv⟩
    · cases List.mem_singleton.mp hm
      exact hq.imp_right fun ⟨v, hv⟩ => ⟨v, List.mem_append_left _ hv⟩
theorem kin_facts {ab : List (Nat × Nat)} (h : AbOk 5 ab) {p q : Nat} (hpq : (p, q) ∈ ab) : ∃ lq, KinFacts ab p q lq := by
  have hc := List.all_eq_true.mp (abs_chk ab h.mem) (p, q) hpq
  simp only [Bool.and_eq_true, decide_eq_true_eq] at hc
  refine nmG fun gG9 kG9 => ?_
  obtain ⟨⟨⟨a, b⟩, c⟩, d⟩ := hc
  obtain ⟨lp, hlp⟩ := famF_mem (ab := ab) (q := p) (.inr ⟨q, hpq⟩)
  obtain ⟨lq, hlq⟩ := famF_mem (ab := ab) (q := q) (ab_parent h p q hpq)
  refine kG9 ?_
  clear kG9 gG9
  have e1 : kinOf ab p = lp := by unfold kinOf; rw [hlp]; rfl
  have e2 : kinOf ab q = lq := by unfold kinOf; rw [hlq]; rfl
  rw [e1, e2] at b
  subst b
  rw [e1] at c d
  refine ⟨lq, hlp, hlq, kin_all h hlp, kin_all h hlq, c, fun r s l hm hl => ⟨kin_all h hl, ?_⟩⟩
  have e3 : kinOf ab r = l := by unfold kinOf; rw [hl]; rfl
  have := List.all_eq_true.mp d (r, s) hm
  rw [show kinOf ab (r, s).1 = l from e3] at this
  first
    | exact this
    | (dsimp only at this; rw [e1] at this; exact this)
end Mine
end
theorem Mine.rstL19 : True := by
  w_top off
  trivial
section
open PySem PySem.W PyProof.Rows PySem.Calls PySem.Spec PyProof.V
set_option Elab.async false
set_option maxRecDepth 100000
set_option maxHeartbeats 1000000
namespace Mine
theorem any_intsN (l : List Nat) (k : Nat) : (intsN l).any (· == (k : Int)) = l.contains k := by
  induction l with
  | nil => rfl
  | cons a r ih =>
    unfold intsN at ih ⊢
    rw [List.map_cons, List.any_cons, ih, List.contains_cons]
    congr 1
    rw [Bool.eq_iff_iff]
    simp
    omega
noncomputable def comF (l1 l2 : List Nat) (i : Nat) : List Nat := (l1.take i).filter fun k => l2.contains k
theorem comF_succ {l1 l2 : List Nat} {i k : Nat} (h : l1[i]? = some k) : comF l1 l2 (i + 1) = comF l1 l2 i ++ (if l2.contains k = true then [k] else []) := by
  unfold comF
  rw [takeG h, List.filter_append]
  congr 1
  by_cases e : l2.contains k = true
  · rw [if_pos e, List.filter_cons, if_pos e]; rfl
  · rw [if_neg e, List.filter_cons, if_neg e]; rfl
theorem comF_all (l1 l2 : List Nat) : comF l1 l2 l1.length = commonF l1 l2 := by unfold comF commonF; rw [List.take_length]
theorem intsN_at {l : List Nat} {i : Nat} {x : Int} (h : (intsN l)[i]? = some x) : ∃ k : Nat, l[i]? = some k ∧ x = (k : Int) := by
  unfold intsN at h
  rw [List.getElem?_map] at h
  refine nmG fun gG9 kG9 => ?_
  obtain ⟨k, h1, h2⟩ := Option.map_eq_some_iff.mp h
  refine kG9 ?_
  clear kG9 gG9
  exact ⟨k, h1, h2.symm⟩
theorem intsN_len (l : List Nat) : (intsN l).length = l.length := by simp [intsN]
theorem commonF_len (l1 l2 : List Nat) : (commonF l1 l2).length ≤ l1.length := List.length_filter_le _ _
section
variable {prog : Program} {w : World} {A : Around} {E : Value → Shared → Prop} {s : Shared} {h₀ : Heap} {L : Addr} {nn : List (Addr × Obj)} {Q : Value → Shared → Prop}
theorem min_ints {l : Addr} {vs : List Value} {e : Nat} {ms : List Nat} {k : Nat} {t : Tok} (N : News h₀ L s.heap nn) (hm : (l, ({ cls := .type "list", data := .seq vs.toArray e } : Obj)) ∈ nn) (hi : IntsAre vs (intsN ms))
    (h : Q (.bool (ms.contains k)) s) : wpAny (model prog w) A (compareOp .In (.int (k : Int) t) (.ref l)) Q E s := in_list_ints (N.isList hm) hi (by rw [any_intsN]; exact h)
theorem mlen_nat {l : Addr} {vs : List Value} {e : Nat} {ms : List Nat} (N : News h₀ L s.heap nn) (hm : (l, ({ cls := .type "list", data := .seq vs.toArray e } : Obj)) ∈ nn) (hi : IntsAre vs (intsN ms)) (hl : ms.length ≤ 1000)
    (h : ∀ t k, Q (.int ms.length t) { s with toks := k }) : wpAny (model prog w) A (call (.builtin "len") [.ref l]) Q E s := by
  have e1 : vs.toArray.size = ms.length := by rw [List.size_toArray, hi.length, intsN_len]
  exact len_list (N.isList hm) (by rw [e1]; omega) (by rw [e1]; exact h _ _)
end
section
variable {w : World} {mean : ExcName → Option Value} {mg mb : Str → Option Value} {dp un : Nat} {gd : Option (List Code)} {cn : Str} {cs : Scope} {a : Addr} {ccd : Value} {cl : List (Str × Addr)} {outer : List Env} {A₀ : Around} {base h₀ : Heap} {L : Addr} {m : Str → Option Value} {s : Shared} {Q E : Value → Shared → Prop} {news : List (Addr × Obj)}
theorem lev_ct' (C : At w mean mg mb 2 dp un cs outer A₀ base h₀ L m news s.heap) {x y : Str} {p r q : List Nat} {t u v : Tok} (hx : x = mk (p ++ r)) (hy : y = mk (p ++ q)) (hdj : ∀ c ∈ r, c ∉ q) (hl : p.length + r.length + q.length ≤ 15) (hLo : ∀ c, c ∈ r ∨ c ∈ q → LoOk c)
  (hret : ∀ (t' : Tok) (h' : Heap) (tk' : Nat), Fr h₀ L h' m → News h₀ L h' news → Q (.int (levF r q) t') { s with heap := h', toks := tk' }) :
  wpAny (model PySem.Challenge.rw_xe0048_01.row.prog w) (ktrTop dp un gd cn cs L a ccd cl outer) (call (.ref 199) [.str x t, .str y u, .int 99 v]) Q E s := by
  subst hx hy
  exact lev_ct C hdj hl hLo hret
end
end Mine
end
theorem Mine.rstV4 : True := by
  w_top off
  trivial
section
open PySem PySem.W PyProof.Rows PySem.Calls PySem.Spec PyProof.V
set_option Elab.async false
set_option maxRecDepth 100000
set_option maxHeartbeats 3000000
namespace Mine
theorem HK_list (P : Params) : HK P = ([2, 3, 32, 34, 35, 37, 38, 42, 43, 44, 46, 47, 49, 50, 51, 53, 54, 56, 57, 58, 60, 61, 63, 64, 65, 67, 68, 70, 71, 72, 79, 81, 82, 84, 85, 86, 88, 89, 91, 92, 93, 95, 96, 98, 99, 100, 102, 103, 105, 106, 107, 108, 109, 110, 123, 125, 126, 128, 129, 130, 132, 133, 135, 136, 137, 139, 140, 142, 143, 144, 146, 147, 149, 150, 151, 153, 154, 156, 157, 158, 160, 161, 163, 164, 165, 167, 168, 170, 171, 172, 173, 174, 175, 176, 179, 181, 182, 184, 185, 186, 188, 189, 191, 192, 193, 195, 196, 198, 199, 200, 202, 203, 205, 206, 207, 210, 211, 212, 215, 216, 217, 219, 220, 222, 223, 224, 226, 227, 229, 230, 231, 234, 235, 236, 239, 240, 241, 243, 244, 246, 247, 248, 251, 252, 253, 256, 257] : List Nat).map fun a => (a, ob P a) := rfl
theorem HK_some (P : Params) : ([2, 3, 32, 34, 35, 37, 38, 42, 43, 44, 46, 47, 49, 50, 51, 53, 54, 56, 57, 58, 60, 61, 63, 64, 65, 67, 68, 70, 71, 72, 79, 81, 82, 84, 85, 86, 88, 89, 91, 92, 93, 95, 96, 98, 99, 100, 102, 103, 105, 106, 107, 108, 109, 110, 123, 125, 126, 128, 129, 130, 132, 133, 135, 136, 137, 139, 140, 142, 143, 144, 146, 147, 149, 150, 151, 153, 154, 156, 157, 158, 160, 161, 163, 164, 165, 167, 168, 170, 171, 172, 173, 174, 175, 176, 179, 181, 182, 184, 185, 186, 188, 189, 191, 192, 193, 195, 196, 198, 199, 200, 202, 203, 205, 206, 207, 210, 211, 212, 215, 216, 217, 219, 220, 222, 223, 224, 226, 227, 229, 230, 231, 234, 235, 236, 239, 240, 241, 243, 244, 246, 247, 248, 251, 252, 253, 256, 257] : List Nat).all (fun a => ((kf.heap_1 P).lookup a).isSome) = true := by kernel_rfl
theorem HK_in {P : Params} {h : Heap} (X : (kf.heap_1 P).In h) : (HK P).In h := by
  intro a o e
  have hm := mem_of_lookupK e
  rw [HK_list] at hm
  refine nmG fun gG9 kG9 => ?_
  obtain ⟨b, hb, e2⟩ := List.mem_map.mp hm
  refine kG9 ?_
  clear kG9 gG9
  cases e2
  exact X _ _ (ob_of (List.all_eq_true.mp (HK_some P) a hb))
theorem tab180 {P : Params} {h : Heap} (X : (kf.heap_1 P).In h) : TabsAt [(184, 180)] h :=
  List.forall_mem_cons.mpr ⟨⟨codeHd_of_K (c := 184) (P := 180) X (by kernel_rfl), X 180 _ (by rfl)⟩, fun _ h => nomatch h⟩
theorem ReadIn.mono {w : World} {nn nn' : List (Addr × Obj)} {T : Addr} {st : PSt} (h : ReadIn w nn T st) (hs : ∀ p ∈ nn, p ∈ nn') : ReadIn w nn' T st := by
  refine nmG fun gG9 kG9 => ?_
  refine ex7 (h) ?_
  intro dd al kvs vs e e2 o y9w1
  refine an7 (y9w1) ?_
  intro m1 m2 i a m3 g l
  clear y9w1
  try clear h
  refine kG9 ?_
  clear kG9 gG9
  exact ⟨dd, al, kvs, vs, e, e2, o, hs _ m1, hs _ m2, i, a, hs _ m3, g.mono fun p hp _ _ => hs p hp, l⟩
theorem bare0 {s : Shared} (h : s.gens = #[]) : AllBare s.gens := by
  rw [h]
  intro i g
  simp at g
theorem tab0 : TabOk #[] := ⟨trivial, .inl rfl⟩
theorem dict_nocell {prog : Program} {w : World} {K : Type} [DecidableEq K] {knd : KeyKind prog w K} {o : Obj} {kvs : List (K × Value)} (h : o.IsDictOf knd kvs) : ∀ v, o.data ≠ .cell v := by
  refine nmG fun gG9 kG9 => ?_
  obtain ⟨es, ep, _, h2, _⟩ := h
  refine kG9 ?_
  clear kG9 gG9
  intro v e
  rw [h2] at e
  cases e
section
variable {prog : Program} {w : World} {A : Around} {E : Value → Shared → Prop} {s : Shared} {a b : Addr} {xs ys : List Value} {ns : List Int} {Q : Value → Shared → Prop}
theorem mne_ints (ha : s.heap.IsList a xs.toArray) (hb : s.heap.IsList b ys.toArray) (hi : IntsAre xs ns) (hj : IntsAre ys ns) (hu : A.units + 64 < cLine) (h : Q (.bool false) s) :
    wpAny (model prog w) A (compareOp .NotEq (.ref a) (.ref b)) Q E s := ke_ne_ints ha hb hi hj hu (by rw [decide_eq_true rfl]; exact h)
end
local macro_rules | `(tactic| k_mem) => `(tactic| first | assumption | exact List.Mem.head _ | (refine List.Mem.tail _ ?_; k_mem))
local macro_rules | `(tactic| k_all) => `(tactic| first | assumption | exact ne_of_l1 (by assumption))
local macro_rules | `(tactic| k_ne) => `(tactic| first | assumption | (refine Ne.symm ?_; assumption))
noncomputable def BoolB (cw : ClaimW) (args : List WData) (s₁ : Shared) (r : Result) (s' : Shared) : Prop :=
  ∃ b, r = .ok (.ret (.bool b)) ∧ cw.post args (.bool b) args = true ∧ (∀ cls, cw.raises args cls = false) ∧ (∀ a o, s₁.heap.get? a = some o → s'.heap.get? a = some o) ∧ s'.os = s₁.os ∧ AllBare s'.gens
theorem post_G {M : Model} {A : Around} {cd : Code} {s s₁ : Shared} {cw : ClaimW} {cl : Str → Option Addr} {mean : ExcName → Option Value} {args : List WData} {tabs : List (Addr × Addr)} (hT : TabsAt tabs s₁.heap)
    (h : codeAny M A cd (fun r s' => BoolB cw args { s₁ with heap := ghostOf s₁.heap tabs } r s' ∧ GrownAll tabs s'.heap) s) : codeAny M A cd (GoodWG cw cl mean args s₁) s :=
  codeAny_mono h fun r s' h => by
    refine nmG fun gG9 kG9 => ?_
    obtain ⟨⟨b, rfl, hp, hn, hk, hos, hb⟩, hg⟩ := h
    refine kG9 ?_
    clear kG9 gG9
    refine ⟨.inl ⟨.bool b, .bool b, [], rfl, hn, .bool b, hp, unshared_nil⟩, ⟨?_, ?_⟩, hos, hb⟩
    · intro a o e
      by_cases ha : a ∈ tabs.map (·.2)
      · refine nmG fun gG9 kG9 => ?_
        obtain ⟨q, hq, rfl⟩ := List.mem_map.mp ha
        obtain ⟨ps, hP⟩ := hg.get q hq
        refine kG9 ?_
        clear kG9 gG9
        have e2 := (hT q hq).2
        rw [e] at e2
        cases e2
        exact .inr (.inl ⟨((hT q hq).1.tab e).isCodeTable, rfl, #[], ps, rfl, by rw [Array.empty_append]; exact hP⟩)
      · exact .inl (hk a o (ghost_ne e ha))
    · intro a o e
      by_cases ha : a ∈ tabs.map (·.2)
      · refine nmG fun gG9 kG9 => ?_
        obtain ⟨q, hq, rfl⟩ := List.mem_map.mp ha
        obtain ⟨ps, hP⟩ := hg.get q hq
        refine kG9 ?_
        clear kG9 gG9
        exact ⟨_, hP⟩
      · exact ⟨_, hk a o (ghost_ne e ha)⟩
namespace Zlaw
noncomputable def ctA : (ctR : (World) → (Shared) → (Shared) → (Str → Option Value) → (Str → Option Value) → (Addr) → (Value) → (Value) → (Value) → (List Int) → (Addr) → (List Value) → (Heap) → (Nat) → (Obj) → (Obj) → Prop) ×' ((∀ w s₀ s₁ mg mb fa pm cd doc xs sl ws hp1 tp1 oK oO, Bx (ctR w s₀ s₁ mg mb fa pm cd doc xs sl ws hp1 tp1 oK oO)) → PySem.Challenge.rw_xe0048_01.Holds) := ⟨_, fun ctH => law_of (by
  w_on
  k_with_none
  refine holds_open (q := vw) (loose := LS)
    (Xt := fun s => xlAt vw [] s && recOk (RowW.records (OpenRow.toRowW (OpenLaw.row PySem.Challenge.rw_xe0048_01))) s) (XP := XL vw [])
    (Yf := Hook.obs (kHook kf.heap_1 KA KA_eq)) (Ya := Hook.val (kHook kf.heap_1 KA KA_eq)) (YP := Hook.says (kHook kf.heap_1 KA KA_eq)) (N := 3118) left (Hook.of _) (Hook.keeps _)
    (fun s e => xl_of s (Bool.and_eq_true_iff.mp e).1) XL.keeps (by rfl) (by rfl) (by rfl) (fun s e => recFacts_of (Bool.and_eq_true_iff.mp e).2) (by rfl)
    (by first | assumption | decide +kernel) (by decide +kernel) ⟨rfl, rfl, rfl, rfl, rfl, by decide +kernel⟩ ?hw ?hc
  case hw => w_witness2
  k_fill
  intro w s₀ s₁ mg mb G Y fa o pm cd doc dV kV ho hd' hcd hD hmg hg args vals as hpre hlay hrd hwl hlo
  have KX := kIn_of Y
  have hT9 := tab180 KX
  have X := HK_in KX
  clear KX Y
  refine Ground.open G ?_
  intro T B D TE TW
  try (refine guard_noD D (by decide +kernel) ?_; clear D)
  clear hmg
  wrow_args hpre hlay hrd hwl hlo
  all_goals (first | refine callC_kw (enter_call ?_) | refine enter_call ?_)
  w_top on
  refine post_G hT9 ?_
  w_call any ho hd' hcd hD T F
  clear hd'
  kn_ghosts F T
  k_drop
  (with_reducible rename Frag.In (HK _) _ => X0)
  have X0k := Kp.mk X0
  revert X0
  k_fill
  intro X0
  (with_reducible rename Below callerA _ _ _ => B0)
  (with_reducible rename Heap.IsList (ghostOf _ _) _ _ => hsl)
  (with_reducible rename IntsAre _ _ => hints)
  (with_reducible rename ¬ _ < _ => hlen)
  (with_reducible rename (_ : Obj).data = Data.cell _ => dcK)
  obtain ⟨oK, eK⟩ := nameO dcK
  subst eK
  have dK := Kp.mk dcK
  clear dcK
  (with_reducible rename (_ : Obj).data = Data.cell _ => dcO)
  obtain ⟨oO, eO⟩ := nameO dcO
  subst eO
  have dO := Kp.mk dcO
  clear dcO
  rename_i xs hs hlay0 hL1 hr1 hl2 w4 w3 sl ws w0 hL ra ww r0 hr hc hp1 tp1 Tq Fq lq Xq Nq
  revert Nq; revert dO; revert dK; revert Fq; revert hsl; revert hints; revert hlen; revert hs; revert Tq; revert X0; revert X0k; revert lq; revert codeHd; revert B0; revert hT9; revert hg
  exact (ctH w s₀ s₁ mg mb fa pm cd doc xs sl ws hp1 tp1 oK oO).out)⟩
theorem ne : Nonempty ((World) × (Shared) × (Shared) × (Str → Option Value) × (Str → Option Value) × (Addr) × (Value) × (Value) × (Value) × (List Int) × (Addr) × (List Value) × (Heap) × (Nat) × (Obj) × (Obj)) := ⟨(aWorld 1, {}, {}, fun _ => none, fun _ => none, default, default, default, default, default, default, default, default, default, default, default)⟩
noncomputable def ctc := pk ne fun v => Bx (ctA.1 v.1 v.2.1 v.2.2.1 v.2.2.2.1 v.2.2.2.2.1 v.2.2.2.2.2.1 v.2.2.2.2.2.2.1 v.2.2.2.2.2.2.2.1 v.2.2.2.2.2.2.2.2.1 v.2.2.2.2.2.2.2.2.2.1 v.2.2.2.2.2.2.2.2.2.2.1 v.2.2.2.2.2.2.2.2.2.2.2.1 v.2.2.2.2.2.2.2.2.2.2.2.2.1 v.2.2.2.2.2.2.2.2.2.2.2.2.2.1 v.2.2.2.2.2.2.2.2.2.2.2.2.2.2.1 v.2.2.2.2.2.2.2.2.2.2.2.2.2.2.2)
noncomputable def w : World := ctc.1
noncomputable def s₀ : Shared := ctc.2.1
noncomputable def s₁ : Shared := ctc.2.2.1
noncomputable def mg : Str → Option Value := ctc.2.2.2.1
noncomputable def mb : Str → Option Value := ctc.2.2.2.2.1
noncomputable def fa : Addr := ctc.2.2.2.2.2.1
noncomputable def pm : Value := ctc.2.2.2.2.2.2.1
noncomputable def cd : Value := ctc.2.2.2.2.2.2.2.1
noncomputable def doc : Value := ctc.2.2.2.2.2.2.2.2.1
noncomputable def xs : List Int := ctc.2.2.2.2.2.2.2.2.2.1
noncomputable def sl : Addr := ctc.2.2.2.2.2.2.2.2.2.2.1
noncomputable def ws : List Value := ctc.2.2.2.2.2.2.2.2.2.2.2.1
noncomputable def hp1 : Heap := ctc.2.2.2.2.2.2.2.2.2.2.2.2.1
noncomputable def tp1 : Nat := ctc.2.2.2.2.2.2.2.2.2.2.2.2.2.1
noncomputable def oK : Obj := ctc.2.2.2.2.2.2.2.2.2.2.2.2.2.2.1
noncomputable def oO : Obj := ctc.2.2.2.2.2.2.2.2.2.2.2.2.2.2.2
theorem ctB  : Bx (ctA.1 w s₀ s₁ mg mb fa pm cd doc xs sl ws hp1 tp1 oK oO) := by
  refine ⟨?_⟩
  dsimp only [ctA]
  w_top on
  k_with_none
  k_with "call ref" => (refine hold ?_)
  k_with "compareOp NotEq ref ref" => (refine hold ?_)
  k_with "subscriptTail" => (((with_reducible show wpAny _ _ (subscriptTail _ _ (Value.ref _) (Value.int _ _)) _ _ _); (k_dflt (refine' kda_item (knd := PySem.intKind _ _) ?c1.«_@»._hyg ?c2.«_@»._hyg ?c3.«_@»._hyg ?c4.«_@»._hyg ?c5.«_@»._hyg ?_ ?c7.«_@»._hyg ?c8.«_@»._hyg; (case c1 => k_asm); (case c2 => k_mem); (case c3 => assumption); (case c4 => exact intKind_is _ _ _ _); (case c5 => assumption); (case c7 => with_unfolding_all rfl); (case c8 => (intro _; with_unfolding_all rfl))))))
  k_with "call ref" => (((with_reducible show wpAny _ _ (call (Value.ref 71) _) _ _ _); k_dflt (refine' reach_ct ⟨?k1.«_@»._hyg, ?k2.«_@»._hyg, ?k3.«_@»._hyg, ?k4.«_@»._hyg, ?k5.«_@»._hyg, ?k6.«_@»._hyg, ?k7.«_@»._hyg, ?k8.«_@»._hyg⟩ ?g1.«_@»._hyg ?g2.«_@»._hyg ?g3.«_@»._hyg ?g4.«_@»._hyg ?g5.«_@»._hyg ?g6.«_@»._hyg ?g7.«_@»._hyg ?g8.«_@»._hyg ?g9.«_@»._hyg ?g10.«_@»._hyg ?_; (case k1 => k_asm); (case k2 => k_asm); (case k3 => k_in); (case k4 => k_asm); (case k5 => k_asm); (case k6 => first | exact rfl | assumption); (case k7 => ktr_room); (case k8 => ktr_units); (case g1 => assumption); (case g2 => assumption); (case g3 => assumption); (case g4 => assumption); (case g5 => assumption); (case g6 => assumption); (case g7 => assumption); (case g8 => assumption); (case g9 => assumption); (case g10 => assumption)); intro h'z9 tk'z9 t'z9 F'z9 N'z9))
  k_with "eval ListComp" => ((k_here; (with_reducible show wpAny _ _ (eval (PySem.Expr.ListComp _ [⟨_, _, [_], _⟩] _ _) _) _ _ _); k_dflt (refine compT_H (F₀ := by k_asm) (by with_unfolding_all rfl) (by decide) (by rfl) (by decide) (by rfl) ?_)))
  k_with "call builtin:str.upper" => (((try dsimp only); (k_dflt (refine' mupper ?a.«_@»._hyg ?b.«_@»._hyg ?_; (case a => assumption); (case b => assumption)))))
  k_with "compareOp In int ref" => ((k_dflt (refine' min_ints ?a.«_@»._hyg ?b.«_@»._hyg ?c.«_@»._hyg ?_; (case a => k_asm); (case b => k_mem); (case c => assumption))))
  k_with "call builtin:len" => (((with_reducible show wpAny _ _ (call (Value.builtin "len") [Value.ref _]) _ _ _); (k_dflt (refine' mlen_nat ?a.«_@»._hyg ?b.«_@»._hyg ?c.«_@»._hyg ?d.«_@»._hyg ?_; (case a => k_asm); (case b => k_mem); (case c => assumption); (case d => omega))); intro _ _))
  k_with "exec For Name Name cons nil" => (((with_reducible show wpAny _ _ (exec (PySem.Stmt.For (PySem.Expr.Name (PySem.Str.ofString "other") _) _ _ _ _) _) _ _ _); refine hold ?_))
  k_fill
  intro hg hT9 B0 codeHd lq X0k X0 Tq hs hlen hints hsl Fq dK dO Nq
  try k_fold
  k_steps
  unfold Hold
  (with_reducible rename Top topProg _ _ _ _ _ => T0)
  k_dflt (refine' page_ct ⟨?k1, ?k2, ?k3, ?k4, ?k5, ?k6, ?k7, ?k8⟩ hsl hints ?hl ?ret; (case k1 => k_asm); (case k2 => k_asm); (case k3 => k_in); (case k4 => k_asm); (case k5 => exact T0); (case k6 => first | exact rfl | assumption); (case k7 => ktr_room); (case k8 => ktr_units); (case hl => omega))
  case ret =>
    intro pg pv pe ps nn1 h1 tk1 F1 N1 s1 pn1 mp hS hO
    k_steps
    unfold Hold
    (with_reducible rename News _ _ _ nn1 => N2)
    (with_reducible rename Fr _ _ _ (_ : Str → Option Value) => F2)
    k_dflt (refine' plain_ct ⟨?k1, ?k2, ?k3, ?k4, ?k5, ?k6, ?k7, ?k8⟩ mp hS hO ?ret2; (case k1 => k_asm); (case k2 => exact F2); (case k3 => k_in); (case k4 => exact N2); (case k5 => exact T0); (case k6 => first | exact rfl | assumption); (case k7 => ktr_room); (case k8 => ktr_units))
    case ret2 =>
      intro TP1 nn2 h2 tk2 hR1 s2 F3 N3
      refine nmG fun gG9 kG9 => ?_
      refine ex7 (id hR1) ?_
      intro dd al kvs avs ae te od y9w1
      refine an7 (y9w1) ?_
      intro mT1 mdd hdi habI mal hngI hsm
      clear y9w1
      refine kG9 ?_
      clear kG9 gG9
      k_steps
      unfold Hold
      (with_reducible rename News _ _ _ nn2 => N4)
      (with_reducible rename Fr _ _ _ (_ : Str → Option Value) => F4)
      (with_reducible rename 180 < s₁.heap.objs.size => l0)
      have m180 := s2 _ (s1 _ (.tail _ (.tail _ (.head _))))
      refine nmG fun gG9 kG9 => ?_
      obtain ⟨R, N5, u1, u2⟩ := news_front N4 m180
      refine kG9 ?_
      clear kG9 gG9
      have mpR := u2 _ (s2 _ mp) (ne_addr N4 (s2 _ mp) m180 (by simp))
      have mddR := u2 _ mdd (ne_addr N4 mdd m180 (by simp [dict_cls hdi]))
      have malR := u2 _ mal (ne_addr N4 mal m180 (by simp))
      have mc2 := u2 _ (s2 _ (s1 _ (.head _))) (Nat.ne_of_gt (Nat.lt_succ_of_lt (Nat.lt_succ_of_lt l0)))
      have mc1 := u2 _ (s2 _ (s1 _ (.tail _ (.head _)))) (Nat.ne_of_gt (Nat.lt_succ_of_lt l0))
      have hngR : NagsAre R avs (plainF ps 5).ng := hngI.mono fun p hp hc _ => u2 p hp (ne_addr N4 hp m180 (by simp [hc]))
      clear u2 N4
      k_dflt (refine' read_ct hO ⟨?k1, ?k2, ?k3, ?k4, ?k5, ?k6, ?k7, ?k8⟩ X0k.k T0 ?kG tab0 u1 mpR hS ?ret3; (case k1 => k_asm); (case k2 => exact F4); (case k3 => k_in); (case k4 => exact N5); (case k5 => exact T0); (case k6 => first | exact rfl | assumption); (case k7 => ktr_room); (case k8 => ktr_units); (case kG => exact bare0 hg))
      case ret3 =>
        intro T2 nn3 h3 tk3 gs3 hG3 hR2 ⟨tb', m180'⟩ s3 F5 N6
        have mddk := s3 _ mddR
        have malk := s3 _ malR
        k_steps
        unfold Hold
        (with_reducible rename News _ _ _ ((_, _) :: nn3) => N7)
        (with_reducible rename Fr _ _ _ (_ : Str → Option Value) => F7)
        have hrp := read_plain hO
        refine mcompare (w := w) (st2 := plainF ps 5) N7 (hR2.mono fun p hp => .tail _ hp) ⟨dd, al, kvs, avs, ae, _, od, .head _, .tail _ mddk, hdi, habI, .tail _ malk, hngR.mono fun p hp _ _ => .tail _ (s3 p hp), hsm⟩ (by dsimp only; exact hrp.1) (by dsimp only; exact hrp.2) (by ktr_units) ?_
        k_steps
        unfold Hold
        (with_reducible rename News _ _ _ ((_, _) :: nn3) => N8)
        (with_reducible rename Fr _ _ _ (_ : Str → Option Value) => F8)
        have hab5 := (ab_ok ps 5).1
        k_dflt (refine' fam_ct ⟨?k1, ?k2, ?k3, ?k4, ?k5, ?k6, ?k7, ?k8⟩ hO ?mp4 hS ?md4 hsm hdi habI hab5 ?ret4; (case k1 => k_asm); (case k2 => exact F8); (case k3 => k_in); (case k4 => exact N8); (case k5 => exact T0); (case k6 => first | exact rfl | assumption); (case k7 => ktr_room); (case k8 => ktr_units); (case mp4 => exact .tail _ (s3 _ mpR)); (case md4 => exact .tail _ mddk))
        case ret4 =>
          intro TF nn4 h4 tk4 hFam s4 F9 N9
          refine nmG fun gG9 kG9 => ?_
          refine ex10 (hFam.ex) ?_
          intro dk dn dh ef ok on oh kk kn kh y9w1
          refine an10 (y9w1) ?_
          intro mTF mdk idk adk mdn idn adn mdh idh adh
          clear y9w1
          have mK := s4 _ (.tail _ (s3 _ mc1))
          have mO := s4 _ (.tail _ (s3 _ mc2))
          have z1 : s₁.heap.objs.size + 1 + 1 ≠ s₁.heap.objs.size + 1 := Nat.ne_of_gt (Nat.lt_succ_self _)
          obtain ⟨R2, N10, r1, r2⟩ := news_front2 N9 mK mO
          refine kG9 ?_
          clear kG9 gG9
          have mvR : ∀ p ∈ nn4, (∀ v, p.2.data ≠ .cell v) → p ∈ R2 := fun p hp hc => r2 p hp (ne_data N9 hp mK (by rw [dK.k]; exact hc _)) (ne_data N9 hp mO (by rw [dO.k]; exact hc _))
          have mTR := mvR _ mTF (by intro v; simp)
          have mkR := mvR _ mdk (dict_nocell idk)
          have mnR := mvR _ mdn (dict_nocell idn)
          have mhR := mvR _ mdh (dict_nocell idh)
          have mddS := mvR _ (s4 _ (.tail _ mddk)) (dict_nocell hdi)
          have m180R := mvR _ (s4 _ (.tail _ m180')) (by intro v; simp)
          have adkR : DictF (RK R2) kk (famF (plainF ps 5).ab) := adk.mono fun v l ⟨a, vs, e, h1, h2, h3⟩ => ⟨a, vs, e, h1, mvR _ h2 (by intro v; simp), h3⟩
          clear N9 mTF mdk mdn mdh adk s4 mvR r2 mK mO hFam s3
          have dKk := dK.k
          have dOk := dO.k
          clear hR2 hrp
          k_steps
          (with_reducible rename News _ _ _ ((_, oK) :: _) => Ns)
          (with_reducible rename Fr _ _ _ (_ : Str → Option Value) => Fs)
          refine stCN (own := []) Fs Ns (by rfl) dKk (fun p hp => nomatch hp) (fun p hp => ?_) ?_ (by rfl) (by rfl)
          · rcases mcs hp with rfl | hp
            · exact z1
            · exact (r1 p hp).1
          intro h5 oK2 F11 N11 dK2
          rw [List.nil_append] at N11
          clear Fs Ns dKk dK
          k_steps
          (with_reducible rename Fr _ _ _ (_ : Str → Option Value) => F12)
          (with_reducible rename News _ _ _ ((_, oK2) :: _) => N12)
          have hkl := habI.len
          have hal := hab5.good.len
          have mddh := N12 _ (.tail _ (.tail _ mddS))
          obtain ⟨ep, hDat⟩ := (Heap.dictOf_iff.mpr ⟨od, mddh.1, hdi⟩).dictAt
          (with_unfolding_all refine' mdict (knd := intKind _ w) (d := dd) (kvs := kvs) (ep := ep) ((s₁.heap.objs.size + 1, oK2) :: R2) (fun (_ : Unit) => [(("page" : Str), .ref pg), (("above" : Str), .ref dd), (("names" : Str), .ref dn), (("hosts" : Str), .ref dh)]) (fun _ _ n => ∃ oc v, (s₁.heap.objs.size + 1 + 1, oc) ∈ n ∧ oc.data = .cell v) () ?hh hsm hDat ?hdL ?mo ?kp ?F ?N ?hk ?hj ?turn ?done ?hx)
          case F => exact F12
          case N => exact N12
          case hk => kst_all
          case hh => rfl
          case hdL => exact mddh.2.1
          case kp =>
            intro p hp
            rcases mcs hp with rfl | hp
            · exact .head _
            · exact .tail _ (.tail _ hp)
          case hx => exact fun _ => rfl
          case mo => exact fun i c n n' hs ⟨oc, v, h1, h2⟩ => ⟨oc, v, hs _ h1 (.inl ⟨v, h2⟩), h2⟩
          case hj => exact ⟨oO, _, .tail _ (.head _), dOk⟩
          case turn =>
            intro i v k y c u nn ok9 h tk hiv hkv hko hok9 hok2 hz9
            refine nmG fun gG9 kG9 => ?_
            obtain ⟨oc, vc, mC, dC⟩ := hz9
            refine kG9 ?_
            clear kG9 gG9
            intro F N
            refine nmG fun gG9 kG9 => ?_
            obtain ⟨t, rfl⟩ := Value.isInt_shape hkv
            refine ex3 (habI.at_ hiv) ?_
            intro p q tq y9w1
            refine an3 (y9w1) ?_
            intro hpq y9z2 y9z4
            clear y9w1
            subst y9z2
            subst y9z4
            have hpm := List.mem_of_getElem? hpq
            obtain ⟨lq, KF⟩ := kin_facts hab5 hpm
            dsimp only [kstB, envOfC] at F N
            obtain ⟨R3, N3, u1, u2⟩ := news_front N mC
            have w2 : ∀ p ∈ (s₁.heap.objs.size + 1, oK2) :: R2, p.1 ≠ s₁.heap.objs.size + 1 + 1 := fun p hp => by
              rcases mcs hp with rfl | hp
              · exact z1.symm
              · exact (r1 p hp).2
            have o1 := ok_ne' N mC (.inl ⟨_, dC⟩) hok9 hok2 w2 (r1 _ mddS).2
            have hokR : ∀ p ∈ ok9, p ∈ R3 := fun p hp => u2 p (hok9 p hp) (o1 p hp)
            have mK3 := hokR _ (hko _ (.head _))
            have kR : ∀ p ∈ R2, p ∈ R3 := fun p hp => hokR _ (hko _ (.tail _ hp))
            have mdd3 := kR _ mddS
            have mk3 := kR _ mkR
            have mn3 := kR _ mnR
            have mh3 := kR _ mhR
            have adk3 : DictF (RK R3) kk (famF (plainF ps 5).ab) := adkR.mono fun v l ⟨a, vs, e, h1, h2, h3⟩ => ⟨a, vs, e, h1, kR _ h2, h3⟩
            have hnd : ((plainF ps 5).ab.map fun p => (p.1 : Int)).Nodup := by
              obtain ⟨_, _, _, _, _, _, h6⟩ := hdi
              rw [habI.keys] at h6
              exact h6
            obtain ⟨tq9, hvd⟩ := habI.get (lookup_mem hnd (p, q) hpm)
            refine kG9 ?_
            clear kG9 gG9
            dsimp only at hvd
            refine nmG fun gG9 kG9 => ?_
            obtain ⟨vh, hvh, th9, rfl⟩ := adh.get KF.kp
            obtain ⟨vhq, hvhq, thq9, rfl⟩ := adh.get KF.kq
            have hreach := (hosts_reach _ KF.sp).resolve_left (by simp)
            rw [List.dropLast_concat] at hreach
            refine an10 (hreach) ?_
            intro a1 a2 a3 a4 a5 a6 a7 a8 a9 a10
            try clear hreach
            refine kG9 ?_
            clear kG9 gG9
            have hbn : (PySem.Str.ofString "." ++ hostF lq != PySem.Str.ofString "." ++ hostF lq) = false := by simp
            clear N N12 F12 mddh hDat
            k_steps
            unfold Hold
            (with_reducible rename News _ _ _ ((s₁.heap.objs.size + 1 + 1, oc) :: _) => N4)
            (with_reducible rename Fr _ _ _ (_ : Str → Option Value) => F4)
            refine nmG fun gG9 kG9 => ?_
            refine an6 (hosts_up _ KF.sp) ?_
            intro b1 b2 b3 b4 b5 b6
            refine kG9 ?_
            clear kG9 gG9
            k_dflt (refine' fore_ct ⟨?k1, ?k2, ?k3, ?k4, ?k5, ?k6, ?k7, ?k8⟩ (.tail _ mdd3) hsm hdi habI hab5 (.tail _ mh3) idh adh b1 ?hxl b2 b3 b4 b5 b6 (g := fun k => (kinOf (plainF ps 5).ab k).isPrefixOf (lq ++ [p])) ?hg ?ret5; (case k1 => k_asm); (case k2 => exact F4); (case k3 => k_in); (case k4 => exact N4); (case k5 => exact T0); (case k6 => first | exact rfl | assumption); (case k7 => ktr_room); (case k8 => ktr_units); (case hxl => exact (hosts_ok _ KF.sp).hl))
            case hg => exact fun k lk hk => ⟨hosts_ok _ (kin_all hab5 hk), by rw [hosts_ends _ KF.sp _ (kin_all hab5 hk)]; unfold kinOf; rw [hk]; rfl⟩
            case ret5 =>
              intro D5 vs5 e5 nn5 h5 tk5 mD iD s5 F5 N5
              rw [KF.fore] at iD
              refine nmG fun gG9 kG9 => ?_
              refine ex1 (adk3.get KF.kp) ?_
              intro vk y9w1
              refine an2 (y9w1) ?_
              intro hvk y9w2
              refine ex3 (y9w2) ?_
              intro ak vks ek y9w3
              refine an3 (y9w3) ?_
              intro y9z4 mk9 ik9
              clear y9w3 y9w2 y9w1
              subst y9z4
              refine kG9 ?_
              clear kG9 gG9
              have mK5 := s5 _ (.tail _ mK3)
              have mC5 := s5 _ (.head _)
              have mk5 := s5 _ (.tail _ mk3)
              have mk95 := s5 _ (.tail _ mk9)
              k_steps
              unfold Hold
              refine mne_ints (N5.isList mD) (N5.isList mk95) iD ik9 (by ktr_units) ?_
              obtain ⟨ep2, hat⟩ := dict_at_of (d := dd) hdi
              k_steps
              unfold Hold
              (with_unfolding_all refine' For_C (knd := intKind _ w) (c := s₁.heap.objs.size + 1 + 1) (ghostOf s₁.heap [(184, 180)]) ?hkf ?hxc ?hcl ?hh ?body ?hs ?hE)
              case hkf => rfl
              case hxc => rfl
              case hcl => rfl
              case hh => rfl
              case hs => intro x; with_unfolding_all rfl
              case hE => with_unfolding_all passes_own
              case body =>
                k_steps
                unfold Hold
                (with_reducible rename News _ _ _ nn5 => N6)
                (with_reducible rename Fr _ _ _ (_ : Str → Option Value) => F6)
                refine nmG fun gG9 kG9 => ?_
                obtain ⟨R5, N7, v1, v2⟩ := news_front N6 mC5
                refine kG9 ?_
                clear kG9 gG9
                have l1 : ∀ p ∈ R3, p ∈ R5 := fun p hp => v2 p (s5 _ (.tail _ hp)) (u1 p hp)
                refine (exi9 dd od kvs ep2 _ R5 oc vc [(("page" : Str), .ref pg), (("above" : Str), .ref dd), (("names" : Str), .ref dn), (("hosts" : Str), .ref dh), (("one" : Str), .int p t)] ⟨rfl, hsm, l1 _ mdd3, hat, v1, F6, N7, dC, ?ps, ?step, ?done2⟩)
                case ps => kst_all
                case step =>
                  intro i2 v2' k2 y2 h6 tk6 u6 I oI oc2 hiv2 hkv2 dC2 F8 N8 hneI hcI
                  refine nmG fun gG9 kG9 => ?_
                  obtain ⟨t2, rfl⟩ := Value.isInt_shape hkv2
                  refine ex3 (habI.at_ hiv2) ?_
                  intro p2 q2 tq2 y9w1
                  refine an3 (y9w1) ?_
                  intro hpq2 y9z2 y9z4
                  clear y9w1
                  subst y9z2
                  subst y9z4
                  have hpm2 := List.mem_of_getElem? hpq2
                  obtain ⟨lq2, KF2⟩ := kin_facts hab5 hpm2
                  obtain ⟨sp2, tr2⟩ := KF.tree _ _ _ hpm2 KF2.kp
                  obtain ⟨fp, fr, fq, PF⟩ := pair_facts KF.sp sp2 tr2
                  dsimp only [kstB] at F8
                  refine ex1 (adk3.get KF2.kp) ?_
                  intro vk2 y9w1
                  refine an2 (y9w1) ?_
                  intro hvk2 y9w2
                  refine ex3 (y9w2) ?_
                  intro ak2 vks2 ek2 y9w3
                  refine an3 (y9w3) ?_
                  intro y9z4 mk92 ik92
                  clear y9w3 y9w2 y9w1
                  subst y9z4
                  obtain ⟨vn1, hvn1, tn1, rfl⟩ := adn.get KF.kp
                  obtain ⟨vn2, hvn2, tn2, rfl⟩ := adn.get KF2.kp
                  refine kG9 ?_
                  clear kG9 gG9
                  have j1 : (s₁.heap.objs.size + 1, oK2) ∈ R5 := l1 _ mK3
                  have j2 := l1 _ mk3
                  have j3 := l1 _ mn3
                  have j4 := l1 _ mk9
                  have j5 := l1 _ mk92
                  have c1 := (subs_bd _ KF.sp).1
                  have c2 := (subs_bd _ sp2).1
                  have c3 := commonF_len (lq ++ [p]) (lq2 ++ [p2])
                  have c4 := PF.up
                  have c5 := PF.ll
                  have c6 : vks.length = (lq ++ [p]).length := by rw [ik9.length, intsN_len]
                  clear N6 F6 N7 mk95 mk5 mC5 mK5 mk9 mk92 v2 s5
                  k_steps
                  · unfold Hold
                    (with_unfolding_all refine' mcompLT ((I, oI) :: (s₁.heap.objs.size + 1 + 1, oc2) :: R5) (fun i ys n => IntsAre ys (intsN (comF (lq ++ [p]) (lq2 ++ [p2]) i))) ?hh6 ?F6 ?N6 ?hm6 ?hl6 ?hk6 ?hj6 ?turn6 ?done6)
                    case hh6 => rfl
                    case F6 => k_asm
                    case N6 => k_asm
                    case hm6 => exact .tail _ (.tail _ j4)
                    case hl6 => omega
                    case hk6 => exact fun _ hp => hp
                    case hj6 => exact .nil
                    case turn6 =>
                      rintro i6 v6 ys nn6 I6 oI6 C oC D m₂ h7 tk7 E' hv6 hkn6 hax6 hJ6 hC hx F N off ne
                      refine nmG fun gG9 kG9 => ?_
                      obtain ⟨x6, t6, rfl, hx6⟩ := ints_at ik9 hv6
                      obtain ⟨k6, hk6, rfl⟩ := intsN_at hx6
                      refine kG9 ?_
                      clear kG9 gG9
                      have g1 := hkn6 _ (.tail _ (.head _))
                      have g2 := hkn6 _ (.tail _ (.tail _ j1))
                      have g3 := hkn6 _ (.tail _ (.tail _ j2))
                      have g4 := hkn6 _ (.tail _ (.tail _ j5))
                      clear j1 j2 j3 j4 j5
                      k_steps
                      · (with_reducible rename List.contains _ _ = true => ht6)
                        refine cend (by assumption) (by assumption) (.head _) (.tail _ (.head _)) (.tail _ (.tail _ (.head _))) (fun p hp => .tail _ (.tail _ (.tail _ hp))) off hax6 ⟨hkn6, ?_⟩
                        have e9 : intsN (comF (lq ++ [p]) (lq2 ++ [p2]) (i6 + 1)) = intsN (comF (lq ++ [p]) (lq2 ++ [p2]) i6) ++ [(k6 : Int)] := by rw [comF_succ hk6, if_pos ht6]; simp [intsN]
                        rw [e9]
                        exact hJ6.append (.cons _ _ .nil)
                      · (with_reducible rename List.contains _ _ = false => ht6)
                        refine cend (by assumption) (by assumption) (.head _) (.tail _ (.head _)) (.tail _ (.tail _ (.head _))) (fun p hp => .tail _ (.tail _ (.tail _ hp))) off hax6 ⟨hkn6, ?_⟩
                        have e9 : intsN (comF (lq ++ [p]) (lq2 ++ [p2]) (i6 + 1)) = intsN (comF (lq ++ [p]) (lq2 ++ [p2]) i6) := by rw [comF_succ hk6, ht6, if_neg (by decide), List.append_nil]
                        rw [e9]
                        exact hJ6
                    case done6 =>
                      intro g9 ys nn6 hkn6 hJ6 D2 h7 tk7 F N off1
                      rw [c6, comF_all] at hJ6
                      have g1 := hkn6 _ (.tail _ (.head _))
                      have g2 := hkn6 _ (.tail _ (.tail _ j1))
                      have g3 := hkn6 _ (.tail _ (.tail _ j2))
                      have g4 := hkn6 _ (.tail _ (.tail _ j5))
                      have g5 := hkn6 _ (.tail _ (.tail _ j3))
                      have g6 := hkn6 _ (.tail _ (.tail _ j4))
                      clear j1 j2 j3 j4 j5
                      k_steps
                      unfold Hold
                      (with_reducible rename News _ _ _ ((D2, _) :: _) => N9a)
                      (with_reducible rename Fr _ _ _ (_ : Str → Option Value) => F9a)
                      k_dflt (refine' lev_ct' ⟨?k1, ?k2, ?k3, ?k4, ?k5, ?k6, ?k7, ?k8⟩ PF.n1 PF.n2 PF.dj PF.ln PF.lo ?ret7; (case k1 => k_asm); (case k2 => exact F9a); (case k3 => k_in); (case k4 => exact N9a); (case k5 => exact T0); (case k6 => first | exact rfl | assumption); (case k7 => ktr_room); (case k8 => ktr_units))
                      case ret7 =>
                        intro t7 h8 tk8 F10 N10
                        clear F9a N9a
                        k_steps
                        unfold Hold
                        (with_reducible rename News _ _ _ ((D2, _) :: _) => N9b)
                        (with_reducible rename Fr _ _ _ (_ : Str → Option Value) => F9b)
                        k_dflt (refine' lev_ct' (p := []) (r := upps (lq ++ [p])) (q := lows (lq2 ++ [p2])) ⟨?k1, ?k2, ?k3, ?k4, ?k5, ?k6, ?k7, ?k8⟩ rfl PF.n2' PF.dj' PF.ln' PF.lo' ?ret8; (case k1 => k_asm); (case k2 => exact F9b); (case k3 => k_in); (case k4 => exact N9b); (case k5 => exact T0); (case k6 => first | exact rfl | assumption); (case k7 => ktr_room); (case k8 => ktr_units))
                        case ret8 =>
                          intro t8 h9 tk9 F11 N11
                          clear F9b N9b
                          have hnear : levF fr fq = 2 * ((if ((lq2 ++ [p2]).length : Int) > ((lq ++ [p]).length : Int) then ((lq2 ++ [p2]).length : Int) else ((lq ++ [p]).length : Int)) - ((commonF (lq ++ [p]) (lq2 ++ [p2])).length : Int)) := by
                            rw [PF.near]
                            congr 2
                            split <;> omega
                          have hfar := PF.far
                          k_steps
                          · (with_reducible rename _ ≠ 2 * _ => ha)
                            exact absurd hnear ha
                          · (with_reducible rename levF (upps _) _ ≠ _ => ha)
                            exact absurd hfar ha
                          · exact ⟨rfl, exi6 _ _ _ _ oc2 _ ⟨rfl, by assumption, by assumption, .tail _ (hkn6 _ (.head _)), fun p hp => .tail _ (hkn6 _ (.tail _ (.tail _ hp))), .tail _ g1, dC2, by kst_all⟩⟩
                  · exact ⟨rfl, exi6 _ _ _ _ oc2 _ ⟨rfl, by assumption, by assumption, .head _, fun p hp => .tail _ (.tail _ hp), .tail _ (.head _), dC2, by kst_all⟩⟩
                case done2 =>
                  intro h6 tk6 u6 oc2 vc2 F8 N8 dC2
                  dsimp only [kstB] at F8
                  clear N6 F6 N7 mk95 mk5 mC5 mK5 mk9 v2 s5
                  k_steps
                  refine TP.next () (by assumption) (by assumption) (fun p hp => .tail _ (l1 p (hokR p hp))) (by kst_all) ⟨oc2, vc2, .head _, dC2⟩
          case done =>
            intro c u nn h tk hkn hz9
            refine nmG fun gG9 kG9 => ?_
            obtain ⟨oc, vc, mC, dC⟩ := hz9
            refine kG9 ?_
            clear kG9 gG9
            intro F N
            dsimp only [kstB, envOfC] at F N
            have m180' := hkn _ (.tail _ m180R)
            clear N12 F12 mddh hDat
            k_steps
            refine ⟨true, rfl, ?hp, fun _ => rfl, Fr.keep (by assumption), rfl, hG3⟩
            case hp => first | rfl | kc_post
theorem ctZ : Bx (ctA.1 w s₀ s₁ mg mb fa pm cd doc xs sl ws hp1 tp1 oK oO) := ctB 
end Zlaw
theorem holds : PySem.Challenge.rw_xe0048_01.Holds := Zlaw.ctA.2 fun w s₀ s₁ mg mb fa pm cd doc xs sl ws hp1 tp1 oK oO => pk_all (ne := Zlaw.ne) (P := fun v => Bx (Zlaw.ctA.1 v.1 v.2.1 v.2.2.1 v.2.2.2.1 v.2.2.2.2.1 v.2.2.2.2.2.1 v.2.2.2.2.2.2.1 v.2.2.2.2.2.2.2.1 v.2.2.2.2.2.2.2.2.1 v.2.2.2.2.2.2.2.2.2.1 v.2.2.2.2.2.2.2.2.2.2.1 v.2.2.2.2.2.2.2.2.2.2.2.1 v.2.2.2.2.2.2.2.2.2.2.2.2.1 v.2.2.2.2.2.2.2.2.2.2.2.2.2.1 v.2.2.2.2.2.2.2.2.2.2.2.2.2.2.1 v.2.2.2.2.2.2.2.2.2.2.2.2.2.2.2)) (Zlaw.ctZ) (w, s₀, s₁, mg, mb, fa, pm, cd, doc, xs, sl, ws, hp1, tp1, oK, oO)
end Mine
end
theorem PySem.Challenge.cw_xe0048_01_holds : PySem.Challenge.rw_xe0048_01.Holds :=
  Mine.holds
