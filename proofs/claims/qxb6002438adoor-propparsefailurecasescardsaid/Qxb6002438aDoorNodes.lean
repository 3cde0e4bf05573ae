/-
  parser.nodes, whole.
-/
import Derived.Test.Qxb6002438aDoorNA
import Derived.Test.Qxb6002438aDoorNB
import Derived.Test.Qxb6002438aDoorNC
import Derived.Test.Qxb6002438aDoorND
import Derived.Test.Qxb6002438aDoorNE
import Derived.Test.Qxb6002438aDoorNF
import Derived.Test.Qxb6002438aDoorNG
import Derived.Test.Qxb6002438aDoorNH
import Derived.Test.Qxb6002438aDoorNI
import Derived.Test.Qxb6002438aDoorNJ
namespace Go.Proofs.Qxb6002438aDoor
open Go.RowKit

set_option maxRecDepth 100000 in
theorem lay_out (t : Array Value) (h : t.size = 300) : t = #[t.getD 0 undef, t.getD 1 undef, t.getD 2 undef, t.getD 3 undef, t.getD 4 undef, t.getD 5 undef, t.getD 6 undef, t.getD 7 undef, t.getD 8 undef, t.getD 9 undef, t.getD 10 undef, t.getD 11 undef, t.getD 12 undef, t.getD 13 undef, t.getD 14 undef, t.getD 15 undef, t.getD 16 undef, t.getD 17 undef, t.getD 18 undef, t.getD 19 undef, t.getD 20 undef, t.getD 21 undef, t.getD 22 undef, t.getD 23 undef, t.getD 24 undef, t.getD 25 undef, t.getD 26 undef, t.getD 27 undef, t.getD 28 undef, t.getD 29 undef, t.getD 30 undef, t.getD 31 undef, t.getD 32 undef, t.getD 33 undef, t.getD 34 undef, t.getD 35 undef, t.getD 36 undef, t.getD 37 undef, t.getD 38 undef, t.getD 39 undef, t.getD 40 undef, t.getD 41 undef, t.getD 42 undef, t.getD 43 undef, t.getD 44 undef, t.getD 45 undef, t.getD 46 undef, t.getD 47 undef, t.getD 48 undef, t.getD 49 undef, t.getD 50 undef, t.getD 51 undef, t.getD 52 undef, t.getD 53 undef, t.getD 54 undef, t.getD 55 undef, t.getD 56 undef, t.getD 57 undef, t.getD 58 undef, t.getD 59 undef, t.getD 60 undef, t.getD 61 undef, t.getD 62 undef, t.getD 63 undef, t.getD 64 undef, t.getD 65 undef, t.getD 66 undef, t.getD 67 undef, t.getD 68 undef, t.getD 69 undef, t.getD 70 undef, t.getD 71 undef, t.getD 72 undef, t.getD 73 undef, t.getD 74 undef, t.getD 75 undef, t.getD 76 undef, t.getD 77 undef, t.getD 78 undef, t.getD 79 undef, t.getD 80 undef, t.getD 81 undef, t.getD 82 undef, t.getD 83 undef, t.getD 84 undef, t.getD 85 undef, t.getD 86 undef, t.getD 87 undef, t.getD 88 undef, t.getD 89 undef, t.getD 90 undef, t.getD 91 undef, t.getD 92 undef, t.getD 93 undef, t.getD 94 undef, t.getD 95 undef, t.getD 96 undef, t.getD 97 undef, t.getD 98 undef, t.getD 99 undef, t.getD 100 undef, t.getD 101 undef, t.getD 102 undef, t.getD 103 undef, t.getD 104 undef, t.getD 105 undef, t.getD 106 undef, t.getD 107 undef, t.getD 108 undef, t.getD 109 undef, t.getD 110 undef, t.getD 111 undef, t.getD 112 undef, t.getD 113 undef, t.getD 114 undef, t.getD 115 undef, t.getD 116 undef, t.getD 117 undef, t.getD 118 undef, t.getD 119 undef, t.getD 120 undef, t.getD 121 undef, t.getD 122 undef, t.getD 123 undef, t.getD 124 undef, t.getD 125 undef, t.getD 126 undef, t.getD 127 undef, t.getD 128 undef, t.getD 129 undef, t.getD 130 undef, t.getD 131 undef, t.getD 132 undef, t.getD 133 undef, t.getD 134 undef, t.getD 135 undef, t.getD 136 undef, t.getD 137 undef, t.getD 138 undef, t.getD 139 undef, t.getD 140 undef, t.getD 141 undef, t.getD 142 undef, t.getD 143 undef, t.getD 144 undef, t.getD 145 undef, t.getD 146 undef, t.getD 147 undef, t.getD 148 undef, t.getD 149 undef, t.getD 150 undef, t.getD 151 undef, t.getD 152 undef, t.getD 153 undef, t.getD 154 undef, t.getD 155 undef, t.getD 156 undef, t.getD 157 undef, t.getD 158 undef, t.getD 159 undef, t.getD 160 undef, t.getD 161 undef, t.getD 162 undef, t.getD 163 undef, t.getD 164 undef, t.getD 165 undef, t.getD 166 undef, t.getD 167 undef, t.getD 168 undef, t.getD 169 undef, t.getD 170 undef, t.getD 171 undef, t.getD 172 undef, t.getD 173 undef, t.getD 174 undef, t.getD 175 undef, t.getD 176 undef, t.getD 177 undef, t.getD 178 undef, t.getD 179 undef, t.getD 180 undef, t.getD 181 undef, t.getD 182 undef, t.getD 183 undef, t.getD 184 undef, t.getD 185 undef, t.getD 186 undef, t.getD 187 undef, t.getD 188 undef, t.getD 189 undef, t.getD 190 undef, t.getD 191 undef, t.getD 192 undef, t.getD 193 undef, t.getD 194 undef, t.getD 195 undef, t.getD 196 undef, t.getD 197 undef, t.getD 198 undef, t.getD 199 undef, t.getD 200 undef, t.getD 201 undef, t.getD 202 undef, t.getD 203 undef, t.getD 204 undef, t.getD 205 undef, t.getD 206 undef, t.getD 207 undef, t.getD 208 undef, t.getD 209 undef, t.getD 210 undef, t.getD 211 undef, t.getD 212 undef, t.getD 213 undef, t.getD 214 undef, t.getD 215 undef, t.getD 216 undef, t.getD 217 undef, t.getD 218 undef, t.getD 219 undef, t.getD 220 undef, t.getD 221 undef, t.getD 222 undef, t.getD 223 undef, t.getD 224 undef, t.getD 225 undef, t.getD 226 undef, t.getD 227 undef, t.getD 228 undef, t.getD 229 undef, t.getD 230 undef, t.getD 231 undef, t.getD 232 undef, t.getD 233 undef, t.getD 234 undef, t.getD 235 undef, t.getD 236 undef, t.getD 237 undef, t.getD 238 undef, t.getD 239 undef, t.getD 240 undef, t.getD 241 undef, t.getD 242 undef, t.getD 243 undef, t.getD 244 undef, t.getD 245 undef, t.getD 246 undef, t.getD 247 undef, t.getD 248 undef, t.getD 249 undef, t.getD 250 undef, t.getD 251 undef, t.getD 252 undef, t.getD 253 undef, t.getD 254 undef, t.getD 255 undef, t.getD 256 undef, t.getD 257 undef, t.getD 258 undef, t.getD 259 undef, t.getD 260 undef, t.getD 261 undef, t.getD 262 undef, t.getD 263 undef, t.getD 264 undef, t.getD 265 undef, t.getD 266 undef, t.getD 267 undef, t.getD 268 undef, t.getD 269 undef, t.getD 270 undef, t.getD 271 undef, t.getD 272 undef, t.getD 273 undef, t.getD 274 undef, t.getD 275 undef, t.getD 276 undef, t.getD 277 undef, t.getD 278 undef, t.getD 279 undef, t.getD 280 undef, t.getD 281 undef, t.getD 282 undef, t.getD 283 undef, t.getD 284 undef, t.getD 285 undef, t.getD 286 undef, t.getD 287 undef, t.getD 288 undef, t.getD 289 undef, t.getD 290 undef, t.getD 291 undef, t.getD 292 undef, t.getD 293 undef, t.getD 294 undef, t.getD 295 undef, t.getD 296 undef, t.getD 297 undef, t.getD 298 undef, t.getD 299 undef] := by
  have e : t = ((List.range 300).map fun n => t.getD n undef).toArray := by
    apply Array.ext
    · simp [h]
    · intro j h1 h2
      simp [Array.getD, h1]
  exact e
set_option maxRecDepth 100000 in
theorem frame_of {p ov nv : Value} {a : Act} (h : Frm p ov nv a) : ∃ u : Nat → Value, a = ⟨#[p, ov, undef, undef, u 4, u 5, nv, u 7, u 8, u 9, u 10, u 11, u 12, u 13, u 14, u 15, u 16, u 17, u 18, u 19, u 20, u 21, u 22, u 23, u 24, u 25, u 26, u 27, u 28, u 29, u 30, u 31, u 32, u 33, u 34, u 35, u 36, u 37, u 38, u 39, u 40, u 41, u 42, u 43, u 44, u 45, u 46, u 47, u 48, u 49, u 50, u 51, u 52, u 53, u 54, u 55, u 56, u 57, u 58, u 59, u 60, u 61, u 62, u 63, u 64, u 65, u 66, u 67, u 68, u 69, u 70, u 71, u 72, u 73, u 74, u 75, u 76, u 77, u 78, u 79, u 80, u 81, u 82, u 83, u 84, u 85, u 86, u 87, u 88, u 89, u 90, u 91, u 92, u 93, u 94, u 95, u 96, u 97, u 98, u 99, u 100, u 101, u 102, u 103, u 104, u 105, u 106, u 107, u 108, u 109, u 110, u 111, u 112, u 113, u 114, u 115, u 116, u 117, u 118, u 119, u 120, u 121, u 122, u 123, u 124, u 125, u 126, u 127, u 128, u 129, u 130, u 131, u 132, u 133, u 134, u 135, u 136, u 137, u 138, u 139, u 140, u 141, u 142, u 143, u 144, u 145, u 146, u 147, u 148, u 149, u 150, u 151, u 152, u 153, u 154, u 155, u 156, u 157, u 158, u 159, u 160, u 161, u 162, u 163, u 164, u 165, u 166, u 167, u 168, u 169, u 170, u 171, u 172, u 173, u 174, u 175, u 176, u 177, u 178, u 179, u 180, u 181, u 182, u 183, u 184, u 185, u 186, u 187, u 188, u 189, u 190, u 191, u 192, u 193, u 194, u 195, u 196, u 197, u 198, u 199, u 200, u 201, u 202, u 203, u 204, u 205, u 206, u 207, u 208, u 209, u 210, u 211, u 212, u 213, u 214, u 215, u 216, u 217, u 218, u 219, u 220, u 221, u 222, u 223, u 224, u 225, u 226, u 227, u 228, u 229, u 230, u 231, u 232, u 233, u 234, u 235, u 236, u 237, u 238, u 239, u 240, u 241, u 242, u 243, u 244, u 245, u 246, u 247, u 248, u 249, u 250, u 251, u 252, u 253, u 254, u 255, u 256, u 257, u 258, u 259, u 260, u 261, u 262, u 263, u 264, u 265, u 266, u 267, u 268, u 269, u 270, u 271, u 272, u 273, u 274, u 275, u 276, u 277, u 278, u 279, u 280, u 281, u 282, u 283, u 284, u 285, u 286, u 287, u 288, u 289, u 290, u 291, u 292, u 293, u 294, u 295, u 296, u 297, u 298, u 299], []⟩ := by
  obtain ⟨t, d⟩ := a
  obtain ⟨hd, hz, h0, h1, h2, h3, h6⟩ := h
  have e := lay_out t hz
  have hd' : d = [] := hd
  subst hd'
  refine ⟨fun n => t.getD n undef, congrArg (fun x => Act.mk x []) ?_⟩
  refine e.trans ?_
  have h0' : t.getD 0 undef = p := h0
  have h1' : t.getD 1 undef = ov := h1
  have h2' : t.getD 2 undef = undef := h2
  have h3' : t.getD 3 undef = undef := h3
  have h6' : t.getD 6 undef = nv := h6
  rw [h0', h1', h2', h3', h6']

set_option maxRecDepth 100000 in
set_option maxHeartbeats 4000000 in
theorem nodes_step (hIB : IBc) (hCR : CRc) (s : ByteArray) (hs : s.size ≤ 1048576) (g : Nat) (hQ : Qc s g) (o : Option (Nat × Nat)) (i line : Nat) (w : World) (hi : i ≤ s.size) (hline : line ≤ i + 1) (hst : St s g o w i line (.slice none 0 0) w) (IH : IHc s g i) :
    Calls Tryd.prog 23 #[.pointer (some ⟨g, 0, none⟩), openV o] w fun e w' => NPost s g o w i line e w' := by
  have HIB := hide hIB
  have HCR := hide hCR
  have HQ := hide hQ
  have HIH := hide IH
  have HST := hide hst
  clear hIB hCR hQ IH hst
  go_enter Tryd.func23, Tryd.ntmps23
  go_wp2_with fail
  refine wp_loop (NI s g o w i line) (fun _ wr => left s g wr) ⟨_, ⟨rfl, rfl, rfl, rfl, rfl, rfl, rfl⟩, i, line, Nat.le_refl _, hi, hline, unhide HST, fun _ => rfl⟩ ?_
  rintro a wr ⟨nv, hf, k, ln, hik, hk, hln, hS, hR⟩
  obtain ⟨u, rfl⟩ := frame_of hf
  have HQR : Hid (QRet s g o w i line (bodyPost Tryd.prog Tryd.f23 fun e w' => NPost s g o w i line e w')) := by
    intro a w' hd hN
    exact ⟨hd, _, by simp [results, Tryd.results23, go_sem], hN⟩
  by_cases hlt : k < s.size
  · by_cases b32 : byt s k = 32
    · exact case_sp s hs g o i line k ln w wr u nv _ (fun a w' hd hN => (unhide HQR) a w' hd hN) hik hk hlt b32 hln (hide hS) (hide hR)
    by_cases b9 : byt s k = 9
    · exact case_tab s hs g o i line k ln w wr u nv _ (fun a w' hd hN => (unhide HQR) a w' hd hN) hik hk hlt b9 hln (hide hS) (hide hR)
    by_cases b10 : byt s k = 10
    · cases o with
      | none => exact case_nl0 s hs g i line k ln w wr u nv _ (fun a w' hd hN => (unhide HQR) a w' hd hN) hik hk hlt b10 hln (hide hS) (hide hR)
      | some p => exact case_nl1 s hs g p i line k ln w wr u nv _ (fun a w' hd hN => (unhide HQR) a w' hd hN) hik hk hlt b10 hln (hide hS) (hide hR)
    by_cases b35 : byt s k = 35
    · exact case_hash s hs g o i line k ln w wr u nv _ HIB (fun a w' hd hN => (unhide HQR) a w' hd hN) hik hk hlt b35 hln (hide hS) (hide hR)
    by_cases b124 : byt s k = 124
    · cases o with
      | none => exact case_pipe0 s hs g i line k ln w wr u nv _ (fun a w' hd hN => (unhide HQR) a w' hd hN) hik hk hlt b124 hln (hide hS) (hide hR)
      | some p => exact case_pipe1 s hs g p i line k ln w wr u nv _ (fun a w' hd hN => (unhide HQR) a w' hd hN) hik hk hlt b124 hln (hide hS) (hide hR)
    by_cases b125 : byt s k = 125
    · cases o with
      | none => exact case_close0 s hs g i line k ln w wr u nv _ (fun a w' hd hN => (unhide HQR) a w' hd hN) hik hk hlt b125 hln (hide hS) (hide hR)
      | some p => exact case_close1 s hs g p i line k ln w wr u nv _ (fun a w' hd hN => (unhide HQR) a w' hd hN) hik hk hlt b125 hln (hide hS) (hide hR)
    by_cases b123 : byt s k = 123
    · exact case_open s hs g o i line k ln w wr u nv _ HIH (fun a w' hd hN => (unhide HQR) a w' hd hN) hik hk hlt b123 hln (hide hS) (hide hR)
    by_cases b39 : byt s k = 39
    · exact case_quote s hs g o i line k ln w wr u nv _ HQ (fun a w' hd hN => (unhide HQR) a w' hd hN) hik hk hlt b39 hln (hide hS) (hide hR)
    have hn : ¬ isDelim (byt s k) := by unfold isDelim; omega
    exact case_word s hs g o i line k ln w wr u nv _ HCR (fun a w' hd hN => (unhide HQR) a w' hd hN) hik hk hlt hn b35 hln (hide hS) (hide hR)
  · cases o with
    | none => exact case_end0 s hs g i line k ln w wr u nv _ (fun a w' hd hN => (unhide HQR) a w' hd hN) hik hk hlt hln (hide hS) (hide hR)
    | some p => exact case_end1 s hs g p i line k ln w wr u nv _ (fun a w' hd hN => (unhide HQR) a w' hd hN) hik hk hlt hln (hide hS) (hide hR)

/-- parser.nodes, at every position. -/
theorem nodes_any (hIB : IBc) (hCR : CRc) (s : ByteArray) (hs : s.size ≤ 1048576) (g : Nat) (hQ : Qc s g) : ∀ (N : Nat) (o : Option (Nat × Nat)) (i line : Nat) (w : World), s.size - i ≤ N → i ≤ s.size → line ≤ i + 1 → St s g o w i line (.slice none 0 0) w →
    Calls Tryd.prog 23 #[.pointer (some ⟨g, 0, none⟩), openV o] w fun e w' => NPost s g o w i line e w'
  | 0, o, i, line, w, hN, hi, hline, hst => nodes_step hIB hCR s hs g hQ o i line w hi hline hst fun i' _ _ _ h1 h2 _ _ => by omega
  | N + 1, o, i, line, w, hN, hi, hline, hst => nodes_step hIB hCR s hs g hQ o i line w hi hline hst fun i' line' o' w' h1 h2 h3 h4 => nodes_any hIB hCR s hs g hQ N o' i' line' w' (by omega) h2 h3 h4
end Go.Proofs.Qxb6002438aDoor
