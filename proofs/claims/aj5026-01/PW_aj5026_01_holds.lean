import PyProof.Rows.All
import Wide.All
import OpenK.AllK
import Wide.FinOn
import Open.Tops
import PySem.Challenge.RW_aj5026_01
set_option Elab.async false
section
open PySem PySem.Spec PySem.Calls PySem.W PyProof.Rows
set_option Elab.async false
namespace Mine
/-- the objects at the marked places of a heap, read in one pass -/
def pickN : Nat → List Bool → List Obj → List (Addr × Obj)
  | _, [], _ => []
  | _, _ :: _, [] => []
  | n, true :: m, o :: l => (n, o) :: pickN (n + 1) m l
  | n, false :: m, _ :: l => pickN (n + 1) m l
theorem pickN_get : ∀ (m : List Bool) (l : List Obj) (n : Nat) (p : Addr × Obj), p ∈ pickN n m l → ∃ k, p.1 = n + k ∧ l[k]? = some p.2
  | [], _, _, p, h => by simp [pickN] at h
  | _ :: _, [], _, p, h => by simp [pickN] at h
  | true :: m, o :: l, n, p, h => by
    rcases List.mem_cons.mp h with rfl | h
    · exact ⟨0, rfl, rfl⟩
    · obtain ⟨k, e, g⟩ := pickN_get m l (n + 1) p h
      exact ⟨k + 1, by rw [e, Nat.add_assoc, Nat.add_comm 1 k], by simpa using g⟩
  | false :: m, o :: l, n, p, h => by
    obtain ⟨k, e, g⟩ := pickN_get m l (n + 1) p h
    exact ⟨k + 1, by rw [e, Nat.add_assoc, Nat.add_comm 1 k], by simpa using g⟩
def alive (K : List (Addr × Obj)) : Bool := K.all fun p => match p.2.data with | .freed => false | _ => true
theorem alive_get {h : Heap} {a : Addr} {o : Obj} (e : h.objs[a]? = some o) (q : (match o.data with | .freed => false | _ => true) = true) : h.get? a = some o := by
  unfold Heap.get?
  rw [e]
  obtain ⟨c, d, dt, sl⟩ := o
  cases dt <;> first | rfl | cases q
def isTab (o : Obj) : Bool := (match o.cls with | .none => true | _ => false) && o.dict.isNone && (match o.data with | .fields vs => vs.isEmpty | _ => false) && o.slots.isEmpty
theorem isTab_eq {o : Obj} (q : isTab o = true) : o = tabObj #[] := by
  obtain ⟨c, d, dt, sl⟩ := o
  unfold isTab at q
  simp only [Bool.and_eq_true] at q
  obtain ⟨⟨⟨q1, q2⟩, q3⟩, q4⟩ := q
  have e4 : sl = #[] := Array.isEmpty_iff.1 q4
  have e2 : d = none := Option.isNone_iff_eq_none.mp q2
  have e1 : c = .none := by cases c <;> first | rfl | cases q1
  cases dt <;> first | cases q3 | skip
  rename_i vs
  have e3 : vs = #[] := Array.isEmpty_iff.1 q3
  subst e1 e2 e3 e4
  rfl
/-- what the head looks at: the objects of the part K0 (its type names no Frag: so the kit's quick road turns it too) -/
def pkHook (mask : List Bool) (K0 : Params → List (Addr × Obj)) : Hook where
  α := List (Addr × Obj)
  obs := fun s => pickN 0 mask s.heap.objs.toList
  val := fun w => K0 w.params
  says := fun w h => ∀ p ∈ K0 w.params, (match p.2.data with | .freed => false | _ => true) = true → h.get? p.1 = some p.2
  of := fun w s x p hp q => by
    rw [← x] at hp
    obtain ⟨k, e, g⟩ := pickN_get _ _ _ _ hp
    rw [Nat.zero_add] at e
    rw [e]
    refine alive_get ?_ q
    rw [← Array.getElem?_toList]
    exact g
  keeps := fun w h h' x k p hp q => k _ _ (x p hp q)
section
variable {K : Params → Frag} {ts : List Addr} {mask : List Bool} {K0 : Params → List (Addr × Obj)} {w : World} {h : Heap}
theorem pk_in (ha : ∀ P, alive (K0 P) = true) (hs : ∀ P, K P = (K0 P).filter fun p => !ts.contains p.1) (Y : (pkHook mask K0).says w h) : (K w.params).In h := fun a o e => by
  have hm := mem_of_lookupK e
  rw [hs] at hm
  have hp := (List.mem_filter.mp hm).1
  exact Y _ hp (List.all_eq_true.mp (ha w.params) _ hp)
theorem pk_tabs (ha : ∀ P, alive (K0 P) = true) (ht : ∀ P, (ts.all fun t => (K0 P).any fun p => Nat.beq p.1 t && isTab p.2) = true) (Y : (pkHook mask K0).says w h) : ∀ P ∈ ts, h.get? P = some (tabObj #[]) := fun t htm => by
  obtain ⟨p, hp, q⟩ := List.any_eq_true.mp (List.all_eq_true.mp (ht w.params) t htm)
  rw [Bool.and_eq_true] at q
  have e1 : p.1 = t := Nat.eq_of_beq_eq_true q.1
  have g := Y p hp (List.all_eq_true.mp (ha w.params) _ hp)
  rw [e1, isTab_eq q.2] at g
  exact g
end
end Mine

end
section
open PySem PySem.W PyProof.Rows
set_option Elab.async false
namespace Mine
set_option maxRecDepth 100000 in
set_option maxHeartbeats 8000000 in
open_shared sh for PySem.Challenge.pw_aj5026_01 leaving 0
set_option maxRecDepth 100000 in
noncomputable def K0 (P : Params) : List (Addr × Obj) := (nat_lit 2, PySem.W.boot_o_2 P) :: (nat_lit 3, Mine.sh.o_370 P) :: (nat_lit 15, Mine.sh.o_7 P) :: (nat_lit 17, Mine.sh.o_9 P) :: (nat_lit 18, Mine.sh.o_10 P) :: (nat_lit 20, Mine.sh.o_12 P) :: (nat_lit 21, Mine.sh.o_13 P) :: (nat_lit 22, Mine.sh.o_14 P) :: (nat_lit 24, Mine.sh.o_16 P) :: (nat_lit 25, Mine.sh.o_17 P) :: (nat_lit 27, Mine.sh.o_19 P) :: (nat_lit 28, Mine.sh.o_20 P) :: (nat_lit 29, Mine.sh.o_21 P) :: (nat_lit 31, Mine.sh.o_23 P) :: (nat_lit 32, Mine.sh.o_24 P) :: (nat_lit 34, Mine.sh.o_26 P) :: (nat_lit 35, Mine.sh.o_27 P) :: (nat_lit 36, Mine.sh.o_28 P) :: (nat_lit 37, Mine.sh.o_32 P) :: (nat_lit 44, Mine.sh.o_39 P) :: (nat_lit 46, Mine.sh.o_41 P) :: (nat_lit 47, Mine.sh.o_42 P) :: (nat_lit 49, Mine.sh.o_44 P) :: (nat_lit 50, Mine.sh.o_45 P) :: (nat_lit 51, Mine.sh.o_46 P) :: (nat_lit 53, Mine.sh.o_48 P) :: (nat_lit 54, Mine.sh.o_49 P) :: (nat_lit 56, Mine.sh.o_51 P) :: (nat_lit 57, Mine.sh.o_52 P) :: (nat_lit 58, Mine.sh.o_53 P) :: (nat_lit 60, Mine.sh.o_55 P) :: (nat_lit 61, Mine.sh.o_56 P) :: (nat_lit 63, Mine.sh.o_58 P) :: (nat_lit 64, Mine.sh.o_59 P) :: (nat_lit 65, Mine.sh.o_60 P) :: (nat_lit 67, Mine.sh.o_62 P) :: (nat_lit 68, Mine.sh.o_63 P) :: (nat_lit 70, Mine.sh.o_65 P) :: (nat_lit 71, Mine.sh.o_66 P) :: (nat_lit 72, Mine.sh.o_67 P) :: (nat_lit 74, Mine.sh.o_69 P) :: (nat_lit 75, Mine.sh.o_70 P) :: (nat_lit 77, Mine.sh.o_72 P) :: (nat_lit 78, Mine.sh.o_73 P) :: (nat_lit 79, Mine.sh.o_74 P) :: (nat_lit 81, Mine.sh.o_76 P) :: (nat_lit 82, Mine.sh.o_77 P) :: (nat_lit 84, Mine.sh.o_79 P) :: (nat_lit 85, Mine.sh.o_80 P) :: (nat_lit 86, Mine.sh.o_81 P) :: (nat_lit 88, Mine.sh.o_83 P) :: (nat_lit 89, Mine.sh.o_84 P) :: (nat_lit 91, Mine.sh.o_86 P) :: (nat_lit 92, Mine.sh.o_87 P) :: (nat_lit 93, Mine.sh.o_88 P) :: (nat_lit 94, Mine.sh.o_89 P) :: (nat_lit 95, Mine.sh.o_124 P) :: (nat_lit 96, Mine.sh.o_91 P) :: (nat_lit 97, Mine.sh.o_92 P) :: (nat_lit 100, Mine.sh.o_98 P) :: (nat_lit 102, Mine.sh.o_100 P) :: (nat_lit 103, Mine.sh.o_101 P) :: (nat_lit 105, Mine.sh.o_103 P) :: (nat_lit 106, Mine.sh.o_104 P) :: (nat_lit 107, Mine.sh.o_105 P) :: (nat_lit 108, Mine.sh.o_106 P) :: (nat_lit 110, Mine.sh.o_108 P) :: (nat_lit 111, Mine.sh.o_109 P) :: (nat_lit 113, Mine.sh.o_111 P) :: (nat_lit 114, Mine.sh.o_112 P) :: (nat_lit 115, Mine.sh.o_113 P) :: (nat_lit 116, Mine.sh.o_114 P) :: (nat_lit 118, Mine.sh.o_116 P) :: (nat_lit 119, Mine.sh.o_117 P) :: (nat_lit 121, Mine.sh.o_119 P) :: (nat_lit 122, Mine.sh.o_120 P) :: (nat_lit 123, Mine.sh.o_125 P) :: (nat_lit 130, Mine.sh.o_132 P) :: (nat_lit 131, Mine.sh.o_133 P) :: (nat_lit 132, Mine.sh.o_134 P) :: (nat_lit 134, Mine.sh.o_136 P) :: (nat_lit 135, Mine.sh.o_137 P) :: (nat_lit 137, Mine.sh.o_139 P) :: (nat_lit 138, Mine.sh.o_140 P) :: (nat_lit 139, Mine.sh.o_141 P) :: (nat_lit 141, Mine.sh.o_143 P) :: (nat_lit 142, Mine.sh.o_144 P) :: (nat_lit 144, Mine.sh.o_146 P) :: (nat_lit 145, Mine.sh.o_147 P) :: (nat_lit 146, Mine.sh.o_148 P) :: (nat_lit 148, Mine.sh.o_150 P) :: (nat_lit 149, Mine.sh.o_151 P) :: (nat_lit 151, Mine.sh.o_153 P) :: (nat_lit 152, Mine.sh.o_154 P) :: (nat_lit 153, Mine.sh.o_155 P) :: (nat_lit 154, Mine.sh.o_156 P) :: (nat_lit 155, Mine.sh.o_157 P) :: (nat_lit 158, Mine.sh.o_163 P) :: (nat_lit 159, Mine.sh.o_164 P) :: (nat_lit 161, Mine.sh.o_166 P) :: (nat_lit 162, Mine.sh.o_167 P) :: (nat_lit 164, Mine.sh.o_169 P) :: (nat_lit 165, Mine.sh.o_170 P) :: (nat_lit 173, Mine.sh.o_178 P) :: (nat_lit 175, Mine.sh.o_180 P) :: (nat_lit 176, Mine.sh.o_181 P) :: (nat_lit 178, Mine.sh.o_183 P) :: (nat_lit 179, Mine.sh.o_184 P) :: (nat_lit 180, Mine.sh.o_185 P) :: (nat_lit 181, Mine.sh.o_186 P) :: (nat_lit 183, Mine.sh.o_188 P) :: (nat_lit 184, Mine.sh.o_189 P) :: (nat_lit 186, Mine.sh.o_191 P) :: (nat_lit 187, Mine.sh.o_192 P) :: (nat_lit 188, Mine.sh.o_193 P) :: (nat_lit 190, Mine.sh.o_195 P) :: (nat_lit 191, Mine.sh.o_196 P) :: (nat_lit 193, Mine.sh.o_198 P) :: (nat_lit 194, Mine.sh.o_199 P) :: (nat_lit 195, Mine.sh.o_200 P) :: (nat_lit 197, Mine.sh.o_202 P) :: (nat_lit 198, Mine.sh.o_203 P) :: (nat_lit 200, Mine.sh.o_205 P) :: (nat_lit 201, Mine.sh.o_206 P) :: (nat_lit 202, Mine.sh.o_207 P) :: (nat_lit 203, Mine.sh.o_208 P) :: (nat_lit 204, Mine.sh.o_209 P) :: (nat_lit 205, Mine.sh.o_210 P) :: (nat_lit 206, Mine.sh.o_211 P) :: (nat_lit 209, Mine.sh.o_217 P) :: (nat_lit 212, Mine.sh.o_220 P) :: (nat_lit 217, Mine.sh.o_225 P) :: (nat_lit 218, Mine.sh.o_226 P) :: (nat_lit 219, Mine.sh.o_227 P) :: (nat_lit 220, Mine.sh.o_228 P) :: (nat_lit 222, Mine.sh.o_230 P) :: (nat_lit 223, Mine.sh.o_231 P) :: (nat_lit 225, Mine.sh.o_233 P) :: (nat_lit 226, Mine.sh.o_234 P) :: (nat_lit 227, Mine.sh.o_235 P) :: (nat_lit 229, Mine.sh.o_237 P) :: (nat_lit 230, Mine.sh.o_238 P) :: (nat_lit 232, Mine.sh.o_240 P) :: (nat_lit 233, Mine.sh.o_241 P) :: (nat_lit 234, Mine.sh.o_242 P) :: (nat_lit 235, Mine.sh.o_243 P) :: (nat_lit 236, Mine.sh.o_244 P) :: (nat_lit 237, Mine.sh.o_245 P) :: (nat_lit 238, Mine.sh.o_246 P) :: (nat_lit 240, Mine.sh.o_248 P) :: (nat_lit 241, Mine.sh.o_249 P) :: (nat_lit 243, Mine.sh.o_251 P) :: (nat_lit 244, Mine.sh.o_252 P) :: (nat_lit 245, Mine.sh.o_253 P) :: (nat_lit 247, Mine.sh.o_255 P) :: (nat_lit 248, Mine.sh.o_256 P) :: (nat_lit 250, Mine.sh.o_258 P) :: (nat_lit 251, Mine.sh.o_259 P) :: (nat_lit 252, Mine.sh.o_260 P) :: (nat_lit 254, Mine.sh.o_262 P) :: (nat_lit 255, Mine.sh.o_263 P) :: (nat_lit 257, Mine.sh.o_265 P) :: (nat_lit 258, Mine.sh.o_266 P) :: (nat_lit 259, Mine.sh.o_267 P) :: (nat_lit 261, Mine.sh.o_269 P) :: (nat_lit 262, Mine.sh.o_270 P) :: (nat_lit 264, Mine.sh.o_272 P) :: (nat_lit 265, Mine.sh.o_273 P) :: (nat_lit 266, Mine.sh.o_274 P) :: (nat_lit 267, Mine.sh.o_275 P) :: (nat_lit 268, Mine.sh.o_276 P) :: (nat_lit 270, Mine.sh.o_278 P) :: (nat_lit 271, Mine.sh.o_279 P) :: (nat_lit 273, Mine.sh.o_281 P) :: (nat_lit 274, Mine.sh.o_282 P) :: (nat_lit 276, Mine.sh.o_284 P) :: (nat_lit 277, Mine.sh.o_285 P) :: (nat_lit 279, Mine.sh.o_287 P) :: (nat_lit 280, Mine.sh.o_288 P) :: (nat_lit 282, Mine.sh.o_290 P) :: (nat_lit 284, Mine.sh.o_292 P) :: (nat_lit 285, Mine.sh.o_293 P) :: (nat_lit 286, Mine.sh.o_294 P) :: (nat_lit 289, Mine.sh.o_372 P) :: (nat_lit 291, Mine.sh.o_374 P) :: (nat_lit 292, Mine.sh.o_375 P) :: (nat_lit 294, Mine.sh.o_377 P) :: (nat_lit 295, Mine.sh.o_378 P) :: (nat_lit 296, Mine.sh.o_379 P) :: (nat_lit 298, Mine.sh.o_381 P) :: (nat_lit 299, Mine.sh.o_382 P) :: (nat_lit 301, Mine.sh.o_384 P) :: (nat_lit 302, Mine.sh.o_385 P) :: (nat_lit 303, Mine.sh.o_386 P) :: (nat_lit 304, Mine.sh.o_387 P) :: (nat_lit 305, Mine.sh.o_388 P) :: (nat_lit 306, Mine.sh.o_389 P) :: (nat_lit 308, Mine.sh.o_391 P) :: (nat_lit 309, Mine.sh.o_392 P) :: (nat_lit 310, Mine.sh.o_393 P) :: (nat_lit 312, Mine.sh.o_395 P) :: (nat_lit 313, Mine.sh.o_396 P) :: (nat_lit 315, Mine.sh.o_398 P) :: (nat_lit 316, Mine.sh.o_399 P) :: (nat_lit 317, Mine.sh.o_400 P) :: (nat_lit 318, Mine.sh.o_401 P) :: (nat_lit 319, Mine.sh.o_402 P) :: (nat_lit 320, Mine.sh.o_403 P) :: (nat_lit 322, Mine.sh.o_405 P) :: (nat_lit 323, Mine.sh.o_406 P) :: (nat_lit 324, Mine.sh.o_407 P) :: (nat_lit 327, Mine.sh.o_410 P) :: (nat_lit 328, Mine.sh.o_411 P) :: []
set_option maxRecDepth 100000 in
noncomputable def K (P : Params) : Frag := (nat_lit 2, PySem.W.boot_o_2 P) :: (nat_lit 3, Mine.sh.o_370 P) :: (nat_lit 15, Mine.sh.o_7 P) :: (nat_lit 17, Mine.sh.o_9 P) :: (nat_lit 18, Mine.sh.o_10 P) :: (nat_lit 20, Mine.sh.o_12 P) :: (nat_lit 21, Mine.sh.o_13 P) :: (nat_lit 22, Mine.sh.o_14 P) :: (nat_lit 24, Mine.sh.o_16 P) :: (nat_lit 25, Mine.sh.o_17 P) :: (nat_lit 27, Mine.sh.o_19 P) :: (nat_lit 28, Mine.sh.o_20 P) :: (nat_lit 29, Mine.sh.o_21 P) :: (nat_lit 31, Mine.sh.o_23 P) :: (nat_lit 32, Mine.sh.o_24 P) :: (nat_lit 34, Mine.sh.o_26 P) :: (nat_lit 35, Mine.sh.o_27 P) :: (nat_lit 36, Mine.sh.o_28 P) :: (nat_lit 37, Mine.sh.o_32 P) :: (nat_lit 44, Mine.sh.o_39 P) :: (nat_lit 46, Mine.sh.o_41 P) :: (nat_lit 47, Mine.sh.o_42 P) :: (nat_lit 49, Mine.sh.o_44 P) :: (nat_lit 50, Mine.sh.o_45 P) :: (nat_lit 51, Mine.sh.o_46 P) :: (nat_lit 53, Mine.sh.o_48 P) :: (nat_lit 54, Mine.sh.o_49 P) :: (nat_lit 56, Mine.sh.o_51 P) :: (nat_lit 57, Mine.sh.o_52 P) :: (nat_lit 58, Mine.sh.o_53 P) :: (nat_lit 60, Mine.sh.o_55 P) :: (nat_lit 61, Mine.sh.o_56 P) :: (nat_lit 63, Mine.sh.o_58 P) :: (nat_lit 64, Mine.sh.o_59 P) :: (nat_lit 65, Mine.sh.o_60 P) :: (nat_lit 67, Mine.sh.o_62 P) :: (nat_lit 68, Mine.sh.o_63 P) :: (nat_lit 70, Mine.sh.o_65 P) :: (nat_lit 71, Mine.sh.o_66 P) :: (nat_lit 72, Mine.sh.o_67 P) :: (nat_lit 74, Mine.sh.o_69 P) :: (nat_lit 75, Mine.sh.o_70 P) :: (nat_lit 77, Mine.sh.o_72 P) :: (nat_lit 78, Mine.sh.o_73 P) :: (nat_lit 79, Mine.sh.o_74 P) :: (nat_lit 81, Mine.sh.o_76 P) :: (nat_lit 82, Mine.sh.o_77 P) :: (nat_lit 84, Mine.sh.o_79 P) :: (nat_lit 85, Mine.sh.o_80 P) :: (nat_lit 86, Mine.sh.o_81 P) :: (nat_lit 88, Mine.sh.o_83 P) :: (nat_lit 89, Mine.sh.o_84 P) :: (nat_lit 91, Mine.sh.o_86 P) :: (nat_lit 92, Mine.sh.o_87 P) :: (nat_lit 93, Mine.sh.o_88 P) :: (nat_lit 94, Mine.sh.o_89 P) :: (nat_lit 95, Mine.sh.o_124 P) :: (nat_lit 96, Mine.sh.o_91 P) :: (nat_lit 97, Mine.sh.o_92 P) :: (nat_lit 100, Mine.sh.o_98 P) :: (nat_lit 102, Mine.sh.o_100 P) :: (nat_lit 103, Mine.sh.o_101 P) :: (nat_lit 105, Mine.sh.o_103 P) :: (nat_lit 106, Mine.sh.o_104 P) :: (nat_lit 107, Mine.sh.o_105 P) :: (nat_lit 108, Mine.sh.o_106 P) :: (nat_lit 110, Mine.sh.o_108 P) :: (nat_lit 111, Mine.sh.o_109 P) :: (nat_lit 113, Mine.sh.o_111 P) :: (nat_lit 114, Mine.sh.o_112 P) :: (nat_lit 115, Mine.sh.o_113 P) :: (nat_lit 116, Mine.sh.o_114 P) :: (nat_lit 118, Mine.sh.o_116 P) :: (nat_lit 119, Mine.sh.o_117 P) :: (nat_lit 121, Mine.sh.o_119 P) :: (nat_lit 122, Mine.sh.o_120 P) :: (nat_lit 123, Mine.sh.o_125 P) :: (nat_lit 130, Mine.sh.o_132 P) :: (nat_lit 131, Mine.sh.o_133 P) :: (nat_lit 132, Mine.sh.o_134 P) :: (nat_lit 134, Mine.sh.o_136 P) :: (nat_lit 135, Mine.sh.o_137 P) :: (nat_lit 137, Mine.sh.o_139 P) :: (nat_lit 138, Mine.sh.o_140 P) :: (nat_lit 139, Mine.sh.o_141 P) :: (nat_lit 141, Mine.sh.o_143 P) :: (nat_lit 142, Mine.sh.o_144 P) :: (nat_lit 144, Mine.sh.o_146 P) :: (nat_lit 145, Mine.sh.o_147 P) :: (nat_lit 146, Mine.sh.o_148 P) :: (nat_lit 148, Mine.sh.o_150 P) :: (nat_lit 149, Mine.sh.o_151 P) :: (nat_lit 151, Mine.sh.o_153 P) :: (nat_lit 152, Mine.sh.o_154 P) :: (nat_lit 153, Mine.sh.o_155 P) :: (nat_lit 154, Mine.sh.o_156 P) :: (nat_lit 155, Mine.sh.o_157 P) :: (nat_lit 158, Mine.sh.o_163 P) :: (nat_lit 159, Mine.sh.o_164 P) :: (nat_lit 161, Mine.sh.o_166 P) :: (nat_lit 162, Mine.sh.o_167 P) :: (nat_lit 164, Mine.sh.o_169 P) :: (nat_lit 165, Mine.sh.o_170 P) :: (nat_lit 173, Mine.sh.o_178 P) :: (nat_lit 175, Mine.sh.o_180 P) :: (nat_lit 176, Mine.sh.o_181 P) :: (nat_lit 178, Mine.sh.o_183 P) :: (nat_lit 179, Mine.sh.o_184 P) :: (nat_lit 180, Mine.sh.o_185 P) :: (nat_lit 181, Mine.sh.o_186 P) :: (nat_lit 183, Mine.sh.o_188 P) :: (nat_lit 184, Mine.sh.o_189 P) :: (nat_lit 186, Mine.sh.o_191 P) :: (nat_lit 187, Mine.sh.o_192 P) :: (nat_lit 188, Mine.sh.o_193 P) :: (nat_lit 190, Mine.sh.o_195 P) :: (nat_lit 191, Mine.sh.o_196 P) :: (nat_lit 193, Mine.sh.o_198 P) :: (nat_lit 194, Mine.sh.o_199 P) :: (nat_lit 195, Mine.sh.o_200 P) :: (nat_lit 197, Mine.sh.o_202 P) :: (nat_lit 198, Mine.sh.o_203 P) :: (nat_lit 200, Mine.sh.o_205 P) :: (nat_lit 201, Mine.sh.o_206 P) :: (nat_lit 202, Mine.sh.o_207 P) :: (nat_lit 203, Mine.sh.o_208 P) :: (nat_lit 204, Mine.sh.o_209 P) :: (nat_lit 205, Mine.sh.o_210 P) :: (nat_lit 206, Mine.sh.o_211 P) :: (nat_lit 209, Mine.sh.o_217 P) :: (nat_lit 212, Mine.sh.o_220 P) :: (nat_lit 217, Mine.sh.o_225 P) :: (nat_lit 218, Mine.sh.o_226 P) :: (nat_lit 219, Mine.sh.o_227 P) :: (nat_lit 220, Mine.sh.o_228 P) :: (nat_lit 222, Mine.sh.o_230 P) :: (nat_lit 223, Mine.sh.o_231 P) :: (nat_lit 225, Mine.sh.o_233 P) :: (nat_lit 226, Mine.sh.o_234 P) :: (nat_lit 227, Mine.sh.o_235 P) :: (nat_lit 229, Mine.sh.o_237 P) :: (nat_lit 230, Mine.sh.o_238 P) :: (nat_lit 232, Mine.sh.o_240 P) :: (nat_lit 233, Mine.sh.o_241 P) :: (nat_lit 234, Mine.sh.o_242 P) :: (nat_lit 235, Mine.sh.o_243 P) :: (nat_lit 236, Mine.sh.o_244 P) :: (nat_lit 237, Mine.sh.o_245 P) :: (nat_lit 238, Mine.sh.o_246 P) :: (nat_lit 240, Mine.sh.o_248 P) :: (nat_lit 241, Mine.sh.o_249 P) :: (nat_lit 243, Mine.sh.o_251 P) :: (nat_lit 244, Mine.sh.o_252 P) :: (nat_lit 245, Mine.sh.o_253 P) :: (nat_lit 247, Mine.sh.o_255 P) :: (nat_lit 248, Mine.sh.o_256 P) :: (nat_lit 250, Mine.sh.o_258 P) :: (nat_lit 251, Mine.sh.o_259 P) :: (nat_lit 252, Mine.sh.o_260 P) :: (nat_lit 254, Mine.sh.o_262 P) :: (nat_lit 255, Mine.sh.o_263 P) :: (nat_lit 257, Mine.sh.o_265 P) :: (nat_lit 258, Mine.sh.o_266 P) :: (nat_lit 259, Mine.sh.o_267 P) :: (nat_lit 261, Mine.sh.o_269 P) :: (nat_lit 262, Mine.sh.o_270 P) :: (nat_lit 264, Mine.sh.o_272 P) :: (nat_lit 265, Mine.sh.o_273 P) :: (nat_lit 266, Mine.sh.o_274 P) :: (nat_lit 267, Mine.sh.o_275 P) :: (nat_lit 268, Mine.sh.o_276 P) :: (nat_lit 270, Mine.sh.o_278 P) :: (nat_lit 271, Mine.sh.o_279 P) :: (nat_lit 273, Mine.sh.o_281 P) :: (nat_lit 274, Mine.sh.o_282 P) :: (nat_lit 276, Mine.sh.o_284 P) :: (nat_lit 277, Mine.sh.o_285 P) :: (nat_lit 279, Mine.sh.o_287 P) :: (nat_lit 280, Mine.sh.o_288 P) :: (nat_lit 282, Mine.sh.o_290 P) :: (nat_lit 284, Mine.sh.o_292 P) :: (nat_lit 285, Mine.sh.o_293 P) :: (nat_lit 286, Mine.sh.o_294 P) :: (nat_lit 289, Mine.sh.o_372 P) :: (nat_lit 291, Mine.sh.o_374 P) :: (nat_lit 292, Mine.sh.o_375 P) :: (nat_lit 294, Mine.sh.o_377 P) :: (nat_lit 295, Mine.sh.o_378 P) :: (nat_lit 296, Mine.sh.o_379 P) :: (nat_lit 298, Mine.sh.o_381 P) :: (nat_lit 299, Mine.sh.o_382 P) :: (nat_lit 301, Mine.sh.o_384 P) :: (nat_lit 302, Mine.sh.o_385 P) :: (nat_lit 303, Mine.sh.o_386 P) :: (nat_lit 305, Mine.sh.o_388 P) :: (nat_lit 306, Mine.sh.o_389 P) :: (nat_lit 308, Mine.sh.o_391 P) :: (nat_lit 309, Mine.sh.o_392 P) :: (nat_lit 310, Mine.sh.o_393 P) :: (nat_lit 312, Mine.sh.o_395 P) :: (nat_lit 313, Mine.sh.o_396 P) :: (nat_lit 315, Mine.sh.o_398 P) :: (nat_lit 316, Mine.sh.o_399 P) :: (nat_lit 317, Mine.sh.o_400 P) :: (nat_lit 319, Mine.sh.o_402 P) :: (nat_lit 320, Mine.sh.o_403 P) :: (nat_lit 322, Mine.sh.o_405 P) :: (nat_lit 323, Mine.sh.o_406 P) :: (nat_lit 324, Mine.sh.o_407 P) :: (nat_lit 327, Mine.sh.o_410 P) :: (nat_lit 328, Mine.sh.o_411 P) :: []
def mask : List Bool := [false, false, true, true, false, false, false, false, false, false, false, false, false, false, false, true, false, true, true, false, true, true, true, false, true, true, false, true, true, true, false, true, true, false, true, true, true, true, false, false, false, false, false, false, true, false, true, true, false, true, true, true, false, true, true, false, true, true, true, false, true, true, false, true, true, true, false, true, true, false, true, true, true, false, true, true, false, true, true, true, false, true, true, false, true, true, true, false, true, true, false, true, true, true, true, true, true, true, false, false, true, false, true, true, false, true, true, true, true, false, true, true, false, true, true, true, true, false, true, true, false, true, true, true, false, false, false, false, false, false, true, true, true, false, true, true, false, true, true, true, false, true, true, false, true, true, true, false, true, true, false, true, true, true, true, true, false, false, true, true, false, true, true, false, true, true, false, false, false, false, false, false, false, true, false, true, true, false, true, true, true, true, false, true, true, false, true, true, true, false, true, true, false, true, true, true, false, true, true, false, true, true, true, true, true, true, true, false, false, true, false, false, true, false, false, false, false, true, true, true, true, false, true, true, false, true, true, true, false, true, true, false, true, true, true, true, true, true, true, false, true, true, false, true, true, true, false, true, true, false, true, true, true, false, true, true, false, true, true, true, false, true, true, false, true, true, true, true, true, false, true, true, false, true, true, false, true, true, false, true, true, false, true, false, true, true, true, false, false, true, false, true, true, false, true, true, true, false, true, true, false, true, true, true, true, true, true, false, true, true, true, false, true, true, false, true, true, true, true, true, true, false, true, true, true, false, false, true, true]
set_option maxRecDepth 100000 in
theorem k_alive (P : Params) : alive (K0 P) = true := by kernel_rfl
set_option maxRecDepth 100000 in
theorem k_part (P : Params) : K P = (K0 P).filter fun p => !([nat_lit 304, nat_lit 318] : List Addr).contains p.1 := by kernel_rfl
set_option maxRecDepth 100000 in
theorem k_tabs (P : Params) : (([nat_lit 304, nat_lit 318] : List Addr).all fun t => (K0 P).any fun p => Nat.beq p.1 t && isTab p.2) = true := by kernel_rfl
local macro_rules | `(tactic| k_head) => `(tactic| o_head (pkHook Mine.mask Mine.K0))
set_option maxRecDepth 100000 in
set_option maxHeartbeats 8000000 in
open_top hd for PySem.Challenge.rw_aj5026_01
end Mine

end
section
open PySem PySem.Spec PySem.Calls PySem.W PyProof.Rows Builtin Builtin.ObjectAttr
set_option Elab.async false
namespace Mine
set_option maxRecDepth 100000
set_option maxHeartbeats 4000000

/-- a class of the text's with a __new__ of its own (a plain def) over a built-in base, without an __init__ of its own -/
def newsIn (K : Frag) (C f : Addr) : Bool := match K.lookup C with
  | some ⟨_, _, .cls cd, sl⟩ => !cd.abstract && !cd.hasDel && (sl.toList[4]?).join == some .none && !cd.mro.isEmpty && cd.mro.contains (.ref C) && cd.mro.contains (.type "object") &&
      specialIn K (.ref C) "__call__" == some (some (.builtin "type.__call__")) && instIn K (.ref C) (.type "type") == some true &&
      findIn K (.ref C) "__init__" == some (some (.builtin "object.__init__")) && typeIn K (.ref f) == some (.type "function")
  | _ => false

def NewBack (K : Frag) (C : Addr) (R : Result → Shared → Prop) (r : Result) (s' : Shared) : Prop := match r with
  | .ok (.ret v) => ∃ x ox, v = .ref x ∧ s'.heap.get? x = some ox ∧ ox.cls = .ref C ∧ K.In s'.heap ∧ R (.ok (.ret (.ref x))) s'
  | .ok _ => False
  | .error e => R (.error e) s'

section
variable {prog : Program} {w : World} {A : Around} {K : Frag} {C f : Addr} {R : Result → Shared → Prop} {s : Shared}
theorem newsIn_made {M : Model} {h : Heap} (X : K.In h) (hm : newsIn K C f = true) : Looks M h (Bind.madeBy (.ref C)) none := by
  unfold newsIn at hm
  split at hm
  · rename_i oc od cd sl ho
    simp only [Bool.and_eq_true, Bool.not_eq_true', beq_iff_eq] at hm
    obtain ⟨⟨⟨⟨⟨⟨⟨⟨⟨e1, e2⟩, e3⟩, e4⟩, e5⟩, e6⟩, e7⟩, e8⟩, e9⟩, e10⟩ := hm
    have hc : clsIn K C = some cd := by unfold clsIn; rw [ho]
    have hmro : Looks M h (mroOf (.ref C)) cd.mro := (looks_clsIn X hc).andThen .now
    obtain ⟨c, l, hl⟩ : ∃ c l, cd.mro = c :: l := by cases q : cd.mro with | nil => rw [q] at e4; cases e4 | cons c l => exact ⟨c, l, rfl⟩
    intro A Q E s k q
    unfold Bind.madeBy
    refine wpAny_bind (hmro A _ E s k ?_)
    rw [hl, List.forIn_cons]
    refine wpAny_bind (wpAny_bind (wpAny_bind (wpAny_bind (wpAny_loadPart (k _ _ (X _ _ ho)) (wpAny_pure ?_)))))
    dsimp only
    rw [← Array.getElem?_toList, e3]
    exact wpAny_pure (wpAny_pure (wpAny_pure q))
  · cases hm
theorem newsIn_facts {h : Heap} (X : K.In h) (hm : newsIn K C f = true) : (∃ oc od cd sl, h.get? C = some ⟨oc, od, .cls cd, sl⟩ ∧ cd.mro.isEmpty = false ∧ ∀ M, Looks M h (mroOf (.ref C)) cd.mro) ∧
    (∀ M, Looks M h (isSubtype (.ref C) (.ref C)) true) ∧ (∀ M, Looks M h (isSubtype (.ref C) (.type "object")) true) ∧ (∀ M, Looks M h (specialOf (.ref C) "__call__") (some (.builtin "type.__call__"))) ∧
    (∀ M, Looks M h (isInstance (.ref C) (.type "type")) true) ∧ (∀ M, Looks M h (typeLookup (.ref C) "__init__") (some (.builtin "object.__init__"))) := by
  unfold newsIn at hm
  split at hm
  · rename_i oc od cd sl ho
    simp only [Bool.and_eq_true, Bool.not_eq_true', beq_iff_eq] at hm
    obtain ⟨⟨⟨⟨⟨⟨⟨⟨⟨e1, e2⟩, e3⟩, e4⟩, e5⟩, e6⟩, e7⟩, e8⟩, e9⟩, e10⟩ := hm
    have hc : clsIn K C = some cd := by unfold clsIn; rw [ho]
    refine ⟨⟨oc, od, cd, sl, X _ _ ho, e4, fun M => (looks_clsIn X hc).andThen .now⟩, fun M => looks_mroIn X ?_, fun M => looks_mroIn X ?_, fun M => looks_specialIn X e7, fun M => looks_instIn X e8, fun M => looks_findIn X e9⟩
    · unfold mroIn; rw [hc, Option.bind_some, if_neg (by rw [e4]; decide), e5]
    · unfold mroIn; rw [hc, Option.bind_some, if_neg (by rw [e4]; decide), e6]
  · cases hm

theorem oi_argsN (a : Value) (rest : List Value) : argsOk "object.__init__" ⟨a :: rest, []⟩ := by unfold argsOk; kernel_rfl
theorem oi_more {x : Addr} {ox : Obj} {a : Value} {r : List Value} {Q : Fin → Shared → Prop} {E : Value → Shared → Prop} {A : Around} {h : Heap} {g : Array GenState} {d : Drawn} {t : Nat} {os : OsState} (X : K.In h) (hm : newsIn K C f = true) (hx : h.get? x = some ox) (hc : ox.cls = .ref C)
    (q : Q (.done (.ret .none)) ⟨h, g, d, t, os⟩) : wpAny (model prog w) A (Builtin.«object.__init__» ⟨.ref x :: a :: r, []⟩) Q E ⟨h, g, d, t, os⟩ := by
  obtain ⟨-, L1, L2, L3, L4, L5⟩ := newsIn_facts X hm
  have M1 := newsIn_made (M := model prog w) X hm
  have l5 := L5 (model prog w)
  have t1 : Looks (model prog w) h (typeOf (.ref x)) (.ref C) := by rw [← hc]; exact (Looks.ld hx).andThen .now
  unfold Builtin.«object.__init__»
  simp only [List.isEmpty_cons, Bool.not_false, Bool.true_or, if_true]
  repeat (first | simp only [bne_self_eq_false, Bool.false_eq_true, if_false, Bool.false_or] | lk)
  exact q

theorem make_new {mc : Value} {p : Addr} {more : List Value} {a : Value} {args : List Value} {h₀ : Heap} {L : Addr} {m : Str → Option Value} (F : Fr h₀ L s.heap m) (X₀ : K.In h₀) (hm : newsIn K C f = true) (h0 : typeIn K (.ref C) = some mc) (hr : readsIn K C mc = true)
    (e : findCls K (.ref C) mc "__new__" = some (.get (.builtin "staticmethod.__get__") (.ref p) .none (.ref C))) (hp : recIn K p "staticmethod" = some (.ref f :: more)) (hv : handedIn (.ref f) = true)
    (hq : codeAny (model prog w) (A.under (.builtin "type.__call__" ⟨.ref C :: a :: args, []⟩)) (.call (.ref f) ⟨.ref C :: a :: args, []⟩) (NewBack K C R) { s with toks := s.toks + 1 }) :
    codeAny (model prog w) A (.call (.ref C) ⟨a :: args, []⟩) R s := by
  have X : K.In s.heap := X₀.keeps F.keep
  obtain ⟨⟨oc, od, cd, sl, hC, e4, hmro⟩, L1, L2, L3, L4, L5⟩ := newsIn_facts X hm
  have M1 := newsIn_made (M := model prog w) X hm
  have l3 := L3 (model prog w)
  have l4 := L4 (model prog w)
  have hmro' := hmro (model prog w)
  have gn : ∀ {A : Around} {Q : Value → Shared → Prop} {E : Value → Shared → Prop}, Q (.ref f) { s with toks := s.toks + 1 } → wpAny (model prog w) A (getAttr (.ref C) "__new__") Q E s := fun h => cls_sm F X₀ h0 hr e hp hv h
  obtain ⟨hh, g, d, t, os⟩ := s
  refine codeAny_of_tree ?_
  show wpAny _ _ (callAny (.ref C) _) _ _ _
  refine nd_load hC ?_
  show wpAny _ _ (callAny.viaDunder (.ref C) _) _ _ _
  unfold callAny.viaDunder
  refine wpAny_bind (l3.at ?_)
  dsimp only
  rw [tc_bind]
  refine wpAny_bind (wpAny_pure (wpAny_bind (wpAny_pure ?_)))
  refine wpAny_pure (a := Fin.again (.call (.builtin "type.__call__") ⟨.ref C :: a :: args, []⟩)) (And.intro rfl ?_)
  refine codeAny_call_builtin_at (Code.quiet_builtin _ (by decide +kernel)) entry_typeCall (check_slot tc_kind tc_split l4 (tc_args _ _ _) ?_)
  unfold Builtin.«type.__call__»
  repeat (first | simp only [e4, Bool.false_eq_true, if_false] | with_reducible refine gn ?_ | with_reducible refine wpAny_call ?_ | lk)
  refine codeAny_mono hq fun r s' z => ?_
  rcases r with e | (v | _ | _ | _) <;> first | exact z | exact z.elim | skip
  obtain ⟨x, ox, rfl, hx, hc, X', z⟩ := z
  obtain ⟨-, L1', L2', L3', L4', L5'⟩ := newsIn_facts X' hm
  have s1 := L1' (model prog w)
  have s2 := L2' (model prog w)
  have i1 := L5' (model prog w)
  obtain ⟨hh', g', d', t', os'⟩ := s'
  have t1 : Looks (model prog w) hh' (typeOf (.ref x)) (.ref C) := by rw [← hc]; exact (Looks.ld hx).andThen .now
  have b1 : Looks (model prog w) hh' (bindSpecial (.builtin "object.__init__") (.ref x)) (.builtin "object.__init__", [.ref x]) := Looks.of_pure (oi_bind _)
  have t2 : Looks (model prog w) hh' (isInstance (.ref x) (.type "object")) true := t1.andThen s2
  unfold isInstance callSpecial? specialOf
  repeat (first | simp only [Bool.false_eq_true, if_false, Bool.not_true] | with_reducible refine wpAny_call ?_ | lk)
  refine codeAny_call_builtin oi_plain entry_oi (@check_slot (model prog w) _ _ _ "object.__init__" "object" "__init__" (.ref x) (a :: args) [] _ oi_kind oi_split t2 (oi_argsN (.ref x) (a :: args)) ?_)
  refine oi_more X' hm hx hc ?_
  repeat (first | simp only [bne_self_eq_false, Bool.false_eq_true, if_false] | lk)
  exact z
end
end Mine

end
section
open PySem PySem.Spec PySem.Calls PySem.W PyProof.Rows Builtin Builtin.ObjectAttr
set_option Elab.async false
namespace Mine
set_option maxRecDepth 100000
set_option maxHeartbeats 4000000
theorem tup_mro : mroOf (.type "tuple") = pure [.type "tuple", .type "object"] := by rw [mroOf_type]; kernel_rfl
theorem tup_lookup : typeLookup (.type "tuple") "__new__" = pure (some (.builtin "tuple.__new__")) := by rw [typeLookup_type, builtinLookup_eq_fast]; kernel_rfl
theorem tup_made : Bind.madeBy (.type "tuple") = pure (some "tuple.__new__") := madeBy_type tup_mro tup_lookup (by decide +kernel)
theorem tup_base : Slots.bestBase [.type "tuple"] = pure (.type "tuple") := by kernel_rfl
theorem tup_split : splitId "tuple.__new__" = some ("tuple", "__new__") := by decide +kernel
theorem tup_kind : builtinKind "tuple.__new__" = some .builtinFn := by decide +kernel
theorem tup_entry : entryFor table "tuple.__new__" = some Builtin.«tuple.__new__» := entryFor_of_tree (by kernel_rfl)
theorem tup_args (a b : Value) : argsOk "tuple.__new__" ⟨[a, b], []⟩ := by unfold argsOk; kernel_rfl
theorem tup_quiet {as : Args} : (Code.builtin "tuple.__new__" as).quiet = true := Code.quiet_builtin _ (by decide +kernel)
/-- a class over tuple, nothing between -/
def tupIn (K : Frag) (C : Addr) : Bool := match K.lookup C with
  | some ⟨_, _, .cls cd, sl⟩ => !cd.hasDel && (sl.toList[4]?).join == some .none && cd.mro == [.ref C, .type "tuple", .type "object"] && cd.bases == [.type "tuple"] &&
      findIn K (.ref C) "__init__" == some (some (.builtin "object.__init__"))
  | _ => false
section
variable {prog : Program} {w : World} {A : Around} {K : Frag} {C : Addr} {R : Result → Shared → Prop} {s : Shared}
theorem tupIn_facts {M : Model} {h : Heap} (X : K.In h) (hm : tupIn K C = true) : (∃ oc od cd sl, h.get? C = some ⟨oc, od, .cls cd, sl⟩ ∧ cd.hasDel = false) ∧ Looks M h (isType (.ref C)) true ∧ Looks M h (isSubtype (.ref C) (.type "tuple")) true ∧
    Looks M h (Bind.staticBase (.ref C)) (.type "tuple") ∧ Looks M h (typeLookup (.ref C) "__init__") (some (.builtin "object.__init__")) := by
  unfold tupIn at hm
  split at hm
  · rename_i oc od cd sl ho
    simp only [Bool.and_eq_true, Bool.not_eq_true', beq_iff_eq] at hm
    obtain ⟨⟨⟨⟨e2, e3⟩, e4⟩, e5⟩, e9⟩ := hm
    have hc : clsIn K C = some cd := by unfold clsIn; rw [ho]
    have hmro : Looks M h (mroOf (.ref C)) cd.mro := (looks_clsIn X hc).andThen .now
    have hcd : Looks M h (classData C) cd := looks_clsIn X hc
    have made : Looks M h (Bind.madeBy (.ref C)) none := by
      intro A Q E s k q
      unfold Bind.madeBy
      refine wpAny_bind (hmro A _ E s k ?_)
      rw [e4, List.forIn_cons]
      refine wpAny_bind (wpAny_bind (wpAny_bind (wpAny_bind (wpAny_loadPart (k _ _ (X _ _ ho)) (wpAny_pure ?_)))))
      dsimp only
      rw [← Array.getElem?_toList, e3]
      exact wpAny_pure (wpAny_pure (wpAny_pure q))
    refine ⟨⟨oc, od, cd, sl, X _ _ ho, e2⟩, ?_, looks_mroIn X ?_, ?_, looks_findIn X e9⟩
    · intro A Q E s k q
      unfold isType loadHead
      exact wpAny_bind (wpAny_loadPart (k _ _ (X _ _ ho)) (wpAny_pure q))
    · unfold mroIn; rw [hc, Option.bind_some, e4]; rfl
    · intro A Q E s k q
      unfold Bind.staticBase
      refine wpAny_bind (hmro A _ E s k ?_)
      rw [e4, List.forIn_cons]
      refine wpAny_bind (wpAny_bind (wpAny_bind (made A _ E s k ?_)))
      have hcd' : Looks M h (classData C) cd := hcd
      simp only [Option.isSome_none, Bool.false_eq_true, if_false]
      refine wpAny_bind (hcd A _ E s k ?_)
      rw [e5, tup_base]
      refine wpAny_pure ?_
      dsimp only
      rw [List.forIn_cons, tup_made]
      refine wpAny_bind (wpAny_bind (wpAny_pure ?_))
      simp only [Option.isSome_some, if_true]
      refine wpAny_pure (wpAny_pure ?_)
      exact wpAny_pure q
  · cases hm

theorem tuple_new {tup : Addr} {vs : Array Value} {n : Nat} {oc : Obj} {Q : Value → Shared → Prop} {E : Value → Shared → Prop} {h₀ : Heap} {L : Addr} {m : Str → Option Value} {news : List (Addr × Obj)} (F : Fr h₀ L s.heap m) (N : News h₀ L s.heap news) (X₀ : K.In h₀) (hm : tupIn K C = true)
    (ht : s.heap.get? tup = some oc) (hc : oc.cls = .type "tuple") (hd : oc.data = .seq vs n) (hsz : vs.size ≤ 1000)
    (h : ∀ x dx h', Fr h₀ L h' m → News h₀ L h' ((x, { cls := .ref C, dict := some dx, data := .seq vs }) :: (dx, emptyDict) :: news) → (∀ p ∈ news, p.1 < dx) → @LT.lt Nat _ dx x → Q (.ref x) { s with heap := h' }) :
    wpAny (model prog w) A (call (.builtin "tuple.__new__") [.ref C, .ref tup]) Q E s := by
  have X : K.In s.heap := X₀.keeps F.keep
  obtain ⟨⟨od, odd, cd, sl, hC, hdel⟩, Y1, Y2, Y3, Y4⟩ := tupIn_facts (M := model prog w) X hm
  obtain ⟨hh, g, d, t, os⟩ := s
  dsimp only at ht X hC Y1 Y2 Y3 Y4 F N h
  have M2 : Looks (model prog w) hh (Bind.madeBy (.type "tuple")) (some "tuple.__new__") := Looks.of_pure tup_made
  have Y5 : Looks (model prog w) hh (Bind.madeHere "tuple.__new__" (.ref C)) () := Y3.andThen (M2.andThen (Looks.of_pure (by simp only [Option.map_some, bne_self_eq_false, Bool.false_eq_true, if_false])))
  refine wpAny_call (codeAny_call_builtin_code tup_quiet ?_)
  simp only [checkBuiltinCall, tup_kind, tup_split]
  have ha : (match Manifest.signature? "tuple.__new__" with
    | some sig => Bind.checkArgs "tuple.__new__" sig ⟨[.ref C, .ref tup], []⟩
    | none => pure ()) = (pure () : Sem Unit) := tup_args _ _
  repeat (first | simp only [bne_self_eq_false, Bool.false_eq_true, if_false] | lk)
  refine codeAny_builtin tup_entry ?_
  unfold Builtin.«tuple.__new__»
  have coll : ∀ {A : Around} {Q : List Value → Shared → Prop} {E : Value → Shared → Prop}, (∀ h', (∀ b o', hh.get? b = some o' → h'.get? b = some o') → Q vs.toList ⟨h', g, d, t, os⟩) → wpAny (model prog w) A (collect (.ref tup)) Q E ⟨hh, g, d, t, os⟩ :=
    fun k => wpAny_collect_seq tup (.inr rfl) ht hc hd k (by rw [sizeLine_eq]; omega)
  repeat (first | simp only [bne_self_eq_false, beq_self_eq_true, Bool.not_true, Bool.false_eq_true, if_false, if_true] | with_reducible refine coll ?_ | lk)
  intro h1 k1
  have hC1 := k1 _ _ hC
  repeat lk
  rw [if_neg (by rw [sizeLine_eq]; simp only [Array.toArray_toList]; omega)]
  simp only [Array.toArray_toList]
  unfold newObjAsIs classHasDel
  refine wpAny_bind (wpAny_alloc (wpAny_bind (wpAny_bind (wpAny_load (Heap.get?_push_of_some _ (Heap.get?_push_of_some _ hC1)) (wpAny_pure ?_)))))
  dsimp only
  rw [hdel]
  refine wpAny_pure (wpAny_pure ?_)
  have F1 := F.grownK k1
  have N1 := N.grown k1
  have F2 := F1.push emptyDict
  have N2 := N1.push F1 emptyDict
  have F3 := F2.push { cls := .ref C, dict := some h1.objs.size, data := .seq vs }
  have N3 := N2.push F2 { cls := .ref C, dict := some h1.objs.size, data := .seq vs }
  exact h _ h1.objs.size _ F3 N3 (fun p hp => Heap.lt_size (N1 p hp).1) (by rw [Heap.size_push]; exact Nat.lt_succ_self _)
end
end Mine

end
section
open PySem PySem.Spec PySem.Calls PySem.W PyProof.Rows Builtin Builtin.ObjectAttr
set_option Elab.async false
namespace Mine
set_option maxRecDepth 100000
set_option maxHeartbeats 4000000
theorem tg_entry : entryFor table "tuple.__getattribute__" = some Builtin.«object.__getattribute__» := am_entry_tuple_getattribute
theorem tg_kind : builtinKind "tuple.__getattribute__" = some .slot := by decide +kernel
theorem tg_split : splitId "tuple.__getattribute__" = some ("tuple", "__getattribute__") := by decide +kernel
theorem tg_plain : plainId "tuple.__getattribute__" = true := by decide +kernel
theorem tg_args (a b : Value) : argsOk "tuple.__getattribute__" ⟨[a, b], []⟩ := by unfold argsOk; kernel_rfl
theorem tg_slot : Slot "tuple" "__getattribute__" "tuple.__getattribute__" := .of (owner := "tuple") (n := "__getattribute__") (by rw [typeLookup_type, builtinLookup_eq_fast]; kernel_rfl) (by decide +kernel) (by decide +kernel) (by decide +kernel)
  (by first | exact .inl (by decide +kernel) | exact .inr (by decide +kernel)) (by rw [isSubtype_type]; kernel_rfl)
theorem tg_canon : (Manifest.canonical "tuple.__getattribute__" != "object.__getattribute__") = false := by decide +kernel
section
variable {prog : Program} {w : World} {A : Around} {K : Frag} {C x : Addr} {s : Shared} {ox : Obj} {od : Option Obj} {name : Str} {Q : Value → Shared → Prop} {E : Value → Shared → Prop} {expr : Bool}
theorem get_tup {g a : Value} (X : K.In s.heap) (I : InstAt s.heap x ox C od) (hga : findIn K (.ref C) "__getattribute__" = some (some (.builtin "tuple.__getattribute__")))
    (hs : subIn K (.ref C) (.type "tuple") = some true) (hf : findObj K C od name = some (.bind g a)) (hk : findIn K (.ref C) "__getattr__" = some none)
    (h : ∀ A' : Around, A'.frames = A.frames → A'.depth = A.depth → A'.units ≤ A.units + 3 → A'.handled = A.handled → wpAny (model prog w) A' (call g [a, .ref x, .ref C]) (fun v s' => handedIn v = true ∧ Q v s') (fun _ _ => False) { s with toks := s.toks + 1 }) :
    wpAny (model prog w) A (getAttr (.ref x) name expr) Q E s := by
  obtain ⟨hh, gg, d, t, os⟩ := s
  dsimp only at X I
  have L0 := I.type (M := model prog w)
  have L1 := looks_findIn (M := model prog w) X hga
  have L2 := looks_findIn (M := model prog w) X hk
  have L3 := looks_subIn (M := model prog w) X hs
  have L4 := looks_find (M := model prog w) X I hf
  have L5 : Looks (model prog w) hh (isInstance (.ref x) (.type "tuple")) true := L0.andThen L3
  have L6 : Looks (model prog w) hh (hookBefore (.ref C)) none := L2
  have b1 : Looks (model prog w) hh (bindSpecial (.builtin "tuple.__getattribute__") (.ref x)) (.builtin "tuple.__getattribute__", [.ref x]) := Looks.of_pure (tg_slot.bind _)
  unfold getAttr getAttrBy
  refine wpAny_bind (wpAny_mkText (wpAny_holding (wpAny_bind (L0.at (wpAny_bind (L1.at ?_))))))
  show wpAny _ _ (getAttrByItsOwn _ _ _ _ _ _) _ _ _
  unfold getAttrByItsOwn
  refine wpAny_bind (L6.at ?_)
  refine wpAny_bind (wpAny_attempt (wpAny_holding ?_))
  unfold callGetattribute
  rw [show (expr && onTheHeap (.builtin "tuple.__getattribute__")) = false from by cases expr <;> rfl]
  unfold boundAndCalled
  refine wpAny_bind (b1.at ?_)
  refine wpAny_call (codeAny_call_builtin tg_plain tg_entry (@check_slot (model prog w) _ _ _ "tuple.__getattribute__" "tuple" "__getattribute__" (.ref x) [.str name t] [] _ tg_kind tg_split L5 (tg_args (.ref x) (.str name t)) ?_))
  unfold Builtin.«object.__getattribute__»
  refine wpAny_bind (wpAny_pure (wpAny_bind (wpAny_pure (wpAny_bind (L0.at (wpAny_bind (L4.at ?_)))))))
  show wpAny _ _ (holding [a] (call g [a, .ref x, .ref C]) >>= ret) _ _ _
  refine wpAny_bind (wpAny_holding ?_)
  refine wpAny_mono (h A.in1 rfl rfl (by rw [units_in1]; omega) rfl) (fun v s' z => ?_) fun _ _ z => z.elim
  refine wpAny_pure ?_
  show wpAny _ _ (handedOut v) _ _ _
  rw [handedOut_of z.1]
  exact wpAny_pure z.2
theorem method_tup {g a ta : Value} {Q : Value × List Value → Shared → Prop} {pl : Sem Bool} (X : K.In s.heap) (I : InstAt s.heap x ox C od) (hga : findIn K (.ref C) "__getattribute__" = some (some (.builtin "tuple.__getattribute__")))
    (hs : subIn K (.ref C) (.type "tuple") = some true) (hf : findObj K C od name = some (.bind g a)) (hk : findIn K (.ref C) "__getattr__" = some none) (ha : findIn K (.ref C) name = some (some a)) (hta : typeIn K a = some ta)
    (hne : (ta != .type "function" && ta != .type "method_descriptor" && ta != .type "wrapper_descriptor") = true)
    (h : ∀ A' : Around, A'.frames = A.frames → A'.depth = A.depth → A'.units ≤ A.units + 3 → A'.handled = A.handled → wpAny (model prog w) A' (call g [a, .ref x, .ref C]) (fun v s' => handedIn v = true ∧ Q (v, []) s') (fun _ _ => False) { s with toks := s.toks + 1 }) :
    wpAny (model prog w) A (getMethod (.ref x) name pl) Q E s := by
  have L0 := I.type (M := model prog w)
  have L1 := looks_findIn (M := model prog w) X hga
  have L2 := looks_findIn (M := model prog w) X hk
  have L3 := looks_findIn (M := model prog w) X ha
  have L4 := looks_typeIn (M := model prog w) X hta
  unfold getMethod specialOf
  refine wpAny_bind (wpAny_bind (L0.here (L1.here ?_)))
  dsimp only
  rw [if_neg (by rw [tg_canon]; exact Bool.false_ne_true)]
  refine wpAny_bind (wpAny_bind (L0.here (L2.here ?_)))
  rw [if_neg (by exact Bool.false_ne_true)]
  refine wpAny_bind (wpAny_bind (L0.here (L3.here ?_)))
  dsimp only
  refine wpAny_bind (L4.here ?_)
  rw [if_pos hne]
  refine wpAny_bind (get_tup X I hga hs hf hk fun A' f1 f2 f3 f4 => ?_)
  exact wpAny_mono (h A' f1 f2 f3 f4) (fun v s' z => ⟨z.1, wpAny_pure z.2⟩) fun _ _ z => z
end
end Mine

end
section
open PySem PySem.Spec PySem.Calls PySem.W PyProof.Rows Builtin Builtin.ObjectAttr
set_option Elab.async false
namespace Mine
set_option maxRecDepth 100000
set_option maxHeartbeats 4000000
theorem is_entry : entryFor table "issubclass" = some Builtin.«issubclass» := entryFor_of_tree (by kernel_rfl)
theorem isn_entry : entryFor table "issubclass.nested" = some Builtin.«issubclass.nested» := entryFor_of_tree (by kernel_rfl)
theorem is_plain : plainId "issubclass" = true := by decide +kernel
theorem is_nquiet {as : Args} : (Code.builtin "issubclass.nested" as).quiet = true := Code.quiet_builtin _ (by decide +kernel)
theorem is_check (a b : Value) : checkBuiltinCall "issubclass" ⟨[a, b], []⟩ = pure () := by kernel_rfl
section
variable {prog : Program} {w : World} {A : Around} {K : Frag} {C x : Addr} {s : Shared} {Q : Value → Shared → Prop} {E : Value → Shared → Prop}
theorem issub_tuple (X : K.In s.heap) (hm : tupIn K C = true) (h : Q (.bool true) s) : wpAny (model prog w) A (call (.builtin "issubclass") [.ref C, .type "tuple"]) Q E s := by
  obtain ⟨⟨oc, od, cd, sl, hC, -⟩, Y1, Y2, -, -⟩ := tupIn_facts (M := model prog w) X hm
  obtain ⟨hh, g, d, t, os⟩ := s
  dsimp only at hC Y1 Y2
  have T1 : Looks (model prog w) hh (typeOf (.type "tuple")) (.type "type") := Looks.of_pure (by first | rfl | kernel_rfl)
  have T2 : Looks (model prog w) hh (isType (.type "tuple")) true := Looks.of_pure (by first | rfl | kernel_rfl | (unfold isType; rw [isSubtype_type]; kernel_rfl))
  refine wpAny_call (codeAny_of_tree ?_)
  show wpAny _ A.in1 (do checkBuiltinCall "issubclass" ⟨[.ref C, .type "tuple"], []⟩; again (.builtin "issubclass" ⟨[.ref C, .type "tuple"], []⟩)) _ _ _
  refine wpAny_bind (wpAny_of_eq (is_check _ _) (wpAny_pure ⟨plainId_quiet is_plain _, codeAny_builtin is_entry ?_⟩))
  unfold Builtin.«issubclass»
  refine wpAny_bind (wpAny_pure ?_)
  refine wpAny_pure (a := Fin.again (.builtin "issubclass.nested" ⟨[.ref C, .type "tuple", rawInt 0], []⟩)) ⟨is_nquiet, codeAny_builtin isn_entry ?_⟩
  unfold Builtin.«issubclass.nested»
  refine wpAny_bind (T1.at ?_)
  rw [if_pos (by decide)]
  k_delta "plainIsSubclass"
  repeat (first | simp only [Bool.and_self, if_true] | lk)
  exact h
theorem tgi_slot : Slot "tuple" "__getitem__" "tuple.__getitem__" := F.slot_tuple_getitem
theorem tgi_kind : builtinKind "tuple.__getitem__" = some .slot := by decide +kernel
theorem tgi_split : splitId "tuple.__getitem__" = some ("tuple", "__getitem__") := by decide +kernel
theorem tgi_run {l : Addr} {items : Array Value} {n : Nat} {c : Value} {dc : Option Addr} {sl : Array (Option Value)} {i : Int} {u : Tok} {k : Nat} {y : Value} (hlo : -2 ^ 63 ≤ i) (hhi : i < 2 ^ 63) (hk : seqIndex? i items.size = some k) (hy : items[k]? = some y) :
    Meets (Builtin.«tuple.__getitem__» ⟨[.ref l, .int i u], []⟩)
      (fun _ R s => s.heap.get? l = some { cls := c, dict := dc, data := .seq items n, slots := sl } ∧ R (.ok (.ret y)) s) :=
  .of_wp fun prog w A R s h => by
    obtain ⟨hp, g, d, tk, os⟩ := s; obtain ⟨hl, h⟩ := h
    have f1 := AutoSeq1.idx_int
    have hf : ¬ (decide (i < -2 ^ 63) || decide (i ≥ 2 ^ 63)) = true := by simp; omega
    wp_walk using AutoSeq1.wpAny_loadPart' hl
    simp only [hk, hy, Option.bind_some]
    refine wpAny_ite_false (by simp; omega) ?_
    wp_walk
    exact ⟨_, rfl, h⟩
theorem tgi_call {items : Array Value} {n : Nat} {c : Value} {dc : Option Addr} {sl : Array (Option Value)} {i : Int} {u : Tok} {k : Nat} {y : Value} (X : K.In s.heap) (hs : subIn K (.ref C) (.type "tuple") = some true)
    (hx : s.heap.get? x = some { cls := .ref C, dict := dc, data := .seq items n, slots := sl }) (hlo : -2 ^ 63 ≤ i) (hhi : i < 2 ^ 63) (hk : seqIndex? i items.size = some k) (hy : items[k]? = some y) (h : Q y s) :
    wpAny (model prog w) A (call (.builtin "tuple.__getitem__") [.ref x, .int i u]) Q E s := by
  have L0 : Looks (model prog w) s.heap (typeOf (.ref x)) (.ref C) := (Looks.ld hx).andThen .now
  have L1 : Looks (model prog w) s.heap (isInstance (.ref x) (.type "tuple")) true := L0.andThen (looks_subIn X hs)
  refine wpAny_call (codeAny_call_builtin tgi_slot.plain F.entry_tuple_getitem (@check_slot (model prog w) _ _ _ "tuple.__getitem__" "tuple" "__getitem__" (.ref x) [.int i u] [] _ tgi_kind tgi_split L1 (F.args_tuple_getitem_2 _ _) ?_))
  exact tgi_run hlo hhi hk hy _ _ _ (fun r s' => match r with | .ok (.ret v) => Q v s' | .ok _ => False | .error e => E e s') _ ⟨hx, h⟩
theorem inst_seq {h₀ h : Heap} {L x C dx : Addr} {news : List (Addr × Obj)} {od : Obj} {vs : Array Value} {n : Nat} {sl : Array (Option Value)} (N : News h₀ L h news) (h1 : (x, (⟨.ref C, some dx, .seq vs n, sl⟩ : Obj)) ∈ news) (h2 : (dx, od) ∈ news) :
    InstAt h x ⟨.ref C, some dx, .seq vs n, sl⟩ C (some od) := ⟨(N _ h1).1, rfl, rfl, (N _ h2).1⟩
end
end Mine

end
section
open PySem PySem.Spec PySem.Calls PySem.W PyProof.Rows
set_option Elab.async false
namespace Mine
set_option maxRecDepth 100000

structure InCallD (s₀ : Shared) (L : Addr) (m : Str → Option Value) (own : List (Str × Addr)) (s : Shared) : Prop where
  toInCall : InCall s₀ L m s
  cell : ∀ n c, (n, c) ∈ own → s.heap.IsCell c none
  above : ∀ n c, (n, c) ∈ own → L < c

def bindM : List (Str × Value) → (Str → Option Value) → Str → Option Value
  | [], m => m
  | (n, v) :: r, m => bindM r (fun y => if y = n then some v else m y)

section
variable {M : Model} {A : Around} {E : Value → Shared → Prop} {s₀ s : Shared} {m : Str → Option Value} {env : Env}
theorem stD {own : List (Str × Addr)} {n : Str} {v : Value} {Q : Unit → Shared → Prop} (x : InCallD s₀ env.locals m own s) (hk : env.scope.kind = .function) (hl : env.kindOf n = some .local)
    (h : ∀ s', InCallD s₀ env.locals (fun y => if y = n then some v else m y) own s' → Q () s') : wpAny M A (storeName env n v) Q E s := by
  refine wpAny_storeName_local hl x.toInCall.ns (fun h' hn' hs' => h _ ⟨⟨?_, hn', fun b o e => ?_, x.toInCall.fresh⟩, fun k c hc => ?_, x.above⟩) (by rw [hk]; rfl)
  · obtain ⟨h₁, tk, rfl⟩ := x.toInCall.same
    exact ⟨h', _, rfl⟩
  · exact hs'.extBut b o (Nat.ne_of_lt (Nat.lt_of_lt_of_le (Heap.lt_size e) x.toInCall.fresh)) (x.toInCall.keep b o e)
  · exact (x.cell k c hc).sameBut hs' (Nat.ne_of_gt (x.above k c hc))
theorem bindParamsD {own : List (Str × Addr)} (f : Str × Value → PUnit → Sem (ForInStep PUnit)) (hf : ∀ n v u, f (n, v) u = (do storeName env n v; pure (.yield ⟨⟩))) (hk : env.scope.kind = .function) :
    ∀ (binds : List (Str × Value)) (m : Str → Option Value) (s : Shared) (Q : PUnit → Shared → Prop), InCallD s₀ env.locals m own s →
      (∀ x ∈ binds, env.kindOf x.1 = some .local) → (∀ s', InCallD s₀ env.locals (bindM binds m) own s' → Q ⟨⟩ s') → wpAny M A (forIn binds ⟨⟩ f) Q E s
  | [], m, s, Q, x, _, h => by rw [List.forIn_nil]; exact wpAny_pure (h s x)
  | (n, v) :: r, m, s, Q, x, hkind, h => by
    rw [List.forIn_cons, hf]
    exact wpAny_bind (wpAny_bind (stD x hk (hkind (n, v) List.mem_cons_self) fun s' x' => wpAny_pure (bindParamsD f hf hk r _ s' Q x' (fun y hy => hkind y (List.mem_cons_of_mem _ hy)) fun s'' x'' => h s'' x'')))
theorem newEnvD {scope : Scope} {globals : Addr} {cl : List (Str × Addr)} {binds : List (Str × Value)} {qual : Str} {func : Option Addr} {code : Value} {builtins : Addr} {Q : Env → Shared → Prop}
    (hk : scope.kind = .function) (hloc : ∀ x ∈ binds, scope.names.lookup x.1 = some .local)
    (hQ : ∀ s', InCallD s s.heap.objs.size (bindM binds fun _ => none) (cellsFrom (s.heap.objs.size + 1) scope.names []) s' →
      Q (newEnv scope s.heap.objs.size globals (cellsFrom (s.heap.objs.size + 1) scope.names cl) qual func code none builtins) s') :
    wpAny M A (newFunctionEnv scope globals cl binds qual func code none builtins) Q E s := by
  simp only [newFunctionEnv, Option.isSome_none, Bool.false_eq_true, if_false]
  refine wpAny_bind (wpAny_alloc ?_)
  refine wpAny_bind (wpAny_layCells _ (fun name kind cells => by cases kind == NameKind.cell <;> simp) _ _ _ _ ?_)
  have ok := cellsFrom_ok scope.names (s.heap.push { cls := .type "frame", data := .dict #[] }) (s.heap.objs.size + 1) [] ⟨fun _ _ hm => (nomatch hm), List.Pairwise.nil⟩ (by rw [Heap.size_push]; exact Nat.le_refl _)
  rw [Heap.size_push] at ok
  rw [show ({ s with heap := s.heap.push { cls := .type "frame", data := .dict #[] } } : Shared).heap.objs.size = s.heap.objs.size + 1 from Heap.size_push ..]
  refine wpAny_bind (bindParamsD (s₀ := s) (own := cellsFrom (s.heap.objs.size + 1) scope.names []) (env := newEnv scope s.heap.objs.size globals (cellsFrom (s.heap.objs.size + 1) scope.names cl) qual func code none builtins)
    _ (fun _ _ _ => rfl) hk binds (fun _ => none) _ _
    ⟨⟨⟨_, _, rfl⟩, (Heap.Ns.new s.heap (.type "frame")).keeps (pushCells_keeps _ _), fun b o e => pushCells_keeps _ _ b o (Heap.get?_push_of_some _ e), Nat.le_refl _⟩,
      fun n c hc => (ok.empty n c hc).1, fun n c hm => (ok.empty n c hm).2⟩
    hloc fun s' x => wpAny_pure (hQ s' x))
end

section
variable {prog : Program} {w : World} {A₀ A : Around} {s : Shared} {base h₀ : Heap} {outer : List Env} {L : Addr} {m : Str → Option Value} {env : Env} {news : List (Addr × Obj)}
  {R : Result → Shared → Prop} {name qual : Str} {params : Arguments} {body : List Stmt} {scope : Scope} {cl : List (Str × Addr)} {dV kV doc pm cdv ct : Value} {an : Option Addr} {fo : Obj} {f : Addr} {args : Args} {binds : List (Str × Value)}

/-- a def is entered: what it closes over, its own cells (all empty yet), its parameters all plain locals -/
theorem callX_own (B : Below A₀ base outer h₀) (F : Fr h₀ L s.heap m) (N : News h₀ L s.heap news) (hlim : h₀.NoLimit) (hA : A.frames = some (env :: outer)) (hf : env.frame = some L) (hke : env.scope.kind = .function)
    (ho : s.heap.get? f = some fo) (hd : fo.data = .func (fnX name qual params body scope cl dV kV doc pm an cdv ct)) (hcd : s.heap.CodeRec cdv qual) (hroom : A.depth < recursionLimit)
    (hbind : BindsTo s (fnX name qual params body scope cl dV kV doc pm an cdv ct) args binds) (hloc : ∀ y ∈ binds, scope.names.lookup y.1 = some .local)
    (h : ∀ g L' h₁ tk cells, Fr h₀ L g m → Fr g L' h₁ (bindM binds fun _ => none) → News g L' h₁ (cells ++ news) →
      CellsAre (fun _ => none) (cellsFrom (L' + 1) scope.names []) cells → Below A base (env :: outer) g → h₀.StaysIn g → (∀ p ∈ news, p.1 < L') →
      wpAny (model prog w) (A.deeper (envX qual scope L' f cdv (cellsFrom (L' + 1) scope.names cl))) (execs body (envX qual scope L' f cdv (cellsFrom (L' + 1) scope.names cl)))
        (fun fl s' => LeaveK h₀ L m g R (match fl with | .ret v => v | _ => .none) s')
        (fun e s' => wpAny (model prog w) (A.deeper (envX qual scope L' f cdv (cellsFrom (L' + 1) scope.names cl))) («leaving» (envX qual scope L' f cdv (cellsFrom (L' + 1) scope.names cl)) e) (fun _ s'' => R (.error e) s'') (fun e' s'' => R (.error e') s'') s')
        { s with heap := h₁, toks := tk })
    (hco : scope.isCoroutine = false := by rfl) (hgen : scope.isGenerator = false := by rfl) (hk : scope.kind = .function := by rfl) : codeAny (model prog w) A (.call (.ref f) args) R s := by
  obtain ⟨FG, BG, st, lv⟩ := groundX (R := R) B F N hA hf hke
  refine codeAny_call_function hroom ho hd hco hgen rfl hcd (hbind _ _ _ _ ?_)
  refine newEnvD hk hloc fun s' x => ?_
  refine ⟨(hlim.keeps F.keep).keeps x.toInCall.keep, codeAny_func ?_⟩
  obtain ⟨h₁, tk, rfl, _⟩ := x.toInCall.done
  have hk₁ := x.toInCall.keep
  obtain ⟨cells, NC, Y⟩ := Cl.news (cm := fun _ => none) (cs := cellsFrom (s.heap.objs.size + 1) scope.names []) (h₀ := s.heap) (Nat.le_refl s.heap.objs.size) fun n c hm => ⟨x.cell n c hm, x.above n c hm⟩
  refine wpAny_mono (h _ s.heap.objs.size h₁ tk cells FG ⟨x.toInCall.ns, fun b o e => hk₁ b o (of_hideAll _ e), Nat.le_of_eq (hideAll_size _ _)⟩ (fun p hp => ?_) Y BG st (fun p hp => Heap.lt_size (N p hp).1)) (fun fl s' hl => lv _ _ hl) fun _ _ y => y
  rcases List.mem_append.mp hp with hp | hp
  · refine ⟨(NC p hp).1, (NC p hp).2.1, ?_⟩
    cases q : (hideAll s.heap (news.map (·.1))).get? p.1 with
    | none => rfl
    | some o => have := of_hideAll _ q; rw [(NC p hp).2.2] at this; cases this
  · exact ⟨hk₁ _ _ (N p hp).1, Nat.ne_of_lt (Heap.lt_size (N p hp).1), hideAll_none _ (List.mem_map_of_mem hp)⟩
end

/-- a code object with a table of its own for the defs within -/
def CodeOf (oc : Obj) (P : Addr) (qual : Str) : Prop :=
  ∃ vs file tf flags tg inF text tt t, oc.cls = .type "code" ∧ oc.data = .fields vs ∧ vs[11]? = some (.ref P) ∧ vs.getD 11 .none = .ref P ∧ vs.getD 18 .none = .str file tf ∧
    vs.getD 7 .none = .int flags tg ∧ vs.getD 9 .none = .bool inF ∧ vs.getD 10 .none = .int text tt ∧ vs[1]? = some (.str qual t)
theorem CodeOf.hd {h₀ h : Heap} {L c P : Addr} {oc : Obj} {qual : Str} {news : List (Addr × Obj)} (C : CodeOf oc P qual) (N : News h₀ L h news) (hm : (c, oc) ∈ news) (hne : @Ne Nat c P) : CodeHd h c P := by
  obtain ⟨vs, file, tf, flags, tg, inF, text, tt, t, e2, e3, e4, e5, e6, e7, e8, e9, _⟩ := C
  exact ⟨oc, vs, file, tf, flags, tg, inF, text, tt, (N _ hm).1, e2, e3, e4, e5, e6, e7, e8, e9, hne⟩
theorem CodeOf.rec {h₀ h : Heap} {L c P : Addr} {oc : Obj} {qual : Str} {news : List (Addr × Obj)} (C : CodeOf oc P qual) (N : News h₀ L h news) (hm : (c, oc) ∈ news) : h.CodeRec (.ref c) qual := by
  obtain ⟨vs, file, tf, flags, tg, inF, text, tt, t, e2, e3, e4, e5, e6, e7, e8, e9, e10⟩ := C
  exact ⟨c, oc, vs, t, rfl, (N _ hm).1, e3, e10⟩
theorem codeOf_made {h : Heap} {c P : Addr} {qual : Str} (a : h.IsCode c P #[]) (b : h.TableAt c P #[]) (r : h.CodeRec (.ref c) qual) : ∃ oc, h.get? c = some oc ∧ CodeOf oc P qual ∧ h.get? P = some (tabObj #[]) ∧ @Ne Nat c P := by
  obtain ⟨o, vs, file, tf, flags, tg, inF, text, tt, op, g1, g2, g3, g4, g5, g6, g7, _, _, _, g11⟩ := a
  obtain ⟨⟨o', vs', k1, k2, k3, k4⟩, k5⟩ := b
  obtain ⟨c', o'', vs'', t, l0, l1, l2, l3⟩ := r
  cases l0
  rw [g1] at k1 l1
  cases k1
  cases l1
  rw [g2] at k3 l2
  cases k3
  cases l2
  exact ⟨o, g1, ⟨vs, file, tf, flags, tg, inF, text, tt, t, k2, g2, k4, g3, g4, g5, g6, g7, l3⟩, k5, g11⟩

abbrev fnMadeD (name qual : Str) (params : Arguments) (body : List Stmt) (scope : Scope) (clos : List (Str × Addr)) (dV doc pm : Value) (c' : Addr) (ctv : Value) : Obj :=
  { cls := .type "function", data := .func (fnX name qual params body scope clos dV .none doc pm none (.ref c') ctv) }
section
variable {M : Model} {A : Around} {E : Value → Shared → Prop} {s : Shared} {name qual : Str} {params : Arguments} {body : List Stmt} {scope : Scope} {env : Env} {c P : Addr} {ps : Array Value} {pos : Pos} {firstLine : Nat} {mg : Str → Option Value}
  {clos : List (Str × Addr)} {Q : Value → Shared → Prop} {dV : Value}
theorem makeTail_miss (hcl : closureFor scope env = pure clos) (hge0 : env.globals = mainGlobals) (hg : s.heap.Ns mainGlobals mg) (hcode : env.code = .ref c) (C : CodeHd s.heap c P) (hP : s.heap.get? P = some (tabObj ps)) (ht : TriplesOk ps.toList)
    (hnf : codeAmong pos ps.toList = none) (hgP : mainGlobals ≠ P) (hb : s.heap.BuiltinsAt mg P)
    (h : ∀ c' P' ctv doc h' tk, Heap.ExtBut P s.heap h' → s.heap.objs.size ≤ c' → c' < h'.objs.size → s.heap.objs.size ≤ P' → h'.CodeRec (.ref c') qual → h'.IsCode c' P' #[] → h'.TableAt c' P' #[] →
      h'.get? P = some (tabObj (ps ++ #[rawInt pos.line, rawInt pos.col, .ref c'])) →
      Q (.ref h'.objs.size) { s with heap := h'.push (fnMadeD name qual params body scope clos dV doc ((mg "__name__").getD .none) c' ctv), toks := tk }) :
    wpAny M A (makeTail name qual params (.stmts body) scope env dV .none none pos firstLine) Q E s := by
  obtain ⟨bm, ob, hbm, hne0, _, hneP, hbo, hcls, hdict, hdata⟩ := hb
  unfold makeTail
  rw [hcl, hge0]
  refine wpAny_bind (wpAny_pure ?_)
  cases clos with
  | nil =>
    simp only [List.isEmpty_nil, if_true]
    refine wpAny_bind (wpAny_pure ?_)
    refine wpAny_bind (wpAny_functionCodeX hcode (C.code hP ht) (C.tab hP) hnf fun c' h' tk hx hge hlt _ hrec htb hnew => ?_)
    obtain ⟨P', hP1, hP2, hP3⟩ := hnew
    have hg' := hg.extBut hx hgP
    refine wpAny_bind (wpAny_builtinsFor hg' hbm hne0 (hx _ _ hneP hbo) hcls hdict hdata ?_)
    refine wpAny_bind (wpAny_nsGet hg' ?_)
    cases hdoc : docOf body with
    | none => exact wpAny_bind (wpAny_pure (wpAny_newObj_type (h c' P' .none .none h' tk hx hge hlt hP1 hrec hP2 hP3 htb.2) (by size_fits)))
    | some t => exact wpAny_bind (wpAny_mkText (wpAny_newObj_type (h c' P' .none _ h' _ hx hge hlt hP1 hrec hP2 hP3 htb.2) (by size_fits)))
  | cons q r =>
    simp only [List.isEmpty_cons, Bool.false_eq_true, if_false]
    refine wpAny_bind (wpAny_newTextTuple ?_)
    refine wpAny_bind (wpAny_functionCodeX hcode ((C.keeps fun b o e => Heap.get?_push_of_some _ e).code (Heap.get?_push_of_some _ hP) ht) ((C.keeps fun b o e => Heap.get?_push_of_some _ e).tab (Heap.get?_push_of_some _ hP)) hnf fun c' h' tk hx hge hlt _ hrec htb hnew => ?_)
    obtain ⟨P', hP1, hP2, hP3⟩ := hnew
    have hg' := (hg.push _).extBut hx hgP
    have hx' : Heap.ExtBut P s.heap h' := fun b o hb' e => hx b o hb' (Heap.get?_push_of_some _ e)
    have up : s.heap.objs.size ≤ (s.heap.push { cls := .type "tuple", data := .seq (List.map (fun x => Value.ref x.2) ((q :: r).mergeSort fun a b => decide (a.1.cps.toList ≤ b.1.cps.toList))).toArray }).objs.size := by rw [Heap.size_push]; omega
    have hge' : s.heap.objs.size ≤ c' := Nat.le_trans up hge
    have hP1' : s.heap.objs.size ≤ P' := Nat.le_trans up hP1
    refine wpAny_bind (wpAny_builtinsFor hg' hbm hne0 (hx' _ _ hneP hbo) hcls hdict hdata ?_)
    refine wpAny_bind (wpAny_nsGet hg' ?_)
    cases hdoc : docOf body with
    | none => exact wpAny_bind (wpAny_pure (wpAny_newObj_type (h c' P' _ .none h' tk hx' hge' hlt hP1' hrec hP2 hP3 htb.2) (by size_fits)))
    | some t => exact wpAny_bind (wpAny_mkText (wpAny_newObj_type (h c' P' _ _ h' _ hx' hge' hlt hP1' hrec hP2 hP3 htb.2) (by size_fits)))
theorem makeTail_hitD {cv : Value} (hcl : closureFor scope env = pure clos) (hge0 : env.globals = mainGlobals) (hg : s.heap.Ns mainGlobals mg) (hcode : env.code = .ref c) (C : CodeHd s.heap c P) (hP : s.heap.get? P = some (tabObj ps)) (ht : TriplesOk ps.toList)
    (hf : codeAmong pos ps.toList = some cv) (hb : s.heap.BuiltinsAt mg P)
    (h : ∀ (ctv doc : Value) (h' : Heap) (tk : Tok), (∀ b o, s.heap.get? b = some o → h'.get? b = some o) → s.heap.objs.size ≤ h'.objs.size →
      Q (.ref h'.objs.size) { s with heap := h'.push { cls := .type "function", data := .func (fnX name qual params body scope clos dV .none doc ((mg "__name__").getD .none) none cv ctv) }, toks := tk }) :
    wpAny M A (makeTail name qual params (.stmts body) scope env dV .none none pos firstLine) Q E s := by
  obtain ⟨bm, ob, hbm, hne0, _, hneP, hbo, hcls, hdict, hdata⟩ := hb
  unfold makeTail
  rw [hcl, hge0]
  refine wpAny_bind (wpAny_pure ?_)
  cases clos with
  | nil =>
    simp only [List.isEmpty_nil, if_true]
    refine wpAny_bind (wpAny_pure ?_)
    refine wpAny_bind (wpAny_functionCode_hit hcode (C.code hP ht) hf ?_)
    refine wpAny_bind (wpAny_builtinsFor hg hbm hne0 hbo hcls hdict hdata ?_)
    refine wpAny_bind (wpAny_nsGet hg ?_)
    cases hdoc : docOf body with
    | none => exact wpAny_bind (wpAny_pure (wpAny_newObj_type (h .none .none s.heap s.toks (fun _ _ e => e) (Nat.le_refl _)) (by size_fits)))
    | some t => exact wpAny_bind (wpAny_mkText (wpAny_newObj_type (h .none _ s.heap _ (fun _ _ e => e) (Nat.le_refl _)) (by size_fits)))
  | cons q r =>
    simp only [List.isEmpty_cons, Bool.false_eq_true, if_false]
    refine wpAny_bind (wpAny_newTextTuple ?_)
    refine wpAny_bind (wpAny_functionCode_hit hcode ((C.keeps fun b o e => Heap.get?_push_of_some _ e).code (Heap.get?_push_of_some _ hP) ht) hf ?_)
    refine wpAny_bind (wpAny_builtinsFor (hg.push _) hbm hne0 (Heap.get?_push_of_some _ hbo) hcls hdict hdata ?_)
    refine wpAny_bind (wpAny_nsGet (hg.push _) ?_)
    have hsz : ∀ oT : Obj, s.heap.objs.size ≤ (s.heap.push oT).objs.size := fun oT => by rw [Heap.size_push]; omega
    cases hdoc : docOf body with
    | none => exact wpAny_bind (wpAny_pure (wpAny_newObj_type (h _ .none _ s.toks (fun b o e => Heap.get?_push_of_some _ e) (hsz _)) (by size_fits)))
    | some t => exact wpAny_bind (wpAny_mkText (wpAny_newObj_type (h _ _ _ _ (fun b o e => Heap.get?_push_of_some _ e) (hsz _)) (by size_fits)))
end
section
variable {M : Model} {A : Around} {E : Value → Shared → Prop} {s : Shared} {h₀ : Heap} {L a c P : Addr} {m mg mb : Str → Option Value} {cn : Str} {cs : Scope} {ccd : Value} {cl : List (Str × Addr)} {news : List (Addr × Obj)} {g : Obj → List (Addr × Obj)}
  {p : Program} {loose : List Str} {mean : ExcName → Option Value} {name qual : Str} {params : Arguments} {body : List Stmt} {scope : Scope} {ps : Array Value} {pos : Pos} {firstLine : Nat} {clos : List (Str × Addr)} {dV : Value}
theorem tail_miss {Q : Value → Shared → Prop} (F : Fr h₀ L s.heap m) (N : News h₀ L s.heap news) (T : Top p loose mean mg mb h₀) (C : CodeHd s.heap c P) (hcd : ccd = .ref c) (U : UpdF P (tabObj ps) news g) (ht : TriplesOk ps.toList) (hnf : codeAmong pos ps.toList = none)
    (hcl : closureFor scope (envX cn cs L a ccd cl) = pure clos)
    (h : ∀ f c' P' oc ctv doc h' tk, Fr h₀ L h' m →
      News h₀ L h' ((f, fnMadeD name qual params body scope clos dV doc ((mg "__name__").getD .none) c' ctv) :: (c', oc) :: (P', tabObj #[]) :: g (tabObj (ps ++ #[rawInt pos.line, rawInt pos.col, .ref c']))) →
      CodeOf oc P' qual → (∀ q ∈ news, q.1 < c') → (∀ q ∈ news, q.1 < P') → @Ne Nat c' P' → @LT.lt Nat _ c' f → @LT.lt Nat _ P' f → Q (.ref f) { s with heap := h', toks := tk }) :
    wpAny M A (makeTail name qual params (.stmts body) scope (envX cn cs L a ccd cl) dV .none none pos firstLine) Q E s := by
  obtain ⟨own, rest, rfl, hgr, h1, h2⟩ := U.split
  have hm := N (P, tabObj ps) (List.mem_append_right _ (.head _))
  have hgs := T.g.keeps F.keep
  obtain ⟨bm, ob, b1, b2, b3, b4, b5, b6⟩ := T.bmain
  have hgP : mainGlobals ≠ P := fun q => by
    obtain ⟨o, es, ep, e, hd, _⟩ := hgs
    rw [q, hm.1] at e; cases e; cases hd
  have hbP : bm ≠ P := fun q => by
    have e := F.keep _ _ b3
    rw [q, hm.1] at e; cases e; cases b4
  have hbG : bm ≠ mainGlobals := fun q => by
    obtain ⟨o, es, ep, e, hd, _⟩ := T.g
    rw [q, e] at b3; cases b3; rw [hd] at b6; cases b6
  refine makeTail_miss (mg := mg) hcl rfl hgs hcd C hm.1 ht hnf hgP ⟨bm, ob, b1, b2, hbG, hbP, F.keep _ _ b3, b4, b5, b6⟩ fun c' P' ctv doc h' tk hx hge hlt hgP' hrec hic hta htb => ?_
  obtain ⟨oc, hoc, hC, hT, hcP⟩ := codeOf_made hic hta hrec
  have hLs : L < s.heap.objs.size := F.ns.lt
  have hLc : L < c' := Nat.lt_of_lt_of_le hLs hge
  have hLP : L < P' := Nat.lt_of_lt_of_le hLs hgP'
  have hltP : P' < h'.objs.size := Heap.lt_size hT
  have old : ∀ b o, h₀.get? b = some o → h'.get? b = some o := fun b o e => hx b o (fun q => by rw [q, hm.2.2] at e; cases e) (F.keep b o e)
  have fresh : ∀ b, L < b → h₀.get? b = none := fun b hb => Heap.get?_none_of_le (Nat.le_trans F.above (Nat.le_of_lt hb))
  refine h h'.objs.size c' P' oc ctv doc _ tk ⟨(F.ns.extBut hx hm.2.1.symm).push _, fun b o e => Heap.get?_push_of_some _ (old b o e), F.above⟩ (fun q hq => ?_) hC
    (fun q hq => Nat.lt_of_lt_of_le (Heap.lt_size (N q hq).1) hge) (fun q hq => Nat.lt_of_lt_of_le (Heap.lt_size (N q hq).1) hgP') hcP hlt hltP
  rcases List.mem_cons.mp hq with rfl | hq
  · exact ⟨Heap.get?_push_size _ rfl, Nat.ne_of_gt (Nat.lt_trans hLc hlt), fresh _ (Nat.lt_trans hLc hlt)⟩
  · rcases List.mem_cons.mp hq with rfl | hq
    · exact ⟨Heap.get?_push_of_some _ hoc, Nat.ne_of_gt hLc, fresh _ hLc⟩
    · rcases List.mem_cons.mp hq with rfl | hq
      · exact ⟨Heap.get?_push_of_some _ hT, Nat.ne_of_gt hLP, fresh _ hLP⟩
      · rw [hgr] at hq
        rcases List.mem_append.mp hq with hq | hq
        · have n := N q (List.mem_append_left _ hq)
          exact ⟨Heap.get?_push_of_some _ (hx _ _ (h1 q hq) n.1), n.2⟩
        · rcases List.mem_cons.mp hq with rfl | hq
          · exact ⟨Heap.get?_push_of_some _ htb, hm.2⟩
          · have n := N q (List.mem_append_right _ (.tail _ hq))
            exact ⟨Heap.get?_push_of_some _ (hx _ _ (h2 q hq) n.1), n.2⟩
theorem tail_hit {Q : Value → Shared → Prop} {c' : Addr} (F : Fr h₀ L s.heap m) (N : News h₀ L s.heap news) (T : Top p loose mean mg mb h₀) (C : CodeHd s.heap c P) (hcd : ccd = .ref c) (hmem : (P, tabObj ps) ∈ news) (ht : TriplesOk ps.toList) (hf : codeAmong pos ps.toList = some (.ref c'))
    (hcl : closureFor scope (envX cn cs L a ccd cl) = pure clos)
    (h : ∀ f ctv doc h' tk, Fr h₀ L h' m → News h₀ L h' ((f, fnMadeD name qual params body scope clos dV doc ((mg "__name__").getD .none) c' ctv) :: news) → (∀ q ∈ news, q.1 < f) → Q (.ref f) { s with heap := h', toks := tk }) :
    wpAny M A (makeTail name qual params (.stmts body) scope (envX cn cs L a ccd cl) dV .none none pos firstLine) Q E s := by
  have hm := N (P, tabObj ps) hmem
  have hgs := T.g.keeps F.keep
  obtain ⟨bm, ob, b1, b2, b3, b4, b5, b6⟩ := T.bmain
  have hbP : bm ≠ P := fun q => by
    have e := F.keep _ _ b3
    rw [q, hm.1] at e; cases e; cases b4
  have hbG : bm ≠ mainGlobals := fun q => by
    obtain ⟨o, es, ep, e, hd, _⟩ := T.g
    rw [q, e] at b3; cases b3; rw [hd] at b6; cases b6
  refine makeTail_hitD (mg := mg) hcl rfl hgs hcd C hm.1 ht hf ⟨bm, ob, b1, b2, hbG, hbP, F.keep _ _ b3, b4, b5, b6⟩ fun ctv doc h' tk hk hsz => ?_
  have hLs : L < h'.objs.size := Nat.lt_of_lt_of_le F.ns.lt hsz
  have fresh : ∀ b, L < b → h₀.get? b = none := fun b hb => Heap.get?_none_of_le (Nat.le_trans F.above (Nat.le_of_lt hb))
  refine h h'.objs.size ctv doc _ tk ⟨(F.ns.keeps hk).push _, fun b o e => Heap.get?_push_of_some _ (hk b o (F.keep b o e)), F.above⟩ (fun q hq => ?_) (fun q hq => Nat.lt_of_lt_of_le (Heap.lt_size (N q hq).1) hsz)
  rcases List.mem_cons.mp hq with rfl | hq
  · exact ⟨Heap.get?_push_size _ rfl, Nat.ne_of_gt hLs, fresh _ hLs⟩
  · exact ⟨Heap.get?_push_of_some _ (hk _ _ (N q hq).1), (N q hq).2⟩
end
section
variable {M : Model} {A : Around} {E : Value → Shared → Prop} {s : Shared} {name qual : Str} {params : Arguments} {body : List Stmt} {scope : Scope} {env : Env} {pos : Pos}
/-- a def in a body, no default -/
theorem def_plain {Q : Flow → Shared → Prop} (hd0 : params.defaults = []) (hk0 : params.kw_defaults = []) (ha : annTrees params none env = [])
    (h : wpAny M A (makeTail name (qualnameIn env name name) params (.stmts body) scope env .none .none none pos pos.line) (fun v s' => wpAny M A (storeName env name v) (fun _ s'' => Q .next s'') E s') E s) :
    wpAny M A (exec (.FunctionDef name params body [] none [] scope none name pos) env) Q E s := by
  refine nestDef_K hd0 hk0 ha ?_
  rw [makeFunction_eq]
  simp only [List.zip_nil_right, List.filterMap_nil, List.isEmpty_nil, if_true, pure_bind]
  exact h
/-- a def in a body, one default: a written octets' string -/
theorem def_bytes {Q : Flow → Shared → Prop} {bs : List UInt8} {k : Nat} {cp : Pos} (hd0 : params.defaults = [.Constant (.bytes bs) k cp]) (hk0 : params.kw_defaults = []) (ha : annTrees params none env = [])
    (h : ∀ t tk, wpAny M A (makeTail name (qualnameIn env name name) params (.stmts body) scope env (.ref s.heap.objs.size) .none none pos pos.line) (fun v s' => wpAny M A (storeName env name v) (fun _ s'' => Q .next s'') E s') E
      { s with heap := s.heap.push { cls := .type "tuple", data := .seq [Value.bytes bs.toArray t].toArray }, toks := tk }) :
    wpAny M A (exec (.FunctionDef name params body [] none [] scope none name pos) env) Q E s := by
  rw [exec_def]
  refine wpAny_bind (wpAny_standAt (wpAny_bind (wpAny_holding ?_)))
  rw [defaultsOf_eq, hd0, hk0, ha]
  refine wpAny_bind (wpAny_evalAll_consts _ _ _ (fun e he => by cases he with | head => rfl | tail _ h => cases h) fun vs tk hv => ?_)
  match vs, hv with
  | [], hv => exact hv.elim
  | [v], hv =>
    obtain ⟨⟨t, rfl⟩, _⟩ := hv
    refine wpAny_bind (wpAny_holding (wpAny_pure ?_))
    refine wpAny_holding (wpAny_bind (wpAny_pure ?_))
    rw [makeFunction_eq]
    simp only [List.zip_nil_right, List.filterMap_nil, List.isEmpty_nil, List.isEmpty_cons, Bool.false_eq_true, if_false, if_true, pure_bind]
    refine wpAny_bind (wpAny_newTextTuple ?_)
    exact wpAny_mono (h t tk) (fun v s' h' => wpAny_bind (wpAny_standAt (wpAny_bind (wpAny_bindName (wpAny_mono h' (fun _ _ h'' => wpAny_pure h'') fun _ _ x => x))))) fun _ _ x => x
  | _ :: _ :: _, hv => exact hv.2.elim
end

section
variable {M : Model} {A : Around} {E : Value → Shared → Prop} {s : Shared} {name qual : Str} {params : Arguments} {body : List Stmt} {scope : Scope} {env : Env} {pos : Pos} {h₀ : Heap} {L : Addr} {m : Str → Option Value} {news : List (Addr × Obj)}
theorem def_bytes_K {Q : Flow → Shared → Prop} {bs : List UInt8} {k : Nat} {cp : Pos} (F : Fr h₀ L s.heap m) (N : News h₀ L s.heap news) (hd0 : params.defaults = [.Constant (.bytes bs) k cp]) (hk0 : params.kw_defaults = []) (ha : annTrees params none env = [])
    (h : ∀ d t h' tk, Fr h₀ L h' m → News h₀ L h' ((d, { cls := .type "tuple", data := .seq #[Value.bytes bs.toArray t] }) :: news) → (∀ q ∈ news, q.1 < d) →
      wpAny M A (makeTail name (qualnameIn env name name) params (.stmts body) scope env (.ref d) .none none pos pos.line) (fun v s' => wpAny M A (storeName env name v) (fun _ s'' => Q .next s'') E s') E { s with heap := h', toks := tk }) :
    wpAny M A (exec (.FunctionDef name params body [] none [] scope none name pos) env) Q E s :=
  def_bytes hd0 hk0 ha fun t tk => h _ t _ tk (F.push _) (N.push F _) fun q hq => Heap.lt_size (N q hq).1
end
section
variable {prog : Program} {w : World} {A A₀ : Around} {s : Shared} {K : Frag} {L : Addr} {h₀ base : Heap} {m mg mb : Str → Option Value} {news : List (Addr × Obj)} {p : Program} {loose : List Str} {mean : ExcName → Option Value}
  {env : Env} {outer : List Env} {R : Result → Shared → Prop} {name qual : Str} {params : Arguments} {body : List Stmt} {scope : Scope} {cl : List (Str × Addr)} {dV doc pm ctv : Value} {c' P' : Addr} {oc : Obj} {f : Addr} {args : Args} {binds : List (Str × Value)}
/-- a def of the ledger is entered: no cells of its own -/
theorem code_own0 (B : Below A₀ base outer h₀) (F : Fr h₀ L s.heap m) (X₀ : K.In h₀) (N : News h₀ L s.heap news) (T : Top p loose mean mg mb h₀) (hA : A.frames = some (env :: outer)) (hf : env.frame = some L) (hke : env.scope.kind = .function)
    (ho : (f, fnMadeD name qual params body scope cl dV doc pm c' ctv) ∈ news) (hoc : (c', oc) ∈ news) (hcd : CodeOf oc P' qual) (hroom : A.depth < recursionLimit)
    (hbind : BindsTo s (fnX name qual params body scope cl dV .none doc pm none (.ref c') ctv) args binds) (hloc : ∀ y ∈ binds, scope.names.lookup y.1 = some .local)
    (h : ∀ g L' h₁, Fr h₀ L g m → Fr g L' h₁ (fun y => binds.reverse.lookup y) → News g L' h₁ news → Below A base (env :: outer) g → K.In g → Top p loose mean mg mb g → (∀ p ∈ news, p.1 < L') →
      wpAny (model prog w) (A.deeper (envX qual scope L' f (.ref c') cl)) (execs body (envX qual scope L' f (.ref c') cl))
        (fun fl s' => LeaveK h₀ L m g R (match fl with | .ret v => v | _ => .none) s')
        (fun e s' => wpAny (model prog w) (A.deeper (envX qual scope L' f (.ref c') cl)) («leaving» (envX qual scope L' f (.ref c') cl) e) (fun _ s'' => R (.error e) s'') (fun e' s'' => R (.error e') s'') s')
        { s with heap := h₁, toks := s.toks + binds.length })
    (hco : scope.isCoroutine = false) (hgen : scope.isGenerator = false) (hk : scope.kind = .function)
    (hcell : ∀ x ∈ scope.names, x.2 ≠ .cell) : codeAny (model prog w) A (.call (.ref f) args) R s :=
  callX_plain (cl := cl) B F N T.nolimit hA hf hke (N _ ho).1 rfl (hcd.rec N hoc) hroom hbind hloc (fun g L' h₁ FG F' N' B' st l => h g L' h₁ FG F' N' B' (X₀.keeps st) (T.keeps st) l) hcell hco hgen hk
/-- the same, with cells of its own -/
theorem code_own (B : Below A₀ base outer h₀) (F : Fr h₀ L s.heap m) (X₀ : K.In h₀) (N : News h₀ L s.heap news) (T : Top p loose mean mg mb h₀) (hA : A.frames = some (env :: outer)) (hf : env.frame = some L) (hke : env.scope.kind = .function)
    (ho : (f, fnMadeD name qual params body scope cl dV doc pm c' ctv) ∈ news) (hoc : (c', oc) ∈ news) (hcd : CodeOf oc P' qual) (hroom : A.depth < recursionLimit)
    (hbind : BindsTo s (fnX name qual params body scope cl dV .none doc pm none (.ref c') ctv) args binds) (hloc : ∀ y ∈ binds, scope.names.lookup y.1 = some .local)
    (h : ∀ g L' h₁ tk cells, Fr h₀ L g m → Fr g L' h₁ (bindM binds fun _ => none) → News g L' h₁ (cells ++ news) → CellsAre (fun _ => none) (cellsFrom (L' + 1) scope.names []) cells →
      Below A base (env :: outer) g → K.In g → Top p loose mean mg mb g → (∀ p ∈ news, p.1 < L') →
      wpAny (model prog w) (A.deeper (envX qual scope L' f (.ref c') (cellsFrom (L' + 1) scope.names cl))) (execs body (envX qual scope L' f (.ref c') (cellsFrom (L' + 1) scope.names cl)))
        (fun fl s' => LeaveK h₀ L m g R (match fl with | .ret v => v | _ => .none) s')
        (fun e s' => wpAny (model prog w) (A.deeper (envX qual scope L' f (.ref c') (cellsFrom (L' + 1) scope.names cl))) («leaving» (envX qual scope L' f (.ref c') (cellsFrom (L' + 1) scope.names cl)) e) (fun _ s'' => R (.error e) s'') (fun e' s'' => R (.error e') s'') s')
        { s with heap := h₁, toks := tk })
    (hco : scope.isCoroutine = false) (hgen : scope.isGenerator = false) (hk : scope.kind = .function) : codeAny (model prog w) A (.call (.ref f) args) R s :=
  callX_own (cl := cl) B F N T.nolimit hA hf hke (N _ ho).1 rfl (hcd.rec N hoc) hroom hbind hloc (fun g L' h₁ tk cells FG F' N' Y B' st l => h g L' h₁ tk cells FG F' N' Y B' (X₀.keeps st) (T.keeps st) l) hco hgen hk
theorem binds_news {fd : FuncData} {T : Addr} {o : Obj} {items : Array Value} {n : Nat} {k : Option (Array Value) → Sem (List (Str × Value))} (N : News h₀ L s.heap news) (hm : (T, o) ∈ news) (hd : fd.defaults = .ref T) (hs : o.data = .seq items n)
    (h₁ : bindArgs fd args = seqItems? fd.defaults >>= k) (h₂ : k (some items) = pure binds) : BindsTo s fd args binds := BindsTo.of_defaults hd (N _ hm).1 hs h₁ h₂
end
end Mine

end
section
open PySem PySem.Spec PySem.Calls PySem.W PyProof.Rows
set_option Elab.async false
namespace Mine
theorem fillUp : (fun (_ : OpenLaw) (_ : Params → Frag) => True) PySem.Challenge.rw_aj5026_01 Mine.K := by
  k_fill
  trivial
abbrev handObj (u d c sz bl : Value) (dx : Addr) : Obj := { cls := .ref 285, dict := some dx, data := .seq #[u, d, c, sz, bl] }
def GetTells (w : World) (p : Program) (loose : List Str) (mean : ExcName → Option Value) (mg mb : Str → Option Value) (ds : Addr) (pick : Value → Value → Value → Value → Value → Value) : Prop :=
  ∀ (dp un : Nat) (gd : Option (List Code)) (cn : Str) (cs : Scope) (a : Addr) (ccd : Value) (cl : List (Str × Addr)) (outer : List Env) (A₀ : Around) (base h₀ : Heap) (L : Addr) (m : Str → Option Value) (news : List (Addr × Obj)) (s : Shared) (x dx : Addr) (u d c sz bl : Value)
    (Q E : Value → Shared → Prop),
    Below A₀ base outer h₀ → Fr h₀ L s.heap m → (Mine.K w.params).In h₀ → News h₀ L s.heap news → Top p loose mean mg mb h₀ → cs.kind = .function → (x, handObj u d c sz bl dx) ∈ news → (dx, emptyDict) ∈ news → dp + 1 < recursionLimit → un + 8 < cLine →
    (∀ h' tk', Fr h₀ L h' m → News h₀ L h' news → Q (pick u d c sz bl) { s with heap := h', toks := tk' }) →
    wpAny (model PySem.Challenge.pw_aj5026_01 w) (ktrTop dp un gd cn cs L a ccd cl outer) (call (.ref 187) [.ref ds, .ref x, .ref 285]) Q E s
local macro_rules | `(tactic| walk_at "getMethod type:tuple") => `(tactic| (k_here; refine' method_type ?F ?X ?m (by decide +kernel) ?e ?h ?_; (case F => k_asm); (case X => k_asm); (case m => first | rfl | kernel_rfl); (case e => k_dflt k_is); (case h => k_handed)))
local macro_rules | `(tactic| cell_enter) => `(tactic| (refine' code_def ?k1 ?k2 ?k3 ?k4 ?k5 ?kA ?kF ?kK ?k6 ?k7 ?k8 ?k9 ?kB ?_ ?c2 ?c3 ?c4 ?c5; (case kA => exact rfl); (case kF => exact rfl); (case kK => first | assumption | exact rfl); (case k1 => k_asm); (case k2 => k_asm); (case k3 => k_asm); (case k4 => k_asm); (case k5 => k_asm); (case k6 => k_is); (case k7 => k_is); (case k8 => ktr_room); (case k9 => first | exact BindsTo.of_eq rfl | exact binds_K (by k_in) rfl (by k_is) rfl rfl rfl); (case c5 => decide); (case kB => exact locs rfl); (case c2 => exact rfl); (case c3 => exact rfl); (case c4 => exact rfl); k_whole; intro g' L' h' FG' F' N' B' X' T'; (try dsimp only); (try k_lift B'); (try k_fold)))
local macro_rules | `(tactic| walk_at "call type:type") => `(tactic| (k_here; k_dflt (refine kto_own (inst_seq (by k_asm) (by k_mem) (by k_mem)) ?_)))
local macro_rules | `(tactic| walk_at "call builtin:issubclass") => `(tactic| (k_here; k_dflt (refine issub_tuple (K := Mine.K _) (C := 285) (by k_in) (by kernel_rfl) ?_)))
local macro_rules | `(tactic| walk_at "call builtin:tuple.__getitem__") => `(tactic| (k_here; k_dflt (refine' tgi_call (K := Mine.K _) (C := 285) ?a ?b ?c ?d ?e ?f ?g ?_; (case a => k_in); (case b => kernel_rfl); (case c => exact News.get (by k_asm) (by k_mem)); (case d => decide); (case e => decide); (case f => rfl); (case g => rfl))))
set_option maxRecDepth 100000 in
set_option maxHeartbeats 8000000 in
theorem get_digest {w : World} {p : Program} {loose : List Str} {mean : ExcName → Option Value} {mg mb : Str → Option Value} : GetTells w p loose mean mg mb 271 (fun _ d _ _ _ => d) := by
  unfold GetTells
  intro dp un gd cn cs a ccd cl outer A₀ base h₀ L m news s x dx u d c sz bl Q E B F X N T hk hx hdx hd hu hret
  refine wpAny_call ?_
  k_dflt cell_enter
  k_steps
  all_goals (try k_data)
  all_goals exact hret _ _ (by k_asm) (by k_asm)
set_option maxRecDepth 100000 in
set_option maxHeartbeats 8000000 in
theorem get_size {w : World} {p : Program} {loose : List Str} {mean : ExcName → Option Value} {mg mb : Str → Option Value} : GetTells w p loose mean mg mb 277 (fun _ _ _ sz _ => sz) := by
  unfold GetTells
  intro dp un gd cn cs a ccd cl outer A₀ base h₀ L m news s x dx u d c sz bl Q E B F X N T hk hx hdx hd hu hret
  refine wpAny_call ?_
  k_dflt cell_enter
  k_steps
  all_goals (try k_data)
  all_goals exact hret _ _ (by k_asm) (by k_asm)
set_option maxRecDepth 100000 in
set_option maxHeartbeats 8000000 in
theorem get_block {w : World} {p : Program} {loose : List Str} {mean : ExcName → Option Value} {mg mb : Str → Option Value} : GetTells w p loose mean mg mb 280 (fun _ _ _ _ bl => bl) := by
  unfold GetTells
  intro dp un gd cn cs a ccd cl outer A₀ base h₀ L m news s x dx u d c sz bl Q E B F X N T hk hx hdx hd hu hret
  refine wpAny_call ?_
  k_dflt cell_enter
  k_steps
  all_goals (try k_data)
  all_goals exact hret _ _ (by k_asm) (by k_asm)
end Mine

end
section
open PySem PySem.Spec PySem.Calls PySem.W PyProof.Rows
set_option Elab.async false
namespace Mine

section
variable {prog : Program} {w : World} {M : Model} {A : Around} {E : Value → Shared → Prop} {s : Shared}

theorem grown {n k : Nat} {Q : Value → Shared → Prop} (hk : k ≤ 100000) (hn : n < 2 ^ k) (h : Q (.int (n : Int) s.toks) { s with toks := s.toks + 1 }) : wpAny M A (mkIntGrown (n : Int)) Q E s := by
  unfold mkIntGrown
  have hl : ¬ ((n : Int).natAbs.log2 ≥ bitsLine) := by
    rw [Int.natAbs_natCast]
    have hb : bitsLine = 134217728 := by first | rfl | decide
    by_cases hz : n = 0
    · subst hz
      rw [hb]
      decide
    · have h1 := (Nat.log2_lt hz).mpr hn
      omega
  rw [if_neg hl]
  exact wpAny_mkInt h

theorem tree_big {b : Array UInt8} {t u : Tok} {P : Fin → Shared → Prop} (hl : b.size ≤ 1000) (h : P (.done (.ret (.int (KFB.value (KBw.bInts b)) s.toks))) { s with toks := s.toks + 1 }) :
    wpAny M A (Builtin.«int.from_bytes» ⟨[.type "int", .bytes b t, .str (PySem.Str.ofString "big") u], []⟩) P E s := by
  have hv : ((b.toList.foldl (fun (acc : Nat) (b : UInt8) => acc * 256 + b.toNat) 0 : Nat) : Int) = KFB.value (KBw.bInts b) := KFB.fold_cast b.toList 0
  have hn : b.toList.foldl (fun (acc : Nat) (b : UInt8) => acc * 256 + b.toNat) 0 < 2 ^ (8 * b.size) := by
    have h1 := KFB.fold_lt b.toList 0
    rw [Nat.zero_add, Nat.one_mul, Array.length_toList] at h1
    have e2 : (2 : Nat) ^ 8 = 256 := by decide
    rw [Nat.pow_mul, e2]
    exact h1
  unfold Builtin.«int.from_bytes»
  refine wpAny_bind (wpAny_of_eq (a := true) KFB.type_int ?_)
  refine KFB.if_not rfl ?_
  refine wpAny_bind (wpAny_of_eq (a := true) F.conv_sub_int ?_)
  refine KFB.if_not rfl ?_
  refine wpAny_bind (wpAny_of_eq (a := [some (.bytes b t), some (.str (PySem.Str.ofString "big") u), none]) (by kernel_rfl) ?_)
  refine wpAny_bind (wpAny_of_eq (a := PySem.Str.ofString "big") (by kernel_rfl) ?_)
  refine wpAny_bind (wpAny_of_eq (a := false) rfl ?_)
  refine wpAny_bind (wpAny_of_eq (a := false) (by kernel_rfl) ?_)
  refine wpAny_bind (wpAny_of_eq (a := b) rfl ?_)
  show wpAny _ _ (mkIntGrown (b.toList.foldl (fun (acc : Int) (b : UInt8) => acc * 256 + (b.toNat : Int)) ((0 : Nat) : Int)) >>= fun v => _) _ _ _
  rw [KFB.foldI_eq]
  refine wpAny_bind (grown (k := 8 * b.size) (by omega) hn ?_)
  rw [hv]
  refine KFB.if_so (by decide +kernel) ?_
  exact wpAny_bind (wpAny_pure (wpAny_pure h))

theorem call_big {h₀ : Heap} {L : Addr} {news : List (Addr × Obj)} {x : Addr} {b : Array UInt8} {t u : Tok} {Q : Value → Shared → Prop} (N : News h₀ L s.heap news) (hm : (x, KFB.bound) ∈ news) (hl : b.size ≤ 1000)
    (h : ∀ t' k, Q (.int (KFB.value (KBw.bInts b)) t') { s with toks := k }) : wpAny (model prog w) A (call (.ref x) [.bytes b t, .str (PySem.Str.ofString "big") u]) Q E s :=
  KFB.call_of (KFB.at_of N hm) (fun z => tree_big hl z) (h _ _)

theorem tb_big {x : Int} {k : Nat} {t u v : Tok} {Q : Value → Shared → Prop} (hk : k ≤ 1000) (h0 : 0 ≤ x) (h1 : x < (256 : Int) ^ k) (h : ∀ t' k', Q (.bytes (KTBy.low x k).reverse.toArray t') { s with toks := k' }) :
    wpAny (model prog w) A (call (.builtin "int.to_bytes") [.int x t, .int (k : Int) u, .str (PySem.Str.ofString "big") v]) Q E s := by
  refine wpAny_call_entry KTBy.slot (typeIs_int s x t) KTBy.entry ?_ (KTBy.args _ _ _)
  have hb := KTBy.bits_le (k := k) rfl h0 h1
  show wpAny _ _ (Builtin.Int.intOfSelf (.int x t) >>= fun y => _) _ _ s
  refine wpAny_bind (wpAny_of_eq (a := x) rfl ?_)
  show wpAny _ _ (Builtin.Int.intBindNamed "to_bytes" ["length", "byteorder", "signed"] 0 2 [.int (k : Int) u, .str (PySem.Str.ofString "big") v] [] >>= fun l => _) _ _ s
  refine wpAny_bind (wpAny_of_eq (a := [some (.int (k : Int) u), some (.str (PySem.Str.ofString "big") v), none]) (by kernel_rfl) ?_)
  show wpAny _ _ (Builtin.Int.intIndex "int.to_bytes" (.int (k : Int) u) >>= fun n => _) _ _ s
  refine wpAny_bind (wpAny_of_eq (a := (k : Int)) rfl ?_)
  refine KTBy.if_not (by show (decide ((k : Int) < -(2 ^ 63 : Int)) || decide ((k : Int) ≥ 2 ^ 63)) = false; rw [decide_eq_false (show ¬ ((k : Int) < -(2 ^ 63 : Int)) by omega), decide_eq_false (show ¬ ((k : Int) ≥ 2 ^ 63) by omega)]; rfl) ?_
  refine wpAny_bind (wpAny_of_eq (a := PySem.Str.ofString "big") (by kernel_rfl) ?_)
  refine wpAny_bind (wpAny_of_eq (a := false) rfl ?_)
  refine wpAny_bind (wpAny_of_eq (a := false) (by kernel_rfl) ?_)
  refine wpAny_ite_false (decide_eq_false (show ¬ ((k : Int) < 0) by omega)) ?_
  refine wpAny_ite_false (decide_eq_false (show ¬ ((k : Int) > 2 ^ 63 - 1 - 33) by omega)) ?_
  refine wpAny_ite_false (decide_eq_false (show ¬ ((k : Int) > (sizeLine : Int)) by rw [sizeLine_eq]; omega)) ?_
  refine KTBy.if_not (by show (decide (x < 0) && !false) = false; rw [decide_eq_false (show ¬ x < 0 by omega)]; rfl) ?_
  refine KTBy.if_not (by show (_ && decide ((Builtin.Int.intBits x : Int) > 8 * (k : Int))) = false; rw [decide_eq_false (show ¬ ((Builtin.Int.intBits x : Int) > 8 * (k : Int)) by omega), Bool.and_false]) ?_
  refine wpAny_bind (wpAny_mkBytes (wpAny_pure ⟨_, rfl, h _ _⟩) (by show (List.reverse (KTBy.low x (Int.toNat (k : Int)))).length ≤ sizeLine; rw [List.length_reverse, KTBy.low_length, Int.toNat_natCast, sizeLine_eq]; omega))
end

/-- what a hash of one number is reckoned from -/
def lawN (b : Array UInt8) : Int := KFB.value (KBw.bInts (#[1] ++ b)) * 210306068529402873165736369884012333109 + b.size
def lawM (k : Nat) : Int := (256 : Int) ^ k - 59
@[irreducible] def lawSum (b : Array UInt8) (k : Nat) : Array UInt8 := (KTBy.low ((lawN b).fmod (lawM k)) k).reverse.toArray
theorem lawSum_eq (b : Array UInt8) (k : Nat) : lawSum b k = (KTBy.low ((lawN b).fmod (lawM k)) k).reverse.toArray := by unfold lawSum; rfl
theorem lawSum_size (b : Array UInt8) (k : Nat) : (lawSum b k).size = k := by
  unfold lawSum
  rw [List.size_toArray, List.length_reverse, KTBy.low_length]


theorem value_bits {b : Array UInt8} (_h : b.size ≤ 1000) : Builtin.Int.intBits (KFB.value (KBw.bInts b)) ≤ 8 * b.size := by
  have hv : KFB.value (KBw.bInts b) = ((b.toList.foldl (fun (acc : Nat) (b : UInt8) => acc * 256 + b.toNat) 0 : Nat) : Int) := (KFB.fold_cast b.toList 0).symm
  have h1 := KFB.fold_lt b.toList 0
  rw [Nat.zero_add, Nat.one_mul, Array.length_toList] at h1
  have e2 : (2 : Nat) ^ 8 = 256 := by decide
  refine intBits_le_iff.mpr ?_
  rw [hv, Nat.pow_mul, e2, Int.natAbs_natCast]
  exact h1
theorem mul_ok_value {b : Array UInt8} (h : b.size ≤ 1000) : IntMulOk (KFB.value (KBw.bInts b)) 210306068529402873165736369884012333109 :=
  mulOk_of_bits (value_bits h) (intBits_le_iff.mpr (show (210306068529402873165736369884012333109 : Int).natAbs < 2 ^ 128 by decide)) (by omega)
theorem lawM_pos {k : Nat} (h : 1 ≤ k) : 0 < (256 : Int) ^ k - 59 := by
  obtain ⟨j, rfl⟩ : ∃ j, k = j + 1 := ⟨k - 1, by omega⟩
  have h1 : (1 : Int) ≤ 256 ^ j := Int.pow_pos (by decide)
  rw [Int.pow_succ]
  omega
theorem lawM_ne {n : Int} (h : 1 ≤ n) : (256 : Int) ^ n.toNat - 59 ≠ 0 := by
  have := lawM_pos (k := n.toNat) (by omega)
  omega
section
variable {prog : Program} {w : World} {M : Model} {A : Around} {E : Value → Shared → Prop} {s : Shared}
theorem tb_law {b : Array UInt8} {n : Int} {t u v : Tok} {Q : Value → Shared → Prop} (h1 : 1 ≤ n) (h2 : n ≤ 1000) (h : ∀ t' k', Q (.bytes (lawSum b n.toNat) t') { s with toks := k' }) :
    wpAny (model prog w) A (call (.builtin "int.to_bytes") [.int ((KFB.value (KBw.bInts (#[1] ++ b)) * 210306068529402873165736369884012333109 + (b.size : Int)).fmod ((256 : Int) ^ n.toNat - 59)) t, .int n u, .str (PySem.Str.ofString "big") v]) Q E s := by
  obtain ⟨k, rfl⟩ := Int.eq_ofNat_of_zero_le (show (0 : Int) ≤ n by omega)
  have hp := lawM_pos (k := k) (by omega)
  have f := (fdiv_fmod_facts (KFB.value (KBw.bInts (#[1] ++ b)) * 210306068529402873165736369884012333109 + (b.size : Int)) ((256 : Int) ^ k - 59)).2.2.1 hp
  refine tb_big (k := k) (by omega) f.1 ?_ (fun t' k' => ?_)
  · have := f.2
    show (KFB.value (KBw.bInts (#[1] ++ b)) * 210306068529402873165736369884012333109 + (b.size : Int)).fmod ((256 : Int) ^ k - 59) < (256 : Int) ^ k
    omega
  · have h' := h t' k'
    rw [lawSum_eq] at h'
    exact h'
end
end Mine
namespace Mine
theorem fillUp0 : (fun (_ : OpenLaw) (_ : Params → Frag) => True) PySem.Challenge.rw_aj5026_01 Mine.K := by
  k_fill
  trivial

def SumTells (prog : Program) (w : World) (p : Program) (loose : List Str) (mean : ExcName → Option Value) (mg mb : Str → Option Value) : Prop :=
  ∀ (dp un : Nat) (gd : Option (List Code)) (cn : Str) (cs : Scope) (a : Addr) (ccd : Value) (cl : List (Str × Addr)) (outer : List Env) (A₀ : Around) (base h₀ : Heap) (L : Addr) (m : Str → Option Value) (news : List (Addr × Obj)) (s : Shared) (b : Array UInt8) (tb : Tok) (n : Int) (tn : Tok)
    (Q E : Value → Shared → Prop),
    Below A₀ base outer h₀ → Fr h₀ L s.heap m → (Mine.K w.params).In h₀ → News h₀ L s.heap news → Top p loose mean mg mb h₀ → cs.kind = .function → b.size ≤ 64 → 1 ≤ n → n ≤ 41 → dp + 1 < recursionLimit → un + 8 < cLine →
    (∀ t h' tk', Fr h₀ L h' m → News h₀ L h' news → Q (.bytes (lawSum b n.toNat) t) { s with heap := h', toks := tk' }) →
    wpAny (model prog w) (ktrTop dp un gd cn cs L a ccd cl outer) (call (.ref 302) [.bytes b tb, .int n tn]) Q E s
local macro_rules | `(tactic| walk_at "binaryOp Add bytes bytes") => `(tactic| (k_here; refine KBy.add_bytes ?sz ?_; (case sz => (show (1 : Nat) + _ ≤ _); omega); intro _ _))
local macro_rules | `(tactic| walk_at "call ref") => `(tactic| (k_here; (with_reducible show wpAny _ _ (call (Value.ref _) [Value.bytes _ _, Value.str _ _]) _ _ _); refine call_big (by k_asm) (by k_mem) (by (simp only [Array.size_append, List.size_toArray, List.length_cons, List.length_nil]); omega) ?_; intro _ _))
local macro_rules | `(tactic| walk_at "binaryOp Mult int int") => `(tactic| (k_here; refine mul_int ?_ (mul_ok_value (by (simp only [Array.size_append, List.size_toArray, List.length_cons, List.length_nil]); omega))))
local macro_rules | `(tactic| walk_at "binaryOp Mod int int") => `(tactic| (k_here; refine mod_int' (lawM_ne (by assumption)) ?_))
local macro_rules | `(tactic| walk_at "call builtin:int.to_bytes") => `(tactic| (k_here; refine tb_law (by assumption) (by omega) ?_; intro _ _))
set_option maxRecDepth 100000 in
set_option maxHeartbeats 8000000 in
theorem sumTells {w : World} {p : Program} {loose : List Str} {mean : ExcName → Option Value} {mg mb : Str → Option Value} : SumTells PySem.Challenge.pw_aj5026_01 w p loose mean mg mb := by
  unfold SumTells
  intro dp un gd cn cs a ccd cl outer A₀ base h₀ L m news s b tb n tn Q E B F X N T hk hb hn0 hn1 hd hu hret
  refine wpAny_call ?_
  k_dflt cell_enter
  k_steps
  all_goals (rename News _ _ _ _ => nE; exact hret _ _ _ (by k_asm) (fun p hp => nE p (List.mem_cons_of_mem _ hp)))
theorem sum_use {w : World} {p : Program} {loose : List Str} {mean : ExcName → Option Value} {mg mb : Str → Option Value} {dp un : Nat} {gd : Option (List Code)} {cn : Str} {cs : Scope} {a : Addr} {ccd : Value} {cl : List (Str × Addr)} {outer : List Env} {A₀ : Around} {base h₀ : Heap} {L : Addr} {m : Str → Option Value} {news : List (Addr × Obj)} {s : Shared} {b : Array UInt8} {tb : Tok} {n : Int} {tn : Tok}
    {Q E : Value → Shared → Prop} (B : Below A₀ base outer h₀) (F : Fr h₀ L s.heap m) (X : (Mine.K w.params).In h₀) (N : News h₀ L s.heap news) (T : Top p loose mean mg mb h₀) (hk : cs.kind = .function) (hb : b.size ≤ 64) (h0 : 1 ≤ n) (h1 : n ≤ 41) (hd : dp + 1 < recursionLimit) (hu : un + 8 < cLine)
    (ret : ∀ b' t h' tk', b' = lawSum b n.toNat → (b'.size : Int) = n → Fr h₀ L h' m → News h₀ L h' news → Q (.bytes b' t) { s with heap := h', toks := tk' }) :
    wpAny (model PySem.Challenge.pw_aj5026_01 w) (ktrTop dp un gd cn cs L a ccd cl outer) (call (.ref 302) [.bytes b tb, .int n tn]) Q E s :=
  sumTells _ _ _ _ _ _ _ _ _ _ _ _ _ _ _ _ _ _ _ _ _ _ B F X N T hk hb h0 h1 hd hu fun t h' tk' => ret _ t h' tk' rfl (by rw [lawSum_size]; omega)
end Mine

end
section
open PySem PySem.Spec PySem.Calls PySem.W PyProof.Rows
set_option Elab.async false
namespace Mine
theorem fillUp2 : (fun (_ : OpenLaw) (_ : Params → Frag) => True) PySem.Challenge.rw_aj5026_01 Mine.K := by
  k_fill
  trivial
theorem drop3 {α : Type} {p a b c : α} {l : List α} (h : p ∈ a :: b :: l) : p ∈ a :: b :: c :: l := by
  simp only [List.mem_cons] at h ⊢
  rcases h with h | h | h
  · exact .inl h
  · exact .inr (.inl h)
  · exact .inr (.inr (.inr h))
def HandTells (w : World) (p : Program) (loose : List Str) (mean : ExcName → Option Value) (mg mb : Str → Option Value) : Prop :=
  ∀ (dp un : Nat) (gd : Option (List Code)) (cn : Str) (cs : Scope) (a : Addr) (ccd : Value) (cl : List (Str × Addr)) (outer : List Env) (A₀ : Around) (base h₀ : Heap) (L : Addr) (m : Str → Option Value) (news : List (Addr × Obj)) (s : Shared) (u d c sz bl : Value)
    (Q E : Value → Shared → Prop),
    Below A₀ base outer h₀ → Fr h₀ L s.heap m → (Mine.K w.params).In h₀ → News h₀ L s.heap news → Top p loose mean mg mb h₀ → cs.kind = .function → dp + 1 < recursionLimit → un + 20 < cLine →
    (∀ x dx h' tk', Fr h₀ L h' m → News h₀ L h' ((x, handObj u d c sz bl dx) :: (dx, emptyDict) :: news) → (∀ q ∈ news, q.1 < dx) → @LT.lt Nat _ dx x → Q (.ref x) { s with heap := h', toks := tk' }) →
    wpAny (model PySem.Challenge.pw_aj5026_01 w) (ktrTop dp un gd cn cs L a ccd cl outer) (call (.ref 285) [u, d, c, sz, bl]) Q E s
local macro_rules | `(tactic| walk_at "getMethod type:tuple") => `(tactic| (k_here; refine' method_type ?F ?X ?m (by decide +kernel) ?e ?h ?_; (case F => k_asm); (case X => k_asm); (case m => first | rfl | kernel_rfl); (case e => k_dflt k_is); (case h => k_handed)))
local macro_rules | `(tactic| cell_enter) => `(tactic| (refine' code_def ?k1 ?k2 ?k3 ?k4 ?k5 ?kA ?kF ?kK ?k6 ?k7 ?k8 ?k9 ?kB ?_ ?c2 ?c3 ?c4 ?c5; (case kA => exact rfl); (case kF => exact rfl); (case kK => first | assumption | exact rfl); (case k1 => k_asm); (case k2 => k_asm); (case k3 => k_asm); (case k4 => k_asm); (case k5 => k_asm); (case k6 => k_is); (case k7 => k_is); (case k8 => ktr_room); (case k9 => first | exact BindsTo.of_eq rfl | exact binds_K (by k_in) rfl (by k_is) rfl rfl rfl); (case c5 => decide); (case kB => exact locs rfl); (case c2 => exact rfl); (case c3 => exact rfl); (case c4 => exact rfl); k_whole; intro g' L' h' FG' F' N' B' X' T'; (try dsimp only); (try k_lift B'); (try k_fold)))
local macro_rules | `(tactic| walk_at "call builtin:tuple.__new__") => `(tactic| (k_here; k_dflt (refine' tuple_new (K := Mine.K _) (C := 285) ?F ?N ?X ?m ?t ?c ?d ?z ?_; (case F => k_asm); (case N => k_asm); (case X => k_asm); (case m => kernel_rfl); (case t => exact News.get (by k_asm) (by k_mem)); (case c => rfl); (case d => rfl); (case z => exact Nat.le_of_ble_eq_true rfl)); intro x' dx' h' F' N' l1 l2; (try k_lt l1); (try k_lt2 l2)))
set_option maxRecDepth 100000 in
set_option maxHeartbeats 8000000 in
theorem hand_made {w : World} {p : Program} {loose : List Str} {mean : ExcName → Option Value} {mg mb : Str → Option Value} : HandTells w p loose mean mg mb := by
  unfold HandTells
  intro dp un gd cn cs a ccd cl outer A₀ base h₀ L m news s u d c sz bl Q E B F X N T hk hd hu hret
  refine wpAny_call ?_
  k_dflt (refine' make_new (K := Mine.K w.params) (C := 285) (f := 226) (p := 286) F X (by kernel_rfl) ?a ?b ?c ?d (by k_handed) ?_; (case a => k_is); (case b => k_is); (case c => k_is); (case d => k_is))
  k_dflt cell_enter
  k_steps
  all_goals (
    rename News _ _ _ _ => nE
    rename _ ∧ AllLt _ _ => lE
    exact ⟨_, _, rfl, (nE _ (.head _)).1, rfl, Frag.In.keeps (by k_asm) (Fr.keep (by k_asm)), hret _ _ _ _ (by k_asm) (fun p hp => nE p (drop3 hp)) (kst_ltOf lE.2) (by assumption)⟩)

set_option maxRecDepth 100000 in
theorem hand_digest {w : World} {p : Program} {loose : List Str} {mean : ExcName → Option Value} {mg mb : Str → Option Value} {dp un : Nat} {gd : Option (List Code)} {cn : Str} {cs : Scope} {a : Addr} {ccd : Value} {cl : List (Str × Addr)} {outer : List Env} {A₀ : Around} {base h₀ : Heap} {L : Addr} {m : Str → Option Value} {news : List (Addr × Obj)} {s : Shared} {x dx : Addr} {u d c sz bl : Value} {pl : Sem Bool} {Q : Value × List Value → Shared → Prop} {E : Value → Shared → Prop} (B : Below A₀ base outer h₀) (F : Fr h₀ L s.heap m) (X : (Mine.K w.params).In h₀) (N : News h₀ L s.heap news) (T : Top p loose mean mg mb h₀) (hk : cs.kind = .function) (hx : (x, handObj u d c sz bl dx) ∈ news) (hdx : (dx, emptyDict) ∈ news) (hd : dp + 1 < recursionLimit) (hu : un + 20 < cLine) (hh : handedIn d = true)
    (ret : ∀ h' tk', Fr h₀ L h' m → News h₀ L h' news → Q (d, []) { s with heap := h', toks := tk' }) :
    wpAny (model PySem.Challenge.pw_aj5026_01 w) (ktrTop dp un gd cn cs L a ccd cl outer) (getMethod (.ref x) (PySem.Str.ofString "digest") pl) Q E s := by
  k_dflt (refine' method_tup (K := Mine.K w.params) (C := 285) (X.keeps F.keep) (inst_seq N hx hdx) ?fg ?fs ?ff ?fk ?fa ?ft ?fn ?_)
  case fg => k_is
  case fs => kernel_rfl
  case ff => exact findObj_data (K := Mine.K w.params) (C := 285) (by kernel_rfl) (by k_is) (by k_is) (by k_is)
  case fk => k_is
  case fa => k_is
  case ft => k_is
  case fn => decide
  intro A' f1 f2 f3 f4
  obtain ⟨ha', da', fa', ga', ua'⟩ := A'
  dsimp only [ktrTop] at f1 f2 f3 f4
  subst f1 f2 f4
  exact get_digest _ _ _ _ _ _ _ _ _ _ _ _ _ _ _ _ _ _ _ _ _ _ _ _ _ B F X N T hk hx hdx hd (by omega) fun h' tk' F' N' => ⟨hh, ret h' tk' F' N'⟩

set_option maxRecDepth 100000 in
theorem hand_size {w : World} {p : Program} {loose : List Str} {mean : ExcName → Option Value} {mg mb : Str → Option Value} {dp un : Nat} {gd : Option (List Code)} {cn : Str} {cs : Scope} {a : Addr} {ccd : Value} {cl : List (Str × Addr)} {outer : List Env} {A₀ : Around} {base h₀ : Heap} {L : Addr} {m : Str → Option Value} {news : List (Addr × Obj)} {s : Shared} {x dx : Addr} {u d c sz bl : Value} {expr : Bool} {Q : Value → Shared → Prop} {E : Value → Shared → Prop} (B : Below A₀ base outer h₀) (F : Fr h₀ L s.heap m) (X : (Mine.K w.params).In h₀) (N : News h₀ L s.heap news) (T : Top p loose mean mg mb h₀) (hk : cs.kind = .function) (hx : (x, handObj u d c sz bl dx) ∈ news) (hdx : (dx, emptyDict) ∈ news) (hd : dp + 1 < recursionLimit) (hu : un + 20 < cLine) (hh : handedIn sz = true)
    (ret : ∀ h' tk', Fr h₀ L h' m → News h₀ L h' news → Q sz { s with heap := h', toks := tk' }) :
    wpAny (model PySem.Challenge.pw_aj5026_01 w) (ktrTop dp un gd cn cs L a ccd cl outer) (getAttr (.ref x) (PySem.Str.ofString "digest_size") expr) Q E s := by
  k_dflt (refine' get_tup (K := Mine.K w.params) (C := 285) (X.keeps F.keep) (inst_seq N hx hdx) ?fg ?fs ?ff ?fk ?_)
  case fg => k_is
  case fs => kernel_rfl
  case ff => exact findObj_data (K := Mine.K w.params) (C := 285) (by kernel_rfl) (by k_is) (by k_is) (by k_is)
  case fk => k_is
  skip
  intro A' f1 f2 f3 f4
  obtain ⟨ha', da', fa', ga', ua'⟩ := A'
  dsimp only [ktrTop] at f1 f2 f3 f4
  subst f1 f2 f4
  exact get_size _ _ _ _ _ _ _ _ _ _ _ _ _ _ _ _ _ _ _ _ _ _ _ _ _ B F X N T hk hx hdx hd (by omega) fun h' tk' F' N' => ⟨hh, ret h' tk' F' N'⟩

set_option maxRecDepth 100000 in
theorem hand_block {w : World} {p : Program} {loose : List Str} {mean : ExcName → Option Value} {mg mb : Str → Option Value} {dp un : Nat} {gd : Option (List Code)} {cn : Str} {cs : Scope} {a : Addr} {ccd : Value} {cl : List (Str × Addr)} {outer : List Env} {A₀ : Around} {base h₀ : Heap} {L : Addr} {m : Str → Option Value} {news : List (Addr × Obj)} {s : Shared} {x dx : Addr} {u d c sz bl : Value} {expr : Bool} {Q : Value → Shared → Prop} {E : Value → Shared → Prop} (B : Below A₀ base outer h₀) (F : Fr h₀ L s.heap m) (X : (Mine.K w.params).In h₀) (N : News h₀ L s.heap news) (T : Top p loose mean mg mb h₀) (hk : cs.kind = .function) (hx : (x, handObj u d c sz bl dx) ∈ news) (hdx : (dx, emptyDict) ∈ news) (hd : dp + 1 < recursionLimit) (hu : un + 20 < cLine) (hh : handedIn bl = true)
    (ret : ∀ h' tk', Fr h₀ L h' m → News h₀ L h' news → Q bl { s with heap := h', toks := tk' }) :
    wpAny (model PySem.Challenge.pw_aj5026_01 w) (ktrTop dp un gd cn cs L a ccd cl outer) (getAttr (.ref x) (PySem.Str.ofString "block_size") expr) Q E s := by
  k_dflt (refine' get_tup (K := Mine.K w.params) (C := 285) (X.keeps F.keep) (inst_seq N hx hdx) ?fg ?fs ?ff ?fk ?_)
  case fg => k_is
  case fs => kernel_rfl
  case ff => exact findObj_data (K := Mine.K w.params) (C := 285) (by kernel_rfl) (by k_is) (by k_is) (by k_is)
  case fk => k_is
  skip
  intro A' f1 f2 f3 f4
  obtain ⟨ha', da', fa', ga', ua'⟩ := A'
  dsimp only [ktrTop] at f1 f2 f3 f4
  subst f1 f2 f4
  exact get_block _ _ _ _ _ _ _ _ _ _ _ _ _ _ _ _ _ _ _ _ _ _ _ _ _ B F X N T hk hx hdx hd (by omega) fun h' tk' F' N' => ⟨hh, ret h' tk' F' N'⟩

theorem hand_use {w : World} {p : Program} {loose : List Str} {mean : ExcName → Option Value} {mg mb : Str → Option Value} {dp un : Nat} {gd : Option (List Code)} {cn : Str} {cs : Scope} {a : Addr} {ccd : Value} {cl : List (Str × Addr)} {outer : List Env} {A₀ : Around} {base h₀ : Heap} {L : Addr} {m : Str → Option Value} {news : List (Addr × Obj)} {s : Shared} {u d c sz bl : Value} {Q E : Value → Shared → Prop} (B : Below A₀ base outer h₀) (F : Fr h₀ L s.heap m) (X : (Mine.K w.params).In h₀) (N : News h₀ L s.heap news) (T : Top p loose mean mg mb h₀) (hk : cs.kind = .function) (hd : dp + 1 < recursionLimit) (hu : un + 20 < cLine)
    (ret : ∀ x dx h' tk', Fr h₀ L h' m → News h₀ L h' ((x, handObj u d c sz bl dx) :: (dx, emptyDict) :: news) → (∀ q ∈ news, q.1 < dx) → @LT.lt Nat _ dx x → Q (.ref x) { s with heap := h', toks := tk' }) :
    wpAny (model PySem.Challenge.pw_aj5026_01 w) (ktrTop dp un gd cn cs L a ccd cl outer) (call (.ref 285) [u, d, c, sz, bl]) Q E s :=
  hand_made _ _ _ _ _ _ _ _ _ _ _ _ _ _ _ _ _ _ _ _ _ _ _ B F X N T hk hd hu ret
end Mine

end
section
open PySem PySem.Spec PySem.Calls PySem.W PyProof.Rows
set_option Elab.async false
namespace Mine
set_option maxRecDepth 100000
theorem tit_next : typeLookup (.type "tuple_iterator") "__next__" = pure (some (.builtin "tuple_iterator.__next__")) := by rw [typeLookup_type, builtinLookup_eq_fast]; kernel_rfl
section
variable {prog : Program} {w : World} {A : Around} {E : Value → Shared → Prop} {s : Shared}
theorem draw_tuple {it t : Addr} {items : Array Value} (hne : t ≠ it) : ∀ (n i : Nat) (s : Shared) (Q : List Value → Shared → Prop), s.heap.IsTupleIter it t i → s.heap.IsTuple t items → i + n ≤ items.size →
    (∀ h', h'.IsTupleIter it t (i + n) → Heap.SameBut it s.heap h' → Q ((items.toList.drop i).take n) { s with heap := h' }) → wpAny (model prog w) A (draw (.ref it) n) Q E s
  | 0, i, s, Q, hit, _, _, hQ => by
    show wpAny _ _ (pure []) Q E s
    exact wpAny_pure (by simpa using hQ s.heap hit (Heap.SameBut.refl ..))
  | n + 1, i, s, Q, hit, hl, hle, hQ => by
    have hlt : i < items.size := by omega
    show wpAny _ _ (pyNext (.ref it) >>= _) Q E s
    refine wpAny_bind (wpAny_pyNext_tuple_item hit hl (x := items[i]) (by simp [hlt]) fun h₁ hit₁ hs₁ => ?_)
    have hl1 : h₁.IsTuple t items := by
      obtain ⟨o, ho, r⟩ := hl
      exact ⟨o, (hs₁.2 t hne).trans ho, r⟩
    refine wpAny_bind (wpAny_holding (draw_tuple hne n (i + 1) _ _ hit₁ hl1 (by omega) fun h₂ hit₂ hs₂ => wpAny_pure ?_))
    have hd : items.toList.drop i = items[i] :: items.toList.drop (i + 1) := by simp [List.drop_eq_getElem_cons, hlt]
    have := hQ h₂ (by rw [show i + (n + 1) = i + 1 + n by omega]; exact hit₂) (hs₁.trans hs₂)
    rw [hd, List.take_succ_cons] at this
    exact this
/-- what the own __iter__ must hand back: a fresh iterator over a tuple of so many items -/
def IterBack (n : Nat) (Q : List Value → Shared → Prop) (v : Value) (s : Shared) : Prop :=
  ∃ it t items, v = .ref it ∧ t ≠ it ∧ s.heap.IsTupleIter it t 0 ∧ s.heap.IsTuple t items ∧ items.size = n ∧ ∀ h', Heap.ExtBut it s.heap h' → Q items.toList { s with heap := h' }
theorem unpack_own {K : Frag} {h₀ : Heap} {L x C f : Addr} {m : Str → Option Value} {ox : Obj} {od : Option Obj} {n : Nat} {Q : List Value → Shared → Prop} (F : Fr h₀ L s.heap m) (X₀ : K.In h₀) (I : InstAt s.heap x ox C od) (hs : findIn K (.ref C) "__iter__" = some (some (.ref f))) (hf : isFn K (.ref f) = true) (hh : A.handled = none)
    (h : wpAny (model prog w) A (call (.ref f) [.ref x]) (IterBack n Q) E s) : wpAny (model prog w) A (unpackItems (.ref x) n none) Q E s := by
  have X := X₀.keeps F.keep
  unfold unpackItems
  refine wpAny_bind ?_
  unfold notIterableAtAll
  refine wpAny_bind (wpAny_bind (I.type.here ((looks_findIn X hs).here ?_)))
  refine wpAny_pure ?_
  simp only [Bool.false_eq_true, if_false]
  refine wpAny_bind (wpAny_holding (owit_iter F X₀ I hs hf (wpAny_mono h (fun v s' hv => ?_) fun _ _ z => z)))
  obtain ⟨it, t, items, rfl, hne, hit, ht, hn, hq⟩ := hv
  unfold OwitIt
  refine wpAny_bind (wpAny_typeOf hit.typeIs (wpAny_of_eq tit_next ?_))
  refine wpAny_bind (wpAny_holding (draw_tuple hne n 0 _ _ hit ht (by omega) fun h₁ hit₁ hs₁ => ?_))
  have hall : List.take n (List.drop 0 items.toList) = items.toList := by
    rw [List.drop_zero]; exact List.take_of_length_le (by simp; omega)
  rw [hall]
  rw [if_neg (by simp; omega)]
  have hl₁ : h₁.IsTuple t items := by
    obtain ⟨o, ho, r⟩ := ht
    exact ⟨o, (hs₁.2 t hne).trans ho, r⟩
  refine wpAny_bind (wpAny_holding (wpAny_pyNext_tuple_end hh hit₁ hl₁ (by simp; omega) fun h₂ he₂ => ?_))
  simp only [Option.isSome_none, Bool.false_eq_true, if_false]
  exact wpAny_pure (hq h₂ fun b o hb e => he₂ b o hb (hs₁.extBut b o hb e))
theorem assign_own {K : Frag} {h₀ : Heap} {L x C f : Addr} {m : Str → Option Value} {ox : Obj} {od : Option Obj} {n k : Nat} {elts : List PySem.Expr} {pos : Pos} {env : Env} {Q : Unit → Shared → Prop} (F : Fr h₀ L s.heap m) (X₀ : K.In h₀) (I : InstAt s.heap x ox C od) (hs : findIn K (.ref C) "__iter__" = some (some (.ref f))) (hf : isFn K (.ref f) = true) (hh : A.handled = none)
    (hn : (assignEach elts env).length = n) (hstar : (assignEach elts env).findIdx? (·.1) = none)
    (h : wpAny (model prog w) A (call (.ref f) [.ref x]) (IterBack n fun items s' => wpAny (model prog w) A (assignInOrder ((assignEach elts env).map (·.2)) items) Q E s') E s) :
    wpAny (model prog w) A (assign (.Tuple elts k pos) env (.ref x)) Q E s := by
  rw [assign_Tuple]
  refine wpAny_bind (wpAny_standAt ?_)
  unfold unpack
  rw [hn, hstar]
  exact wpAny_bind (wpAny_holding (unpack_own F X₀ I hs hf hh h))
theorem iter_back {h₀ : Heap} {L it t : Addr} {m : Str → Option Value} {news : List (Addr × Obj)} {vs : Array Value} {c n : Nat} {Q : List Value → Shared → Prop} {s' : Shared} (F : Fr h₀ L s'.heap m) (N : News h₀ L s'.heap ((it, { cls := .type "tuple_iterator", data := .fields #[.ref t, .int 0 0] }) :: news))
    (hm : (t, { cls := .type "tuple", data := .seq vs c }) ∈ news) (hlt : ∀ q ∈ news, q.1 < it) (hn : vs.size = n) (h : ∀ h', Fr h₀ L h' m → News h₀ L h' news → Q vs.toList { s' with heap := h' }) : IterBack n Q (.ref it) s' := by
  have hi := N _ (.head _)
  refine ⟨it, t, vs, rfl, Nat.ne_of_lt (hlt _ hm), ⟨_, hi.1, rfl, rfl⟩, ⟨_, (N _ (.tail _ hm)).1, rfl, c, rfl⟩, hn, fun h' he => h h' ?_ fun q hq => ?_⟩
  · exact ⟨F.ns.extBut he (Ne.symm hi.2.1), fun b o e => he b o (fun z => by rw [z, hi.2.2] at e; cases e) (F.keep b o e), F.above⟩
  · have n := N q (.tail _ hq)
    exact ⟨he _ _ (Nat.ne_of_lt (hlt q hq)) n.1, n.2⟩
theorem iter_tuple {h₀ : Heap} {L t : Addr} {m : Str → Option Value} {news : List (Addr × Obj)} {vs : Array Value} {c : Nat} {Q : Value → Shared → Prop} (F : Fr h₀ L s.heap m) (N : News h₀ L s.heap news) (hm : (t, { cls := .type "tuple", data := .seq vs c }) ∈ news)
    (h : ∀ it h', Fr h₀ L h' m → News h₀ L h' ((it, { cls := .type "tuple_iterator", data := .fields #[.ref t, .int 0 0] }) :: news) → (∀ q ∈ news, q.1 < it) → Q (.ref it) { s with heap := h' }) :
    wpAny (model prog w) A (call (.builtin "iter") [.ref t]) Q E s := by
  refine call_function_entry (by decide +kernel) (by decide +kernel) kdk_entry_iter (kdk_args_iter _) ?_
  unfold Builtin.«iter»
  refine wpAny_bind (wpAny_pure ?_)
  refine wpAny_bind (wpAny_pyIter_tuple ⟨_, (N _ hm).1, rfl, c, rfl⟩ ?_)
  exact wpAny_pure ⟨_, rfl, h _ _ (F.push _) (News.push F N _ rfl) fun q hq => Heap.lt_size (N q hq).1⟩
end
end Mine

end
section
open PySem PySem.Spec PySem.Calls PySem.W PyProof.Rows
set_option Elab.async false
namespace Mine
def lawIter (k : Nat) : Nat → Array UInt8 → Array UInt8
  | 0, b => b
  | r + 1, b => lawSum (lawIter k r b) k
abbrev blockName : Str := PySem.Str.ofString "block"
section
variable {prog : Program} {w : World} {A : Around} {E : Value → Shared → Prop} {s : Shared} {env : Env} {h₀ : Heap} {x : Str} {body : List Stmt} {Q : Flow → Shared → Prop}
theorem kstB_one (g : Str → Option Value → Option Value) (m : Str → Option Value) (l : Str) (v : Value) : (fun y => g y (kstB m [(l, v)] y)) = fun y => g y (if y = l then some v else m y) := by
  funext y
  congr 1
theorem rounds_loop {l : Str} {kk : Nat} {b0 : Array UInt8} {t0 : Tok} {r : Addr} {R : Int} {t₀ u₀ v₀ : Tok} {m₀ : Str → Option Value} {news : List (Addr × Obj)}
    (hh : A.handled = none) (hr : IsRange s.heap r 0 R 1 t₀ u₀ v₀) (h1 : 1 ≤ R) (h2 : R ≤ 12) (F : Fr h₀ env.locals s.heap m₀) (N : News h₀ env.locals s.heap news) (hm : m₀ l = some (.bytes b0 t0)) (hb : b0.size ≤ 64)
    (turn : ∀ (b : Array UInt8) (tb : Tok) (pre : List Int) (k : Int) (t : Tok) (u : Str → Option Value) h tk own, b = lawIter kk pre.length b0 → b.size ≤ 64 → OwnOff own (news.map (·.1)) →
      Fr h₀ env.locals h (fun y => if y = x then some (.int k t) else if y = l then some (.bytes b tb) else m₀ y) → News h₀ env.locals h (news ++ own) →
      wpAny (model prog w) A (execs body env) (InvPostN h₀ env.locals (KstS (σ := Array UInt8 × Nat) (fun _ => news) (fun c => [(l, .bytes c.1 c.2)]) (fun _ => True) x [] m₀ (fun pre c => c.1 = lawIter kk pre.length b0 ∧ c.1.size ≤ 64) (pre ++ [k])) own (news.map (·.1)) { s with heap := h, toks := tk } Q) E { s with heap := h, toks := tk })
    (done : ∀ (b : Array UInt8) (tb : Tok) (u : Str → Option Value) h tk, b = lawIter kk R.toNat b0 → b.size ≤ 64 → Fr h₀ env.locals h (fun y => if y = x then u y else if y = l then some (.bytes b tb) else m₀ y) → News h₀ env.locals h news → Q .next { s with heap := h, toks := tk }) :
    wpAny (model prog w) A (pyIter (.ref r)) (fun it s₂ => LoopAtV prog w A h₀ env x body Q E it s₂) E s := by
  refine kst_range (σ := Array UInt8 × Nat) (n := R.toNat) (fun _ => news) (fun c => [(l, .bytes c.1 c.2)]) (fun _ => True) [] (fun pre c => c.1 = lawIter kk pre.length b0 ∧ c.1.size ≤ 64) (b0, t0) hh hr
    (small_one (by omega) (by omega) (by omega) (by omega)) ?_ F N trivial ?_ ⟨rfl, hb⟩ ?_ ?_
  · have e : R = 0 + ((R.toNat : Nat) : Int) := by omega
    have := rangeSize_nat 0 R
    simpa using this
  · intro p hp
    cases hp with
    | head => exact hm
    | tail _ h => cases h
  · rintro ⟨b, tb⟩ pre k t u h tk own _ _ hoff _ ⟨hp1, hp2⟩ F1 N1
    exact turn b tb pre k t u h tk own hp1 hp2 hoff (kstB_one (fun z r => if z = x then some (.int k t) else r) _ _ _ ▸ F1) N1
  · rintro ⟨b, tb⟩ u h tk _ ⟨hp1, hp2⟩ F1 N1
    rw [rangeKs_length] at hp1
    exact done b tb u h tk hp1 hp2 (kstB_one (fun z r => if z = x then u z else r) _ _ _ ▸ F1) N1
/-- a turn's end -/
theorem rounds_end {l : Str} {kk : Nat} {b0 b : Array UInt8} {tb : Tok} {m₀ m' : Str → Option Value} {news news' own : List (Addr × Obj)} {pre : List Int} {k : Int} {L : Addr} {s₁ : Shared} {h' : Heap} {tk : Nat}
    (F : Fr h₀ L h' m') (N : News h₀ L h' news') (hn : ∀ p ∈ news, p ∈ news') (ho : ∀ p ∈ own, p ∈ news') (hk : m' l = some (.bytes b tb)) (hr : ∀ z, z ≠ x → z ≠ l → m' z = m₀ z) (hp : b = lawSum (lawIter kk pre.length b0) kk) (hs : b.size ≤ 64) :
    InvEndN h₀ L (KstS (σ := Array UInt8 × Nat) (fun _ => news) (fun c => [(l, .bytes c.1 c.2)]) (fun _ => True) x [] m₀ (fun pre c => c.1 = lawIter kk pre.length b0 ∧ c.1.size ≤ 64) (pre ++ [k])) own (news.map (·.1)) s₁ { s₁ with heap := h', toks := tk } := by
  refine kst_end (b, tb) F N hn ho rfl trivial ?_ (fun z h1 h2 _ => hr z h1 (h2 _ (.head _))) ⟨?_, hs⟩
  · intro p hp
    cases hp with
    | head => exact hk
    | tail _ h => cases h
  · show b = lawIter kk (pre ++ [k]).length b0
    rw [List.length_append]
    exact hp
end
end Mine

end
section
open PySem PySem.Spec PySem.Calls PySem.W PyProof.Rows
set_option Elab.async false
namespace Mine
section
variable {prog : Program} {w : World} {A : Around} {E : Value → Shared → Prop} {s : Shared} {value slice : PySem.Expr} {b : Array UInt8} {t : Tok} {h₀ : Heap} {L : Addr} {m : PySem.Str → Option Value} {news : List (Addr × Obj)} {l u : Value} {lo hi : Option Int} {Q : Value → Shared → Prop}
/-- a cut of bytes, as a fresh value with its equation -/
theorem slice_b (hF : Fr h₀ L s.heap m) (hN : News h₀ L s.heap news) (hl : IsPart l lo) (hu : IsPart u hi) (hz : b.size ≤ 64)
    (h : ∀ h' d t' k, d = KBy.picked b lo hi → Fr h₀ L h' m → News h₀ L h' news → Q (.bytes d t') { s with heap := h', toks := k })
    (hs : subscripted slice false (.bytes b t) (.ref s.heap.objs.size) = operate [.ref s.heap.objs.size, .bytes b t] (getItem (.bytes b t) (.ref s.heap.objs.size)))
    (ht : ∀ r, letTemporaryGo value (.bytes b t) r = pure ()) :
    wpAny (model prog w) A (subscriptTail value slice (.bytes b t) (.ref s.heap.objs.size)) Q E { s with heap := s.heap.push { cls := .type "slice", data := .fields #[l, u, .none] } } :=
  KBc.slice_K hF hN rfl hl hu (by rw [KBw.ints_length]; omega) (fun h' t' k F N _ => h h' _ t' k rfl F N) hs ht
end
/-- the first k bytes -/
theorem picked_to (b : Array UInt8) {k : Int} (h0 : 0 ≤ k) : KBy.picked b none (some k) = (b.toList.take k.toNat).toArray := by
  obtain ⟨n, rfl⟩ := Int.eq_ofNat_of_zero_le h0
  rw [KBc.picked_eq]
  simp only [Option.elim, clipAt_nat, List.drop_zero, Nat.sub_zero, Int.toNat_natCast]
  congr 1
  rw [List.take_eq_take_iff]
  simp
theorem picked_from (b : Array UInt8) {k : Int} (h0 : 0 ≤ k) : KBy.picked b (some k) none = (b.toList.drop k.toNat).toArray := by
  obtain ⟨n, rfl⟩ := Int.eq_ofNat_of_zero_le h0
  rw [KBc.picked_eq]
  simp only [Option.elim, clipAt_nat, Int.toNat_natCast]
  congr 1
  rw [List.take_of_length_le (by simp)]
  by_cases hn : n ≤ b.size
  · rw [Nat.min_eq_left hn]
  · rw [Nat.min_eq_right (by omega), List.drop_of_length_le (by simp), List.drop_of_length_le (by simp; omega)]
end Mine

end
section
open PySem PySem.Spec PySem.Calls PySem.W PyProof.Rows
set_option Elab.async false
namespace Mine
theorem methodCall_at {M : Model} {A : Around} {E : Value → Shared → Prop} {s : Shared} {Q : Value → Shared → Prop} {x : PySem.Expr} {n name : Str} {p1 p3 p4 p5 : Pos} {env : Env} {pl : Sem Bool} (hp : (p4.endLine == p5.line) = true)
    (h : wpAny M A (eval (.Call (.Name n p1) [x] [] p3) env) (fun ov s₁ => wpAny M A (getMethod ov name pl) (fun fx s₂ => wpAny M A (callWith p5 fx.1 fx.2 (backTo p5 (starEach [] env)) []) Q E s₂) E s₁) E s)
    (hpl : pl = (do return (← importBound (.Call (.Name n p1) [x] [] p3) env).getD true)) : wpAny M A (eval (.Call (.Attribute (.Call (.Name n p1) [x] [] p3) name p4) [] [] p5) env) Q E s := by
  refine MethodCall_ h ?_
  have e1 : methodCallPos true (.Call (.Name n p1) [x] [] p3) env p4 p5 = pure p5 := by
    unfold methodCallPos
    rw [hp]
    rfl
  subst hpl
  show (eval (.Call (.Name n p1) [x] [] p3) env >>= fun ov => standAt p4.atName >>= fun _ => (holding [ov] (getMethod ov name (do return (← importBound (.Call (.Name n p1) [x] [] p3) env).getD true)) >>= fun y => methodCallPos true (.Call (.Name n p1) [x] [] p3) env p4 p5 >>= fun cp => callWith cp y.1 y.2 (backTo p5 (starEach [] env)) [])) = _
  rw [e1]
  simp only [pure_bind]
end Mine

end
section
open PySem PySem.Spec PySem.Calls PySem.W PyProof.Rows
set_option Elab.async false
namespace Mine
theorem fillUp5 : (fun (_ : OpenLaw) (_ : Params → Frag) => True) PySem.Challenge.rw_aj5026_01 Mine.K := by
  k_fill
  trivial
local macro_rules | `(tactic| k_in) => `(tactic| (refine' Frag.In.keeps ?x (Fr.keep ?f); (case f => k_asm); (case x => k_asm)))
theorem lawIter_zero (k : Nat) (b : Array UInt8) : lawIter k 0 b = b := rfl
theorem lawIter_succ (k r : Nat) (b : Array UInt8) : lawIter k (r + 1) b = lawSum (lawIter k r b) k := rfl
theorem lawIter_add (k r : Nat) (b : Array UInt8) : ∀ q, lawIter k (r + q) b = lawIter k q (lawIter k r b)
  | 0 => by rw [Nat.add_zero, lawIter_zero]
  | q + 1 => by rw [← Nat.add_assoc, lawIter_succ, lawIter_succ, lawIter_add k r b q]
theorem lawIter_size (k r : Nat) (b : Array UInt8) (h : 1 ≤ r) : (lawIter k r b).size = k := by
  obtain ⟨q, rfl⟩ : ∃ q, r = q + 1 := ⟨r - 1, by omega⟩
  rw [lawIter_succ, lawSum_size]

/-- what «const(block).digest()» gives, in a frame whose names const and block are plain locals, over any ledger that has the entries -/
def HashSpec (w : World) (p : Program) (loose : List Str) (mean : ExcName → Option Value) (mg mb : Str → Option Value) (need : List (Addr × Obj)) (f : Addr) (n : Int) : Prop :=
  ∀ (dp un : Nat) (gd : Option (List Code)) (cn : Str) (cs : Scope) (a : Addr) (ccd : Value) (cl : List (Str × Addr)) (outer : List Env) (A₀ : Around) (base h₀ : Heap) (L : Addr) (m : Str → Option Value) (news : List (Addr × Obj)) (s : Shared) (b : Array UInt8) (t : Tok) (p1 p2 p3 p4 p5 : Pos)
    (Q E : Value → Shared → Prop),
    Below A₀ base outer h₀ → Fr h₀ L s.heap m → (Mine.K w.params).In h₀ → News h₀ L s.heap news → Top p loose mean mg mb h₀ → cs.kind = .function → (∀ q ∈ need, q ∈ news) → b.size ≤ 64 → dp + 4 < recursionLimit → un + 40 < cLine →
    (p4.endLine == p5.line) = true → (envX cn cs L a ccd cl).kindOf (PySem.Str.ofString "const") = some .local → (envX cn cs L a ccd cl).kindOf (PySem.Str.ofString "block") = some .local → m (PySem.Str.ofString "const") = some (.ref f) → m (PySem.Str.ofString "block") = some (.bytes b t) →
    (∀ b' t h' tk', b' = lawSum b n.toNat → (b'.size : Int) = n → Fr h₀ L h' m → News h₀ L h' news → Q (.bytes b' t) { s with heap := h', toks := tk' }) →
    wpAny (model PySem.Challenge.pw_aj5026_01 w) (ktrTop dp un gd cn cs L a ccd cl outer)
      (eval (PySem.Expr.Call (PySem.Expr.Attribute (PySem.Expr.Call (PySem.Expr.Name (PySem.Str.ofString "const") p1) [PySem.Expr.Name (PySem.Str.ofString "block") p2] [] p3) (PySem.Str.ofString "digest") p4) [] [] p5) (envX cn cs L a ccd cl)) Q E s

abbrev infoObj (h1 h2 h3 h4 h5 h6 : Int) (t1 t2 t3 t4 t5 t6 : Tok) (v1 v2 v3 : Value) (f : Addr) (n bl : Int) (tn tb : Tok) : Obj :=
  dictOf [⟨h1, .str (PySem.Str.ofString "name") t1, v1⟩, ⟨h2, .str (PySem.Str.ofString "iana_name") t2, v2⟩, ⟨h3, .str (PySem.Str.ofString "aliases") t3, v3⟩, ⟨h4, .str (PySem.Str.ofString "const") t4, .ref f⟩, ⟨h5, .str (PySem.Str.ofString "digest_size") t5, .int n tn⟩, ⟨h6, .str (PySem.Str.ofString "block_size") t6, .int bl tb⟩] 6

def PbkTells (w : World) (p : Program) (loose : List Str) (mean : ExcName → Option Value) (mg mb : Str → Option Value) (need : List (Addr × Obj)) (f : Addr) (n : Int) : Prop :=
  ∀ (dp un : Nat) (gd : Option (List Code)) (cn : Str) (cs : Scope) (a : Addr) (ccd : Value) (cl : List (Str × Addr)) (outer : List Env) (A₀ : Around) (base h₀ : Heap) (L : Addr) (m : Str → Option Value) (news : List (Addr × Obj)) (s : Shared)
    (ix dx : Addr) (h1 h2 h3 h4 h5 h6 : Int) (t1 t2 t3 t4 t5 t6 : Tok) (v1 v2 v3 : Value) (bl : Int) (tn tb : Tok) (b1 b2 : Array UInt8) (u1 u2 : Tok) (r : Int) (tr : Tok)
    (Q E : Value → Shared → Prop),
    Below A₀ base outer h₀ → Fr h₀ L s.heap m → (Mine.K w.params).In h₀ → News h₀ L s.heap news → Top p loose mean mg mb h₀ → cs.kind = .function → (∀ q ∈ need, q ∈ news) → (ix, instObj 155 dx) ∈ news → (dx, infoObj h1 h2 h3 h4 h5 h6 t1 t2 t3 t4 t5 t6 v1 v2 v3 f n bl tn tb) ∈ news →
    b1.size + b2.size ≤ 40 → 1 ≤ r → r ≤ 12 → 1 ≤ n → n ≤ 41 → dp + 10 < recursionLimit → un + 80 < cLine →
    (∀ b' t h' tk', b' = lawIter n.toNat r.toNat (b1 ++ b2) → (b'.size : Int) = n → Fr h₀ L h' m → News h₀ L h' news → Q (.bytes b' t) { s with heap := h', toks := tk' }) →
    wpAny (model PySem.Challenge.pw_aj5026_01 w) (ktrTop dp un gd cn cs L a ccd cl outer) (call (.ref 165) [.ref ix, .bytes b1 u1, .bytes b2 u2, .int r tr]) Q E s
local macro_rules | `(tactic| cell_enter) => `(tactic| (refine' code_def ?k1 ?k2 ?k3 ?k4 ?k5 ?kA ?kF ?kK ?k6 ?k7 ?k8 ?k9 ?kB ?_ ?c2 ?c3 ?c4 ?c5; (case kA => exact rfl); (case kF => exact rfl); (case kK => first | assumption | exact rfl); (case k1 => k_asm); (case k2 => k_asm); (case k3 => k_asm); (case k4 => k_asm); (case k5 => k_asm); (case k6 => k_is); (case k7 => k_is); (case k8 => ktr_room); (case k9 => first | exact BindsTo.of_eq rfl | exact binds_K (by k_in) rfl (by k_is) rfl rfl rfl); (case c5 => decide); (case kB => exact locs rfl); (case c2 => exact rfl); (case c3 => exact rfl); (case c4 => exact rfl); k_whole; intro g' L' h' FG' F' N' B' X' T'; (try dsimp only); (try k_lift B'); (try k_fold)))
local macro_rules | `(tactic| ktr_units) => `(tactic| ((have hcL9 := cLine_is); (try simp only [units_under_make, units_in1, units_deeper, Around.mark_units, units_caller]); (try dsimp only [ktrTop]); omega))
local macro_rules | `(tactic| walk_at "assign Tuple cons ref") => `(tactic| (k_here; k_dflt (refine' assign_own (K := Mine.K _) (C := 155) ?F ?X ?I ?s ?f ?h ?n ?t ?_; (case F => k_asm); (case X => k_asm); (case I => exact InstAt.of_news (by k_asm) (by k_mem) (by k_mem)); (case s => k_is); (case f => kernel_rfl); (case h => exact rfl); (case n => exact rfl); (case t => exact rfl))))
local macro_rules | `(tactic| walk_at "call builtin:iter") => `(tactic| (k_here; k_dflt (refine' iter_tuple ?F ?N ?m ?_; (case F => k_asm); (case N => k_asm); (case m => k_mem)); intro it' h' F' N' l1; (try k_lt l1)))
local macro_rules | `(tactic| walk_at "IterBack") => `(tactic| (k_dflt (refine' iter_back ?F ?N ?m ?l ?n ?_; (case F => k_asm); (case N => k_asm); (case m => k_mem); (case l => (repeat (first | assumption | exact kst_ltOf (by assumption) | k_all))); (case n => exact rfl)); intro h' F' N'; (try dsimp only)))
theorem add_b {prog : Program} {w : World} {A : Around} {E : Value → Shared → Prop} {s : Shared} {b c : Array UInt8} {t u : Tok} {Q : Value → Shared → Prop} (hsz : b.size + c.size ≤ 40) (h : ∀ d t' k, d = b ++ c → d.size = b.size + c.size → Q (.bytes d t') { s with toks := k }) : wpAny (model prog w) A (binaryOp .Add (.bytes b t) (.bytes c u)) Q E s :=
  KBy.add_bytes (by omega) fun t' k => h _ t' k rfl Array.size_append
local macro_rules | `(tactic| walk_at "binaryOp Add bytes bytes") => `(tactic| (k_here; refine add_b (by first | assumption | omega) ?_; intro d9 t9 k9 hd9 hz9))
local macro_rules | `(tactic| walk_at "exec For Name Call cons nil") => `(tactic| (k_here; (rename Fr _ _ _ _ => lF'); (with_unfolding_all refine' For_invVF lF' ?k1 ?k2 ?_; (case k1 => exact rfl); (case k2 => exact rfl); k_whole)))
local macro_rules | `(tactic| k_room) => `(tactic| ktr_room)
local macro_rules | `(tactic| k_units) => `(tactic| ktr_units)

abbrev kkOf {w : World} {p : Program} {loose : List Str} {mean : ExcName → Option Value} {mg mb : Str → Option Value} {need : List (Addr × Obj)} {f : Addr} {n : Int} (_ : HashSpec w p loose mean mg mb need f n) : Nat := n.toNat
theorem rounds_step {k l : Nat} {b b' b0 : Array UInt8} (h1 : b' = lawSum b k) (h2 : b = lawIter k l b0) : b' = lawSum (lawIter k l b0) k := by rw [h1, h2]
def NeedIn (need news : List (Addr × Obj)) : Prop := ∀ q ∈ need, q ∈ news
local macro_rules | `(tactic| walk_at "subscriptTail") => `(tactic| (k_here; (try dsimp only); (with_reducible show wpAny _ _ (subscriptTail _ (PySem.Expr.Slice _ _ none _) (Value.bytes _ _) (Value.ref _)) _ _ _); (rename Fr _ _ _ _ => F'); (rename News _ _ _ _ => N'); (refine slice_b (s := ⟨_, _, _, _, _⟩) F' N' (by constructor) (by constructor) (by first | assumption | omega) ?_ (by with_unfolding_all rfl) (by intro _; with_unfolding_all rfl)); intro h9 d9 t9 k9 hd9 F9 N9))
local macro_rules | `(tactic| walk_at "pyIter ref") => `(tactic| ((with_reducible show wpAny _ _ (pyIter (Value.ref _)) (fun it s₂ => LoopAtV _ _ _ _ _ _ _ _ _ it s₂) _ _); k_here; k_dflt ((rename Fr _ _ _ _ => lF'); (rename News _ _ _ _ => lN'); (rename IsRange _ _ _ _ _ _ _ _ => rgX); (rename HashSpec _ _ _ _ _ _ _ _ _ => hH9); (with_unfolding_all refine' rounds_loop (l := PySem.Str.ofString "block") (kk := kkOf hH9) ?hh rgX ?h1 ?h2 lF' lN' ?hm ?hb ?turn ?done); (case hh => rfl); (case h1 => omega); (case h2 => omega); (case hm => exact if_pos rfl); (case hb => omega); (case' turn => ((try clear lF' lN'); intro b8 tb8 pre8 k8 t8 u8 h8 tk8 own8 hb8 hs8 ho8 F8 N8; (try k_fold))); (case' done => ((try clear lF' lN'); intro b8 tb8 u8 h8 tk8 hb8 hs8 F8 N8; (try k_fold))))))
local macro_rules | `(tactic| walk_at "eval Call Attribute") => `(tactic| ((with_reducible show wpAny _ _ (eval (PySem.Expr.Call (PySem.Expr.Attribute (PySem.Expr.Call (PySem.Expr.Name _ _) _ _ _) _ _) _ _ _) _) _ _ _); k_here; k_dflt ((rename Fr _ _ _ _ => lF'); (rename HashSpec _ _ _ _ _ _ _ _ _ => hH9); (with_unfolding_all refine' hH9 _ _ _ _ _ _ _ _ _ _ _ _ _ _ _ _ _ _ _ _ _ _ _ _ _ ?B lF' ?X ?N ?T ?k ?need ?bs ?d ?u ?pp ?k1 ?k2 ?m1 ((if_neg (show ¬ (PySem.Str.ofString "block" = PySem.Str.ofString "_") by decide)).trans (if_pos rfl)) ?_); (case B => k_asm); (case X => k_asm); (case N => k_asm); (case T => k_asm); (case k => exact rfl); (case need => ((rename NeedIn _ _ => hn9); intro q9 hq9; first | exact hn9 q9 hq9 | exact .tail _ (hn9 q9 hq9) | exact List.mem_append_left _ (hn9 q9 hq9) | exact List.mem_append_left _ (.tail _ (hn9 q9 hq9)))); (case bs => assumption); (case pp => exact rfl); (case d => ktr_room); (case u => ktr_units); (case k1 => exact rfl); (case k2 => exact rfl); (case m1 => first | k_is | exact rfl | kernel_rfl); intro b9 t9 h9 k9 hb9 hs9 F9 N9)))
theorem pbk_done {k : Nat} {b0 b d : Array UInt8} {n r : Int} (hd : d = KBy.picked b none (some n)) (hb : b = lawIter k r.toNat b0) (hk : k = n.toNat) (h0 : 0 ≤ n) (h1 : 1 ≤ r) : d = lawIter n.toNat r.toNat b0 ∧ (d.size : Int) = n := by
  subst hk
  have hs := lawIter_size n.toNat r.toNat b0 (by omega)
  rw [hb, picked_to _ h0] at hd
  have e : n.toNat = (lawIter n.toNat r.toNat b0).toList.length := by rw [Array.length_toList, hs]
  rw [show (lawIter n.toNat r.toNat b0).toList.take n.toNat = (lawIter n.toNat r.toNat b0).toList from List.take_of_length_le (by omega), Array.toArray_toList] at hd
  exact ⟨hd, by rw [hd, hs]; omega⟩
theorem pbk_cut {k : Nat} {b0 b d : Array UInt8} {n r l : Int} (hd : d = KBy.picked b none (some l)) (hb : b = lawIter k r.toNat b0) (hk : k = n.toNat) (h0 : 0 ≤ l) (h1 : 1 ≤ r) (h2 : l ≤ n) : d = ((lawIter n.toNat r.toNat b0).toList.take l.toNat).toArray ∧ (d.size : Int) = l := by
  subst hk
  have hs := lawIter_size n.toNat r.toNat b0 (by omega)
  rw [hb, picked_to _ h0] at hd
  refine ⟨hd, ?_⟩
  rw [hd, List.size_toArray, List.length_take, Array.length_toList, hs]
  omega
set_option maxRecDepth 100000 in
set_option maxHeartbeats 8000000 in
theorem pbk_tells {w : World} {p : Program} {loose : List Str} {mean : ExcName → Option Value} {mg mb : Str → Option Value} {need : List (Addr × Obj)} {f : Addr} {n : Int} (H : HashSpec w p loose mean mg mb need f n) : PbkTells w p loose mean mg mb need f n := by
  unfold PbkTells
  intro dp un gd cn cs a ccd cl outer A₀ base h₀ L m news s ix dx h1 h2 h3 h4 h5 h6 t1 t2 t3 t4 t5 t6 v1 v2 v3 bl tn tb b1 b2 u1 u2 r tr Q E B F X N T hk hneed hix hdx hb hr0 hr1 hn0 hn1 hd hu hret
  have hNeed : NeedIn need news := hneed
  refine wpAny_call ?_
  k_dflt cell_enter
  k_steps
  · (rename _ = KBy.picked _ _ _ => hd9)
    (rename _ = lawIter _ _ _ => hb9)
    (rename _ = b1 ++ b2 => hc9)
    subst hc9
    have e9 := pbk_done hd9 hb9 rfl (by omega) hr0
    exact hret _ _ _ _ e9.1 e9.2 (by k_asm) (News.perm (by k_asm) (fun p hp => List.mem_cons_of_mem _ hp))
  · (rename _ = lawSum _ _ => hb9)
    refine' rounds_end (x := PySem.Str.ofString "_") (l := PySem.Str.ofString "block") ?F ?N ?hn ?ho ?hk ?hr ?hp ?hs
    case F => k_asm
    case N => k_asm
    case hn => exact fun p hp => List.mem_append_left _ hp
    case ho => exact fun p hp => List.mem_append_right _ hp
    case hk => exact if_pos rfl
    case hr => intro z9 h1 h2; simp only [if_neg h1, if_neg h2]
    case hp => exact rounds_step hb9 (by assumption)
    case hs => omega
end Mine

end
section
open PySem PySem.Spec PySem.Calls PySem.W PyProof.Rows
set_option Elab.async false
namespace Mine
theorem fillUp8 : (fun (_ : OpenLaw) (_ : Params → Frag) => True) PySem.Challenge.rw_aj5026_01 Mine.K := by
  k_fill
  trivial
local macro_rules | `(tactic| k_in) => `(tactic| (refine' Frag.In.keeps ?x (Fr.keep ?f); (case f => k_asm); (case x => k_asm)))
theorem allNe_le {d d' : Addr} {l : List (Addr × Obj)} (h : AllLt d l) (hd : @LE.le Nat _ d d') : ∀ p ∈ l, p.1 ≠ d' := fun p hp => Nat.ne_of_lt (Nat.lt_of_lt_of_le (kst_ltOf h p hp) hd)
local macro_rules | `(tactic| k_all) => `(tactic| first | kst_allNe | ((rename AllLt _ _ => hA9); exact allNe_le hA9 (by omega)))
local macro_rules | `(tactic| walk_at "eval Name") => `(tactic| (k_here; (with_reducible refine' nameX_L ?F ?v ?_ ?a ?b; (case b => assumption)); k_dflt ((case F => k_asm); (case a => assumption); (case v => assumption))))
local macro_rules | `(tactic| cell_enter) => `(tactic| (refine' code_defC ?k1 ?k2 ?k3 ?k4 ?k5 ?kA ?kF ?kK ?k6 ?k7 ?k8 ?k9 ?kB ?kD ?_ ?c2 ?c3 ?c4; (case kA => exact rfl); (case kF => exact rfl); (case kK => first | assumption | exact rfl); (case k1 => k_asm); (case k2 => k_asm); (case k3 => k_asm); (case k4 => k_asm); (case k5 => k_asm); (case k6 => k_is); (case k7 => k_is); (case k8 => ktr_room); (case k9 => first | exact BindsTo.of_eq rfl | exact binds_K (by k_in) rfl (by k_is) rfl rfl rfl); (case kB => exact rfl); (case kD => decide +kernel); (case c2 => exact rfl); (case c3 => exact rfl); (case c4 => exact rfl); k_whole; intro g' L' h' tk' cells' FG' F' N' Y' B' X' T' l1; (try k_lt l1); k_cells Y'; (try simp only [List.cons_append, List.nil_append] at N'); (try dsimp only); (try k_lift B'); (try k_fold)))
local macro_rules | `(tactic| k_room) => `(tactic| ktr_room)
local macro_rules | `(tactic| k_units) => `(tactic| ktr_units)
local macro_rules | `(tactic| ktr_units) => `(tactic| ((have hcL9 := cLine_is); (try simp only [units_under_make, units_in1, units_deeper, Around.mark_units, units_caller]); (try dsimp only [ktrTop]); omega))
local macro_rules | `(tactic| walk_at "ite") => `(tactic| first
  | ((with_reducible show if (_ != _) = true then _ else _); refine ite_neg ?_ ?_; (focus ((simp only [bne_iff_ne, ne_eq, Decidable.not_not]); omega)))
  | ((with_reducible show if (_ != _) = true then _ else _); refine ite_pos ?_ ?_; (focus ((simp only [bne_iff_ne, ne_eq]); omega)))
  | ((with_reducible show if (decide _) = true then _ else _); refine ite_neg ?_ ?_; (focus ((simp only [decide_eq_true_eq]); omega)))
  | ((with_reducible show if (decide _) = true then _ else _); refine ite_pos ?_ ?_; (focus ((simp only [decide_eq_true_eq]); omega))))
local macro_rules | `(tactic| walk_at "exec FunctionDef") => `(tactic| (k_here; (first
  | (k_dflt (refine' def_plain ?d0 ?k0 ?a0 ?_; (case d0 => exact rfl); (case k0 => exact rfl); (case a0 => exact rfl)))
  | (k_dflt (refine' def_bytes_K ?F ?N ?d0 ?k0 ?a0 ?_; (case F => k_asm); (case N => k_asm); (case d0 => exact rfl); (case k0 => exact rfl); (case a0 => exact rfl)); intro dT tT h' tk' F' N' l1; (try k_lt l1); (try k_sweep))); (first
  | (k_dflt (refine' tail_hit ?F ?N ?T ?C ?cd ?mem ?t ?n ?cl ?_; (case F => k_asm); (case N => k_asm); (case T => k_asm); (case cd => exact rfl); (case C => first | exact CodeHd.keeps (by with_reducible assumption) (Fr.keep (by k_asm)) | exact CodeHd.keeps (CodeHd.keeps (by assumption) (Fr.keep (by assumption))) (Fr.keep (by k_asm)) | exact CodeHd.keeps (CodeHd.keeps (by assumption) (Below.stays (by assumption))) (Fr.keep (by k_asm)) | (refine' CodeOf.hd ?ca ?cb ?cc ?ce; (case cb => k_asm); (case cc => k_mem); (case ca => assumption); (case ce => assumption))); (case mem => k_mem); (case t => kn_triples); (case n => kn_hit); (case cl => exact rfl); k_whole); intro f' ct' dc' h' tk' F' N' l1; (try dsimp only at N'); (try k_lt l1); (try k_sweep))
  | (k_dflt (refine' tail_miss ?F ?N ?T ?C ?cd ?U ?t ?n ?cl ?_; (case F => k_asm); (case N => k_asm); (case T => k_asm); (case cd => exact rfl); (case C => first | exact CodeHd.keeps (by with_reducible assumption) (Fr.keep (by k_asm)) | exact CodeHd.keeps (CodeHd.keeps (by assumption) (Fr.keep (by assumption))) (Fr.keep (by k_asm)) | exact CodeHd.keeps (CodeHd.keeps (by assumption) (Below.stays (by assumption))) (Fr.keep (by k_asm)) | (refine' CodeOf.hd ?ca ?cb ?cc ?ce; (case cb => k_asm); (case cc => k_mem); (case ca => assumption); (case ce => assumption))); (case U => k_updF); (case t => kn_triples); (case n => kn_among); (case cl => exact rfl); k_whole); intro f' c' P' oc' ct' dc' h' tk' F' N' C' l1 l2 l3 l4 l5; (try dsimp only at N'); (try k_lt l1); (try k_lt l2); (try k_lt2 l4); (try k_lt2 l5); (try k_sweep)))))
local macro_rules | `(tactic| walk_at "callWith ref") => `(tactic| (k_here; k_dflt (first
  | (refine' callWith_F ?k1 ?_; (case k1 => exact FnAt.of (by k_asm) (by k_mem)); k_whole)
  | (refine' callWith_F0 ?k1 ?_; (case k1 => exact FnAt.of (by k_asm) (by k_mem)); k_whole; try dsimp only [List.nil_append, List.cons_append]))))
local macro_rules | `(tactic| walk_at "call ref") => `(tactic| (k_here; k_dflt (refine wpAny_call ?_; (first
  | (refine' code_own0 ?k1 ?k2 ?k3 ?k4 ?k5 ?kA ?kF ?kK ?k6 ?ka ?kb ?k8 ?k9 ?kB ?_ ?c2 ?c3 ?c4 ?c5; (case kA => exact rfl); (case kF => exact rfl); (case kK => first | assumption | exact rfl); (case k1 => k_asm); (case k2 => k_asm); (case k3 => k_asm); (case k4 => k_asm); (case k5 => k_asm); (case k6 => k_mem); (case c5 => decide); (case ka => k_mem); (case kb => assumption); (case k8 => ktr_room); (case k9 => first | exact BindsTo.of_eq rfl | exact binds_news (by k_asm) (by k_mem) rfl rfl rfl rfl); (case kB => exact locs rfl); (case c2 => exact rfl); (case c3 => exact rfl); (case c4 => exact rfl); k_whole; intro g' L' h' FG' F' N' B' X' T' l1; (try dsimp only); (try k_lt l1); (try k_lift B'); (try k_fold))
  | (refine' code_own ?k1 ?k2 ?k3 ?k4 ?k5 ?kA ?kF ?kK ?k6 ?ka ?kb ?k8 ?k9 ?kB ?_ ?c2 ?c3 ?c4; (case kA => exact rfl); (case kF => exact rfl); (case kK => first | assumption | exact rfl); (case k1 => k_asm); (case k2 => k_asm); (case k3 => k_asm); (case k4 => k_asm); (case k5 => k_asm); (case k6 => k_mem); (case ka => k_mem); (case kb => assumption); (case k8 => ktr_room); (case k9 => first | exact BindsTo.of_eq rfl | exact binds_news (by k_asm) (by k_mem) rfl rfl rfl rfl); (case kB => exact locs rfl); (case c2 => exact rfl); (case c3 => exact rfl); (case c4 => exact rfl); k_whole; intro g' L' h' tk' cells' FG' F' N' Y' B' X' T' l1; (try dsimp only); (try k_lt l1); (try ((have lA9 := l1); (repeat (replace lA9 := lA9.2)))); k_cells Y'; (try simp only [List.cons_append, List.nil_append] at N'); (try k_lift B'); (try k_fold))))))
local macro_rules | `(tactic| walk_at "call ref") => `(tactic| (k_here; k_dflt (first
  | ((with_reducible show wpAny _ _ (call (Value.ref 302) [Value.bytes _ _, Value.int _ _]) _ _ _); refine' sum_use ?k1 ?k2 ?k3 ?k4 ?k5 ?kK ?kb ?k6 ?k7 ?kd ?ku ?_; (case k1 => k_asm); (case k2 => k_asm); (case k3 => k_asm); (case k4 => k_asm); (case k5 => k_asm); (case kK => first | assumption | exact rfl); (case kb => first | assumption | omega | (simp only [lawSum_size, Array.size_append, List.size_toArray, List.length_cons, List.length_nil]; omega)); (case k6 => first | assumption | omega); (case k7 => first | assumption | omega); (case kd => ktr_room); (case ku => ktr_units); intro b9 t9 h9 tk9 hb9 hz9 F9 N9; (try dsimp only); (try k_fold))
  | ((with_reducible show wpAny _ _ (call (Value.ref 285) [_, _, _, _, _]) _ _ _); refine' hand_use ?k1 ?k2 ?k3 ?k4 ?k5 ?kK ?kd ?ku ?_; (case k1 => k_asm); (case k2 => k_asm); (case k3 => k_asm); (case k4 => k_asm); (case k5 => k_asm); (case kK => first | assumption | exact rfl); (case kd => ktr_room); (case ku => ktr_units); intro x9 dx9 h9 tk9 F9 N9 l1 l2; (try dsimp only); (try k_lt l1); (try k_lt2 l2); (try k_fold)))))
local macro_rules | `(tactic| walk_at "getMethod ref") => `(tactic| (k_here; (with_reducible show wpAny _ _ (getMethod (Value.ref _) (PySem.Str.ofString "digest") _) _ _ _); k_dflt (refine' hand_digest ?k1 ?k2 ?k3 ?k4 ?k5 ?kK ?kx ?kdx ?kd ?ku ?kh ?_; (case k1 => k_asm); (case k2 => k_asm); (case k3 => k_asm); (case k4 => k_asm); (case k5 => k_asm); (case kK => first | assumption | exact rfl); (case kx => k_mem); (case kdx => k_mem); (case kd => ktr_room); (case ku => ktr_units); (case kh => rfl); intro h9 tk9 F9 N9; (try dsimp only); (try k_fold))))
local macro_rules | `(tactic| walk_at "getAttr ref") => `(tactic| (k_here; (with_reducible show wpAny _ _ (getAttr (Value.ref _) (PySem.Str.ofString "digest_size") _) _ _ _); k_dflt (refine' hand_size ?k1 ?k2 ?k3 ?k4 ?k5 ?kK ?kx ?kdx ?kd ?ku ?kh ?_; (case k1 => k_asm); (case k2 => k_asm); (case k3 => k_asm); (case k4 => k_asm); (case k5 => k_asm); (case kK => first | assumption | exact rfl); (case kx => k_mem); (case kdx => k_mem); (case kd => ktr_room); (case ku => ktr_units); (case kh => rfl); intro h9 tk9 F9 N9; (try dsimp only); (try k_fold))))
local macro_rules | `(tactic| walk_at "getAttr ref") => `(tactic| (k_here; (with_reducible show wpAny _ _ (getAttr (Value.ref _) (PySem.Str.ofString "block_size") _) _ _ _); k_dflt (refine' hand_block ?k1 ?k2 ?k3 ?k4 ?k5 ?kK ?kx ?kdx ?kd ?ku ?kh ?_; (case k1 => k_asm); (case k2 => k_asm); (case k3 => k_asm); (case k4 => k_asm); (case k5 => k_asm); (case kK => first | assumption | exact rfl); (case kx => k_mem); (case kdx => k_mem); (case kd => ktr_room); (case ku => ktr_units); (case kh => rfl); intro h9 tk9 F9 N9; (try dsimp only); (try k_fold))))
theorem take_at {h₀ h : Heap} {L : Addr} {whole : List (Addr × Obj)} {G : Prop} (k : Nat) (N : News h₀ L h whole) (H : ∀ need rest, need = whole.take k → whole.drop k = rest → News h₀ L h (need ++ rest) → G) : G :=
  H _ _ rfl rfl (by rw [List.take_append_drop]; exact N)
theorem take2_at {h₀ h : Heap} {L : Addr} {x y : Addr × Obj} {whole : List (Addr × Obj)} {G : Prop} (k : Nat) (N : News h₀ L h (x :: y :: whole)) (H : ∀ need rest, need = whole.take k → whole.drop k = rest → News h₀ L h (x :: y :: (need ++ rest)) → G) : G :=
  H _ _ rfl rfl (by rw [List.take_append_drop]; exact N)
def DigestSpec (w : World) (p : Program) (loose : List Str) (mean : ExcName → Option Value) (mg mb : Str → Option Value) (need : List (Addr × Obj)) (d : Addr) (size : Int) : Prop :=
  ∀ (dp un : Nat) (gd : Option (List Code)) (cn : Str) (cs : Scope) (a : Addr) (ccd : Value) (cl : List (Str × Addr)) (outer : List Env) (A₀ : Around) (base h₀ : Heap) (L : Addr) (m : Str → Option Value) (news : List (Addr × Obj)) (s : Shared) (Q E : Value → Shared → Prop),
    Below A₀ base outer h₀ → Fr h₀ L s.heap m → (Mine.K w.params).In h₀ → News h₀ L s.heap news → Top p loose mean mg mb h₀ → cs.kind = .function → (∀ q ∈ need, q ∈ news) → dp + 3 < recursionLimit → un + 30 < cLine →
    (∀ b t h' tk', (b.size : Int) = size → Fr h₀ L h' m → News h₀ L h' news → Q (.bytes b t) { s with heap := h', toks := tk' }) →
    wpAny (model PySem.Challenge.pw_aj5026_01 w) (ktrTop dp un gd cn cs L a ccd cl outer) (call (.ref d) []) Q E s
def FnIn (need : List (Addr × Obj)) (f : Addr) : Prop := ∃ od fd sl, (f, (⟨.type "function", od, .func fd, sl⟩ : Obj)) ∈ need
/-- the first call of a hash that is handed in, without octets -/
def FirstSpec (w : World) (p : Program) (loose : List Str) (mean : ExcName → Option Value) (mg mb : Str → Option Value) (need : List (Addr × Obj)) (f : Addr) (told bl size : Int) (Next : List (Addr × Obj) → Prop) : Prop :=
  ∀ (dp un : Nat) (gd : Option (List Code)) (cn : Str) (cs : Scope) (a : Addr) (ccd : Value) (cl : List (Str × Addr)) (outer : List Env) (A₀ : Around) (base h₀ : Heap) (L : Addr) (m : Str → Option Value) (news : List (Addr × Obj)) (s : Shared) (Q E : Value → Shared → Prop),
    Below A₀ base outer h₀ → Fr h₀ L s.heap m → (Mine.K w.params).In h₀ → News h₀ L s.heap (need ++ news) → Top p loose mean mg mb h₀ → cs.kind = .function → OwnOff news (need.map (·.1)) → dp + 4 < recursionLimit → un + 60 < cLine →
    (∀ need1 hx hdx u d c t1 t2 h' tk', Next need1 → DigestSpec w p loose mean mg mb need1 d size → FnIn need1 d → (∀ q ∈ news, q.1 < hdx) → (∀ q ∈ need1, q.1 < hdx) → @LT.lt Nat _ hdx hx → OwnOff news (need1.map (·.1)) → Fr h₀ L h' m →
      News h₀ L h' ((hx, handObj u (.ref d) c (.int told t1) (.int bl t2) hdx) :: (hdx, emptyDict) :: (need1 ++ news)) → Q (.ref hx) { s with heap := h', toks := tk' }) →
    wpAny (model PySem.Challenge.pw_aj5026_01 w) (ktrTop dp un gd cn cs L a ccd cl outer) (call (.ref f) []) Q E s
def MkTells (w : World) (p : Program) (loose : List Str) (mean : ExcName → Option Value) (mg mb : Str → Option Value) : Prop :=
  ∀ (dp un : Nat) (gd : Option (List Code)) (cn : Str) (cs : Scope) (a : Addr) (ccd : Value) (cl : List (Str × Addr)) (outer : List Env) (A₀ : Around) (base h₀ : Heap) (L : Addr) (m : Str → Option Value) (news : List (Addr × Obj)) (s : Shared) (n bl : Int) (tn tb : Tok)
    (Q E : Value → Shared → Prop),
    Below A₀ base outer h₀ → Fr h₀ L s.heap m → (Mine.K w.params).In h₀ → News h₀ L s.heap ((304, tabObj #[]) :: news) → Top p loose mean mg mb h₀ → cs.kind = .function → CodeHd h₀ 308 304 → OwnOff news [304] → 1 ≤ n → n ≤ 41 → dp + 1 < recursionLimit → un + 8 < cLine →
    (∀ f need lo tab h' tk', FirstSpec w p loose mean mg mb need f n bl n (fun need1 => HashSpec w p loose mean mg mb need1 f n ∧ FnIn need1 f) → FnIn need f → AllLt lo news → @LT.lt Nat _ 304 lo → (∀ q ∈ need, @LE.le Nat _ lo q.1) → Fr h₀ L h' m → News h₀ L h' (need ++ (304, tabObj (#[] ++ #[rawInt (294 : Nat), rawInt (4 : Nat), tab])) :: news) → Q (.ref f) { s with heap := h', toks := tk' }) →
    wpAny (model PySem.Challenge.pw_aj5026_01 w) (ktrTop dp un gd cn cs L a ccd cl outer) (call (.ref 309) [.int n tn, .int bl tb]) Q E s
set_option maxRecDepth 100000 in
set_option maxHeartbeats 8000000 in
theorem mk_tells {w : World} {p : Program} {loose : List Str} {mean : ExcName → Option Value} {mg mb : Str → Option Value} : MkTells w p loose mean mg mb := by
  unfold MkTells
  intro dp un gd cn cs a ccd cl outer A₀ base h₀ L m news s n bl tn tb Q E B F X N T hk hCd hne hn0 hn1 hd hu hret
  refine wpAny_call ?_
  k_dflt cell_enter
  (rename _ ∧ AllLt _ news => hA9)
  have hA := hA9.2
  k_steps
  rename Fr h₀ L _ m => kF
  rename News h₀ L _ _ => kN
  refine take_at 7 kN fun need rest e1 e2 kM => ?_
  dsimp only [List.take, List.drop] at e1 e2
  subst e2
  refine hret _ need _ _ _ _ ?spec ?fn hA hA9.1 ?ge kF kM
  case fn => subst e1; exact ⟨_, _, _, .head _⟩
  case ge =>
    subst e1
    repeat (refine List.forall_mem_cons.mpr ⟨by dsimp only; omega, ?_⟩)
    exact List.forall_mem_nil _
  case spec =>
    subst e1
    clear hret kF kN kM hA9 hA hne hk hd hu
    (repeat (rename Fr _ _ _ _ => z9; clear z9)); (repeat (rename News _ _ _ _ => z9; clear z9)); (repeat (rename Below _ _ _ _ => z9; clear z9)); (repeat (rename Top _ _ _ _ _ _ => z9; clear z9)); (repeat (rename Frag.In _ _ => z9; clear z9))
    unfold FirstSpec
    intro dp un gd cn cs a ccd cl outer A₀ base h₀ L m news s Q E B F X N T hk hsep hd hu hret
    simp only [List.cons_append, List.nil_append] at N
    k_steps
    rename Fr h₀ L _ m => kF
    rename News h₀ L _ _ => kN
    rename AllLt _ news => hA
    refine take2_at 18 kN fun need1 rest e1 e2 kM => ?_
    dsimp only [List.take, List.drop] at e1 e2
    subst e2
    refine hret need1 _ _ _ _ _ _ _ _ _ ?next ?dig ?fn ?lt1 ?lt2 ?lt3 ?off kF kM
    case fn => subst e1; exact ⟨_, _, _, .tail _ (.tail _ (.tail _ (.head _)))⟩
    case lt1 => (rename _ ∧ _ ∧ _ ∧ _ ∧ _ ∧ _ ∧ _ ∧ _ ∧ _ ∧ _ ∧ _ ∧ _ ∧ _ ∧ _ ∧ _ ∧ _ ∧ _ ∧ _ ∧ AllLt _ news => hB); exact kst_ltOf hB.2.2.2.2.2.2.2.2.2.2.2.2.2.2.2.2.2.2
    case lt2 =>
      subst e1
      repeat (refine List.forall_mem_cons.mpr ⟨by (refine ltN ?_; dsimp only; omega), ?_⟩)
      exact List.forall_mem_nil _
    case lt3 => assumption
    case off =>
      subst e1
      intro p9 hp9 b9 hb9
      have h1 := ltN (kst_ltOf hA p9 hp9)
      have h2 := hsep p9 hp9
      simp only [List.map_cons, List.map_nil, List.forall_mem_cons] at h2
      simp only [List.map_cons, List.map_nil, List.mem_cons, List.not_mem_nil, or_false] at hb9
      rcases hb9 with rfl | rfl | rfl | rfl | rfl | rfl | rfl | rfl | rfl | rfl | rfl | rfl | rfl | rfl | rfl | rfl | rfl | rfl
      all_goals first | (refine neN ?_; omega) | (simp only [h2, ne_eq, not_false_eq_true])
    case dig =>
      subst e1
      clear hret kF kN kM hA hsep hk hd hu
      (repeat (rename Fr _ _ _ _ => z9; clear z9)); (repeat (rename News _ _ _ _ => z9; clear z9)); (repeat (rename Below _ _ _ _ => z9; clear z9)); (repeat (rename Top _ _ _ _ _ _ => z9; clear z9)); (repeat (rename Frag.In _ _ => z9; clear z9))
      unfold DigestSpec
      intro dp un gd cn cs a ccd cl outer A₀ base h₀ L m news s Q E B F X N T hk hneed hd hu hret
      replace N := News.perm N (news' := _ ++ news) (fun p hp => (List.mem_append.mp hp).elim (hneed p) id)
      simp only [List.cons_append, List.nil_append] at N
      clear hneed
      k_steps
      rename Fr h₀ L _ m => kF
      rename News h₀ L _ _ => kN
      rename _ = lawSum _ _ => hb9
      rename _ = n => hz9
      exact hret _ _ _ _ hz9 kF (News.perm kN (fun p hp => by repeat (first | exact hp | refine List.mem_cons_of_mem _ ?_)))
    case next =>
      subst e1
      refine ⟨?_, ⟨_, _, _, by k_mem⟩⟩
      clear hret kF kN kM hA hsep hk hd hu
      (repeat (rename Fr _ _ _ _ => z9; clear z9)); (repeat (rename News _ _ _ _ => z9; clear z9)); (repeat (rename Below _ _ _ _ => z9; clear z9)); (repeat (rename Top _ _ _ _ _ _ => z9; clear z9)); (repeat (rename Frag.In _ _ => z9; clear z9))
      unfold HashSpec
      intro dp un gd cn cs a ccd cl outer A₀ base h₀ L m news s b t p1 p2 p3 p4 p5 Q E B F X N T hk hneed hb hd hu hpp hk1 hk2 hm1 hm2 hret
      replace N := News.perm N (news' := _ ++ news) (fun p hp => (List.mem_append.mp hp).elim (hneed p) id)
      simp only [List.cons_append, List.nil_append] at N
      clear hneed
      refine methodCall_at hpp ?_ rfl
      k_steps
      rename Fr h₀ L _ m => kF
      rename News h₀ L _ _ => kN
      rename _ = lawSum _ _ => hb9
      rename _ = n => hz9
      exact hret _ _ _ _ hb9 hz9 kF (News.perm kN (fun p hp => by repeat (first | exact hp | refine List.mem_cons_of_mem _ ?_)))
end Mine

end
section
open PySem PySem.Spec PySem.Calls PySem.W PyProof.Rows
set_option Elab.async false
namespace Mine
theorem fillUp9 : (fun (_ : OpenLaw) (_ : Params → Frag) => True) PySem.Challenge.rw_aj5026_01 Mine.K := by
  k_fill
  trivial
local macro_rules | `(tactic| k_in) => `(tactic| (refine' Frag.In.keeps ?x (Fr.keep ?f); (case f => k_asm); (case x => k_asm)))
theorem kst_right {d : Addr} {a b : List (Addr × Obj)} (h : AllLt d (a ++ b)) : AllLt d b := allLt_of fun p hp => kst_ltOf h p (List.mem_append_right _ hp)
section
variable {prog : Program} {w : World} {A : Around} {E : Value → Shared → Prop} {s : Shared} {h₀ : Heap} {L : Addr} {m : Str → Option Value} {news : List (Addr × Obj)} {value slice : PySem.Expr} {Q : Value → Shared → Prop}
theorem item_l {l : Addr} {vs : List Value} {c : Nat} {k : Int} {u : Tok} {x : Value} (N : News h₀ L s.heap news) (hm : (l, { cls := .type "list", data := .seq vs.toArray c }) ∈ news) (h0 : 0 ≤ k) (hhi : k < 2 ^ 63) (hx : vs[k.toNat]? = some x) (h : Q x s)
    (hs : subscripted slice false (.ref l) (.int k u) = operate [.ref l, .int k u] (getItem (.ref l) (.int k u)) := by with_unfolding_all rfl) :
    wpAny (model prog w) A (subscriptTail value slice (.ref l) (.int k u)) Q E s :=
  have hl := News.isList N hm
  tail_any hl.typeIs slot_list_getitem.lookup (wpAny_getItem_list hl h0 hhi (by simpa using hx) h) hs
theorem slice_list2 {t : Addr} {a b : Value} {rest : List Value} {c : Nat} {u : Tok} (F : Fr h₀ L s.heap m) (N : News h₀ L s.heap news) (ht : (t, { cls := .type "list", data := .seq (a :: b :: rest).toArray c }) ∈ news) (hz : rest.length ≤ 10)
    (h : ∀ D h', Fr h₀ L h' m → News h₀ L h' ((D, { cls := .type "list", data := .seq rest.toArray }) :: news) → (∀ p ∈ news, p.1 < D) → Q (.ref D) { s with heap := h' })
    (hs : subscripted slice false (.ref t) (.ref s.heap.objs.size) = operate [.ref s.heap.objs.size, .ref t] (getItem (.ref t) (.ref s.heap.objs.size)))
    (hg : ∀ r, letTemporaryGo value (.ref t) r = pure ()) :
    wpAny (model prog w) A (subscriptTail value slice (.ref t) (.ref s.heap.objs.size)) Q E { s with heap := s.heap.push { cls := .type "slice", data := .fields #[.int 2 u, .none, .none] } } :=
  kms_slice_lit (lo := some 2) (hi := none) (zs := rest) F N (News.isList N ht) (by constructor) (by constructor) (by simp [kms_pick, kms_lo, kms_hi]) h hs hg (by rw [sizeLine_eq]; simp; omega)
end
theorem first_use3 {w : World} {p : Program} {loose : List Str} {mean : ExcName → Option Value} {mg mb : Str → Option Value} {need : List (Addr × Obj)} {f : Addr} {told bl size : Int} {Next : List (Addr × Obj) → Prop} (H : FirstSpec w p loose mean mg mb need f told bl size Next)
    {dp un : Nat} {gd : Option (List Code)} {cn : Str} {cs : Scope} {a : Addr} {ccd : Value} {cl : List (Str × Addr)} {outer : List Env} {A₀ : Around} {base h₀ : Heap} {L : Addr} {m : Str → Option Value} {news : List (Addr × Obj)} {s : Shared} {p1 p2 p3 : Addr × Obj} {Q E : Value → Shared → Prop}
    (B : Below A₀ base outer h₀) (F : Fr h₀ L s.heap m) (X : (Mine.K w.params).In h₀) (N : News h₀ L s.heap (p1 :: p2 :: p3 :: (need ++ news))) (T : Top p loose mean mg mb h₀) (hk : cs.kind = .function) (hsep : OwnOff news (need.map (·.1)))
    (hlow : AllLt p3.1 (need ++ news)) (h2 : @LT.lt Nat _ p3.1 p2.1) (h1 : @LT.lt Nat _ p3.1 p1.1) (hd : dp + 4 < recursionLimit) (hu : un + 60 < cLine)
    (ret : ∀ need1 hx hdx u d c t1 t2 h' tk', Next need1 → DigestSpec w p loose mean mg mb need1 d size → FnIn need1 d → @LT.lt Nat _ p1.1 hdx → @LT.lt Nat _ p2.1 hdx → @LT.lt Nat _ p3.1 hdx → AllLt hdx news → AllLt hdx need1 → @LT.lt Nat _ hdx hx → OwnOff need1 [p3.1] → OwnOff need1 (List.map (fun q : Addr × Obj => q.1) news) → Fr h₀ L h' m →
      News h₀ L h' (p1 :: p2 :: p3 :: (hx, handObj u (.ref d) c (.int told t1) (.int bl t2) hdx) :: (hdx, emptyDict) :: (need1 ++ news)) → Q (.ref hx) { s with heap := h', toks := tk' }) :
    wpAny (model PySem.Challenge.pw_aj5026_01 w) (ktrTop dp un gd cn cs L a ccd cl outer) (call (.ref f) []) Q E s := by
  have hl : ∀ q ∈ need, @LT.lt Nat _ q.1 p3.1 := fun q hq => kst_ltOf hlow q (List.mem_append_left _ hq)
  refine H _ _ _ _ _ _ _ _ _ _ _ _ _ _ (p1 :: p2 :: p3 :: news) _ _ _ B F X (News.perm N fun q hq => ?_) T hk ?_ hd hu fun need1 hx hdx u d c t1 t2 h' tk' hn hg hf hl1 hl2 hl3 hoff F' N' => ?_
  · rcases List.mem_append.mp hq with hq | hq
    · exact .tail _ (.tail _ (.tail _ (List.mem_append_left _ hq)))
    · rcases List.mem_cons.mp hq with rfl | hq
      · exact .head _
      · rcases List.mem_cons.mp hq with rfl | hq
        · exact .tail _ (.head _)
        · rcases List.mem_cons.mp hq with rfl | hq
          · exact .tail _ (.tail _ (.head _))
          · exact .tail _ (.tail _ (.tail _ (List.mem_append_right _ hq)))
  · intro q hq b hb
    obtain ⟨r, hr, rfl⟩ := List.mem_map.mp hb
    have h9 := hl r hr
    rcases List.mem_cons.mp hq with rfl | hq
    · exact Nat.ne_of_gt (Nat.lt_trans h9 h1)
    · rcases List.mem_cons.mp hq with rfl | hq
      · exact Nat.ne_of_gt (Nat.lt_trans h9 h2)
      · rcases List.mem_cons.mp hq with rfl | hq
        · exact Nat.ne_of_gt h9
        · exact hsep q hq _ hb
  · refine ret need1 hx hdx u d c t1 t2 h' tk' hn hg hf (hl1 _ (.head _)) (hl1 _ (.tail _ (.head _))) (hl1 _ (.tail _ (.tail _ (.head _)))) (allLt_of fun q hq => hl1 q (.tail _ (.tail _ (.tail _ hq)))) (allLt_of hl2) hl3 ?_ ?_ F' (News.perm N' fun q hq => ?_)
    · intro q hq b hb e
      rw [List.mem_singleton.mp hb] at e
      exact hoff p3 (.tail _ (.tail _ (.head _))) q.1 (List.mem_map_of_mem hq) e.symm
    · intro q hq b hb e
      obtain ⟨z, hz, rfl⟩ := List.mem_map.mp hb
      exact hoff z (.tail _ (.tail _ (.tail _ hz))) q.1 (List.mem_map_of_mem hq) e.symm
    · rcases List.mem_cons.mp hq with rfl | hq
      · exact .tail _ (.tail _ (List.mem_append_right _ (.head _)))
      · rcases List.mem_cons.mp hq with rfl | hq
        · exact .tail _ (.tail _ (List.mem_append_right _ (.tail _ (.head _))))
        · rcases List.mem_cons.mp hq with rfl | hq
          · exact .tail _ (.tail _ (List.mem_append_right _ (.tail _ (.tail _ (.head _)))))
          · rcases List.mem_cons.mp hq with rfl | hq
            · exact .head _
            · rcases List.mem_cons.mp hq with rfl | hq
              · exact .tail _ (.head _)
              · rcases List.mem_append.mp hq with hq | hq
                · exact .tail _ (.tail _ (List.mem_append_left _ hq))
                · exact .tail _ (.tail _ (List.mem_append_right _ (.tail _ (.tail _ (.tail _ hq)))))
theorem dig_use {w : World} {p : Program} {loose : List Str} {mean : ExcName → Option Value} {mg mb : Str → Option Value} {need : List (Addr × Obj)} {f : Addr} {size : Int} (H : DigestSpec w p loose mean mg mb need f size)
    {dp un : Nat} {gd : Option (List Code)} {cn : Str} {cs : Scope} {a : Addr} {ccd : Value} {cl : List (Str × Addr)} {outer : List Env} {A₀ : Around} {base h₀ : Heap} {L : Addr} {m : Str → Option Value} {news : List (Addr × Obj)} {s : Shared} {Q E : Value → Shared → Prop}
    (B : Below A₀ base outer h₀) (F : Fr h₀ L s.heap m) (X : (Mine.K w.params).In h₀) (N : News h₀ L s.heap news) (T : Top p loose mean mg mb h₀) (hk : cs.kind = .function) (hneed : ∀ q ∈ need, q ∈ news) (hd : dp + 3 < recursionLimit) (hu : un + 30 < cLine)
    (ret : ∀ b t h' tk', (b.size : Int) = size → Fr h₀ L h' m → News h₀ L h' news → Q (.bytes b t) { s with heap := h', toks := tk' }) :
    wpAny (model PySem.Challenge.pw_aj5026_01 w) (ktrTop dp un gd cn cs L a ccd cl outer) (call (.ref f) []) Q E s := H _ _ _ _ _ _ _ _ _ _ _ _ _ _ _ _ _ _ B F X N T hk hneed hd hu ret
def InfoTells (w : World) (p : Program) (loose : List Str) (mean : ExcName → Option Value) (mg mb : Str → Option Value) (need : List (Addr × Obj)) (f : Addr) (n bl : Int) (Next : List (Addr × Obj) → Prop) : Prop :=
  ∀ (dp un : Nat) (gd : Option (List Code)) (cn : Str) (cs : Scope) (a : Addr) (ccd : Value) (cl : List (Str × Addr)) (outer : List Env) (A₀ : Around) (base h₀ : Heap) (L : Addr) (m : Str → Option Value) (news : List (Addr × Obj)) (s : Shared) (nm : Addr) (n1 n2 : Str) (u1 u2 : Tok) (rest : List Value) (k : Nat) (Q E : Value → Shared → Prop),
    Below A₀ base outer h₀ → Fr h₀ L s.heap m → (Mine.K w.params).In h₀ → News h₀ L s.heap (need ++ news) → Top p loose mean mg mb h₀ → cs.kind = .function → OwnOff news (need.map (·.1)) → FnIn need f → (nm, { cls := .type "list", data := .seq (.str n1 u1 :: .str n2 u2 :: rest).toArray k }) ∈ news → rest.length ≤ 10 → 1 ≤ n → n ≤ 41 → dp + 8 < recursionLimit → un + 80 < cLine →
    (∀ need1 x dx al h1 h2 h3 h4 h5 h6 t1 t2 t3 t4 t5 t6 tn tb h' tk', Next need1 → AllLt dx news → @LT.lt Nat _ dx x → @LT.lt Nat _ dx al → OwnOff need1 [dx] → OwnOff need1 (List.map (fun q : Addr × Obj => q.1) news) → Fr h₀ L h' m → News h₀ L h' ((x, instObj 155 dx) :: (dx, infoObj h1 h2 h3 h4 h5 h6 t1 t2 t3 t4 t5 t6 (.str n1 u1) (.str n2 u2) (.ref al) f n bl tn tb) :: (al, { cls := .type "list", data := .seq rest.toArray }) :: (need1 ++ news)) → Q (.ref x) { s with heap := h', toks := tk' }) →
    wpAny (model PySem.Challenge.pw_aj5026_01 w) (ktrTop dp un gd cn cs L a ccd cl outer) (call (.ref 155) [.ref f, .ref nm]) Q E s
local macro_rules | `(tactic| k_all) => `(tactic| first | kst_allNe | ((rename AllLt _ _ => hA9); exact allNe_le hA9 (by omega)))
local macro_rules | `(tactic| cell_enter) => `(tactic| (refine' code_def ?k1 ?k2 ?k3 ?k4 ?k5 ?kA ?kF ?kK ?k6 ?k7 ?k8 ?k9 ?kB ?_ ?c2 ?c3 ?c4 ?c5; (case kA => exact rfl); (case kF => exact rfl); (case kK => first | assumption | exact rfl); (case k1 => k_asm); (case k2 => k_asm); (case k3 => k_asm); (case k4 => k_asm); (case k5 => k_asm); (case k6 => k_is); (case k7 => k_is); (case k8 => ktr_room); (case k9 => first | exact BindsTo.of_eq rfl | exact binds_K (by k_in) rfl (by k_is) rfl rfl rfl); (case c5 => decide); (case kB => exact locs rfl); (case c2 => exact rfl); (case c3 => exact rfl); (case c4 => exact rfl); k_whole; intro g' L' h' FG' F' N' B' X' T'; (try dsimp only); (try k_lift B'); (try k_fold)))
local macro_rules | `(tactic| k_room) => `(tactic| ktr_room)
local macro_rules | `(tactic| k_units) => `(tactic| ktr_units)
local macro_rules | `(tactic| ktr_units) => `(tactic| ((have hcL9 := cLine_is); (try simp only [units_under_make, units_in1, units_deeper, Around.mark_units, units_caller]); (try dsimp only [ktrTop]); omega))
local macro_rules | `(tactic| walk_at "ite") => `(tactic| first
  | ((with_reducible show if (_ != _) = true then _ else _); refine ite_neg ?_ ?_; (focus ((simp only [bne_iff_ne, ne_eq, Decidable.not_not]); omega)))
  | ((with_reducible show if (_ != _) = true then _ else _); refine ite_pos ?_ ?_; (focus ((simp only [bne_iff_ne, ne_eq]); omega)))
  | ((with_reducible show if (decide _) = true then _ else _); refine ite_neg ?_ ?_; (focus ((simp only [decide_eq_true_eq]); omega)))
  | ((with_reducible show if (decide _) = true then _ else _); refine ite_pos ?_ ?_; (focus ((simp only [decide_eq_true_eq]); omega))))
local macro_rules | `(tactic| walk_at "exec FunctionDef") => `(tactic| (k_here; (first
  | (k_dflt (refine' def_plain ?d0 ?k0 ?a0 ?_; (case d0 => exact rfl); (case k0 => exact rfl); (case a0 => exact rfl)))
  | (k_dflt (refine' def_bytes_K ?F ?N ?d0 ?k0 ?a0 ?_; (case F => k_asm); (case N => k_asm); (case d0 => exact rfl); (case k0 => exact rfl); (case a0 => exact rfl)); intro dT tT h' tk' F' N' l1; (try k_lt l1); (try k_sweep))); (first
  | (k_dflt (refine' tail_hit ?F ?N ?T ?C ?cd ?mem ?t ?n ?cl ?_; (case F => k_asm); (case N => k_asm); (case T => k_asm); (case cd => exact rfl); (case C => first | exact CodeHd.keeps (by with_reducible assumption) (Fr.keep (by k_asm)) | exact CodeHd.keeps (CodeHd.keeps (by assumption) (Fr.keep (by assumption))) (Fr.keep (by k_asm)) | exact CodeHd.keeps (CodeHd.keeps (by assumption) (Below.stays (by assumption))) (Fr.keep (by k_asm)) | (refine' CodeOf.hd ?ca ?cb ?cc ?ce; (case cb => k_asm); (case cc => k_mem); (case ca => assumption); (case ce => assumption))); (case mem => k_mem); (case t => kn_triples); (case n => kn_hit); (case cl => exact rfl); k_whole); intro f' ct' dc' h' tk' F' N' l1; (try dsimp only at N'); (try k_lt l1); (try k_sweep))
  | (k_dflt (refine' tail_miss ?F ?N ?T ?C ?cd ?U ?t ?n ?cl ?_; (case F => k_asm); (case N => k_asm); (case T => k_asm); (case cd => exact rfl); (case C => first | exact CodeHd.keeps (by with_reducible assumption) (Fr.keep (by k_asm)) | exact CodeHd.keeps (CodeHd.keeps (by assumption) (Fr.keep (by assumption))) (Fr.keep (by k_asm)) | exact CodeHd.keeps (CodeHd.keeps (by assumption) (Below.stays (by assumption))) (Fr.keep (by k_asm)) | (refine' CodeOf.hd ?ca ?cb ?cc ?ce; (case cb => k_asm); (case cc => k_mem); (case ca => assumption); (case ce => assumption))); (case U => k_updF); (case t => kn_triples); (case n => kn_among); (case cl => exact rfl); k_whole); intro f' c' P' oc' ct' dc' h' tk' F' N' C' l1 l2 l3 l4 l5; (try dsimp only at N'); (try k_lt l1); (try k_lt l2); (try k_lt2 l4); (try k_lt2 l5); (try k_sweep)))))
local macro_rules | `(tactic| walk_at "callWith ref") => `(tactic| (k_here; k_dflt (first
  | (refine' callWith_F ?k1 ?_; (case k1 => exact FnAt.of (by k_asm) (by k_mem)); k_whole)
  | (refine' callWith_F0 ?k1 ?_; (case k1 => exact FnAt.of (by k_asm) (by k_mem)); k_whole; try dsimp only [List.nil_append, List.cons_append]))))
local macro_rules | `(tactic| walk_at "call ref") => `(tactic| (k_here; k_dflt (refine wpAny_call ?_; (first
  | (refine' code_own0 ?k1 ?k2 ?k3 ?k4 ?k5 ?kA ?kF ?kK ?k6 ?ka ?kb ?k8 ?k9 ?kB ?_ ?c2 ?c3 ?c4 ?c5; (case kA => exact rfl); (case kF => exact rfl); (case kK => first | assumption | exact rfl); (case k1 => k_asm); (case k2 => k_asm); (case k3 => k_asm); (case k4 => k_asm); (case k5 => k_asm); (case k6 => k_mem); (case c5 => decide); (case ka => k_mem); (case kb => assumption); (case k8 => ktr_room); (case k9 => first | exact BindsTo.of_eq rfl | exact binds_news (by k_asm) (by k_mem) rfl rfl rfl rfl); (case kB => exact locs rfl); (case c2 => exact rfl); (case c3 => exact rfl); (case c4 => exact rfl); k_whole; intro g' L' h' FG' F' N' B' X' T' l1; (try dsimp only); (try k_lt l1); (try k_lift B'); (try k_fold))
  | (refine' code_own ?k1 ?k2 ?k3 ?k4 ?k5 ?kA ?kF ?kK ?k6 ?ka ?kb ?k8 ?k9 ?kB ?_ ?c2 ?c3 ?c4; (case kA => exact rfl); (case kF => exact rfl); (case kK => first | assumption | exact rfl); (case k1 => k_asm); (case k2 => k_asm); (case k3 => k_asm); (case k4 => k_asm); (case k5 => k_asm); (case k6 => k_mem); (case ka => k_mem); (case kb => assumption); (case k8 => ktr_room); (case k9 => first | exact BindsTo.of_eq rfl | exact binds_news (by k_asm) (by k_mem) rfl rfl rfl rfl); (case kB => exact locs rfl); (case c2 => exact rfl); (case c3 => exact rfl); (case c4 => exact rfl); k_whole; intro g' L' h' tk' cells' FG' F' N' Y' B' X' T' l1; (try dsimp only); (try k_lt l1); (try ((have lA9 := l1); (repeat (replace lA9 := lA9.2)))); k_cells Y'; (try simp only [List.cons_append, List.nil_append] at N'); (try k_lift B'); (try k_fold))))))
local macro_rules | `(tactic| walk_at "call ref") => `(tactic| (k_here; k_dflt (first
  | ((with_reducible show wpAny _ _ (call (Value.ref 302) [Value.bytes _ _, Value.int _ _]) _ _ _); refine' sum_use ?k1 ?k2 ?k3 ?k4 ?k5 ?kK ?kb ?k6 ?k7 ?kd ?ku ?_; (case k1 => k_asm); (case k2 => k_asm); (case k3 => k_asm); (case k4 => k_asm); (case k5 => k_asm); (case kK => first | assumption | exact rfl); (case kb => first | assumption | omega | (simp only [lawSum_size, Array.size_append, List.size_toArray, List.length_cons, List.length_nil]; omega)); (case k6 => first | assumption | omega); (case k7 => first | assumption | omega); (case kd => ktr_room); (case ku => ktr_units); intro b9 t9 h9 tk9 hb9 hz9 F9 N9; (try dsimp only); (try k_fold))
  | ((with_reducible show wpAny _ _ (call (Value.ref 285) [_, _, _, _, _]) _ _ _); refine' hand_use ?k1 ?k2 ?k3 ?k4 ?k5 ?kK ?kd ?ku ?_; (case k1 => k_asm); (case k2 => k_asm); (case k3 => k_asm); (case k4 => k_asm); (case k5 => k_asm); (case kK => first | assumption | exact rfl); (case kd => ktr_room); (case ku => ktr_units); intro x9 dx9 h9 tk9 F9 N9 l1 l2; (try dsimp only); (try k_lt l1); (try k_lt2 l2); (try k_fold)))))
local macro_rules | `(tactic| walk_at "getMethod ref") => `(tactic| (k_here; (with_reducible show wpAny _ _ (getMethod (Value.ref _) (PySem.Str.ofString "digest") _) _ _ _); k_dflt (refine' hand_digest ?k1 ?k2 ?k3 ?k4 ?k5 ?kK ?kx ?kdx ?kd ?ku ?kh ?_; (case k1 => k_asm); (case k2 => k_asm); (case k3 => k_asm); (case k4 => k_asm); (case k5 => k_asm); (case kK => first | assumption | exact rfl); (case kx => k_mem); (case kdx => k_mem); (case kd => ktr_room); (case ku => ktr_units); (case kh => rfl); intro h9 tk9 F9 N9; (try dsimp only); (try k_fold))))
local macro_rules | `(tactic| walk_at "getAttr ref") => `(tactic| (k_here; (with_reducible show wpAny _ _ (getAttr (Value.ref _) (PySem.Str.ofString "digest_size") _) _ _ _); k_dflt (refine' hand_size ?k1 ?k2 ?k3 ?k4 ?k5 ?kK ?kx ?kdx ?kd ?ku ?kh ?_; (case k1 => k_asm); (case k2 => k_asm); (case k3 => k_asm); (case k4 => k_asm); (case k5 => k_asm); (case kK => first | assumption | exact rfl); (case kx => k_mem); (case kdx => k_mem); (case kd => ktr_room); (case ku => ktr_units); (case kh => rfl); intro h9 tk9 F9 N9; (try dsimp only); (try k_fold))))
local macro_rules | `(tactic| walk_at "getAttr ref") => `(tactic| (k_here; (with_reducible show wpAny _ _ (getAttr (Value.ref _) (PySem.Str.ofString "block_size") _) _ _ _); k_dflt (refine' hand_block ?k1 ?k2 ?k3 ?k4 ?k5 ?kK ?kx ?kdx ?kd ?ku ?kh ?_; (case k1 => k_asm); (case k2 => k_asm); (case k3 => k_asm); (case k4 => k_asm); (case k5 => k_asm); (case kK => first | assumption | exact rfl); (case kx => k_mem); (case kdx => k_mem); (case kd => ktr_room); (case ku => ktr_units); (case kh => rfl); intro h9 tk9 F9 N9; (try dsimp only); (try k_fold))))
local macro_rules | `(tactic| walk_at "subscriptTail Name Slice ref ref") => `(tactic| (k_here; k_dflt (refine' slice_list2 ?F ?N ?t ?z ?_ ?s ?g; (case F => k_asm); (case N => k_asm); (case t => k_mem); (case z => assumption); (case s => with_unfolding_all rfl); (case g => intro _; with_unfolding_all rfl)); intro D' h' F' N' l1; (try k_lt l1); (try k_sweep)))
local macro_rules | `(tactic| k_mem) => `(tactic| assumption)
local macro_rules | `(tactic| walk_at "subscriptTail") => `(tactic| (k_here; (with_reducible show wpAny _ _ (subscriptTail _ _ (Value.ref _) (Value.int _ _)) _ _ _); k_dflt (refine' item_l ?N ?m ?a ?b ?c ?_; (case N => k_asm); (case m => k_mem); (case a => decide); (case b => decide); (case c => rfl))))
set_option maxRecDepth 100000 in
set_option maxHeartbeats 8000000 in
theorem info_tells {w : World} {p : Program} {loose : List Str} {mean : ExcName → Option Value} {mg mb : Str → Option Value} {need : List (Addr × Obj)} {f : Addr} {n bl : Int} {Next : List (Addr × Obj) → Prop} (H : FirstSpec w p loose mean mg mb need f n bl n Next) : InfoTells w p loose mean mg mb need f n bl Next := by
  unfold InfoTells
  intro dp un gd cn cs a ccd cl outer A₀ base h₀ L m news s nm n1 n2 u1 u2 rest k Q E B F X N T hk hsep hfn hnm hrest hn0 hn1 hd hu hret
  obtain ⟨fo2, fo3, fo4, hfm⟩ := hfn
  replace hfm := List.mem_append_left news hfm
  replace hnm := List.mem_append_right need hnm
  k_dflt (refine' call_cls ?k1 ?k2 ?k3 ?k4 ?k5 ?k6 ?_; (case k1 => k_asm); (case k2 => k_asm); (case k3 => k_asm); (case k4 => k_is); (case k5 => k_is); (case k6 => k_is); k_whole; intro x' d' h' F' N' l1 l2; (have hA := allLt_of l1); (try k_lt2 l2); (try k_sweep); cell_enter)
  k_steps
  show wpAny _ _ (call (.ref f) []) _ _ _
  k_dflt (refine' first_use3 H ?B ?F ?X ?N ?T ?k hsep ?hA ?h2 ?h1 ?d ?u ?_; (case B => k_asm); (case F => k_asm); (case X => k_asm); (case N => k_asm); (case T => k_asm); (case k => rfl); (case hA => exact hA); (case h2 => (refine ltN ?_; dsimp only; omega)); (case h1 => (refine ltN ?_; dsimp only; omega)); (case d => ktr_room); (case u => ktr_units))
  intro need1 hx hdx u d c t1 t2 h9 tk9 hnext hdig hdfn l1 l2 l3 l4 l5 l6 hoff hoffN F9 N9
  obtain ⟨fp2, fp3, fp4, hdm⟩ := hdfn
  replace hdm := List.mem_append_left news hdm
  (try k_fold)
  k_steps
  show wpAny _ _ (call (.ref d) []) _ _ _
  k_dflt (refine' dig_use hdig ?B ?F ?X ?N ?T ?k ?n ?d ?u ?_; (case B => k_asm); (case F => k_asm); (case X => k_asm); (case N => k_asm); (case T => k_asm); (case k => rfl); (case n => exact fun q hq => .tail _ (.tail _ (.tail _ (.tail _ (.tail _ (List.mem_append_left _ hq)))))); (case d => ktr_room); (case u => ktr_units))
  intro b9 t9 h8 tk8 hz9 F8 N8
  (try k_fold)
  k_steps
  rename Fr h₀ L _ m => kF
  rename News h₀ L _ _ => kN
  exact hret need1 x' d' _ _ _ _ _ _ _ _ _ _ _ _ _ _ _ _ _ hnext (kst_right hA) (by (refine ltN ?_; omega)) (by (refine ltN ?_; omega)) hoff hoffN kF (News.perm kN (List.forall_mem_cons.mpr ⟨.tail _ (.head _), List.forall_mem_cons.mpr ⟨.tail _ (.tail _ (.head _)), List.forall_mem_cons.mpr ⟨.head _, fun q hq => .tail _ (.tail _ (.tail _ (.tail _ (.tail _ hq))))⟩⟩⟩))
end Mine

end
section
open PySem PySem.Spec PySem.Calls PySem.W PyProof.Rows
set_option Elab.async false
namespace Mine
section
variable {prog : Program} {w : World} {A₀ A : Around} {s : Shared} {base h₀ : Heap} {L : Addr} {m : Str → Option Value} {env : Env} {news : List (Addr × Obj)} {K : Frag} {p : Program} {loose : List Str} {mean : ExcName → Option Value} {mg mb : Str → Option Value}
    {R : Result → Shared → Prop} {name qual : Str} {params : Arguments} {body : List Stmt} {scope : Scope} {dV kV doc pm cdv ct oc : Value} {an od : Option Addr} {osl : Array (Option Value)} {f : Addr} {args : Args} {binds : List (Str × Value)}
/-- a def that catches is entered from the outermost frame, which may have cells of its own -/
theorem code_try (B : Below A₀ base [] h₀) (F : Fr h₀ L s.heap m) (X₀ : K.In h₀) (N : News h₀ L s.heap news) (T : Top p loose mean mg mb h₀) (hA : A.frames = some [env]) (hf : env.frame = some L) (hke : env.scope.kind = .function)
    (ho : K.lookup f = some ⟨oc, od, .func (fnOf name qual params body scope dV kV doc pm an cdv ct), osl⟩) (hcd : codeIn K cdv qual = true) (hroom : A.depth < recursionLimit)
    (hbind : BindsTo s (fnOf name qual params body scope dV kV doc pm an cdv ct) args binds) (hloc : ∀ y ∈ binds, scope.names.lookup y.1 = some .local)
    (h : ∀ g L' h₁, Fr h₀ L g m → Fr g L' h₁ (fun y => binds.reverse.lookup y) → News g L' h₁ news → Below A base [env] g → K.In g → Top p loose mean mg mb g → KtsDicts ([env].filterMap (·.frame)) g →
      wpAny (model prog w) (A.deeper (envOf qual scope L' f cdv)) (execs body (envOf qual scope L' f cdv))
        (fun fl s' => LeaveS0 ([env].filterMap (·.frame)) h₀ L m g R (match fl with | .ret v => v | _ => .none) s')
        (fun e s' => wpAny (model prog w) (A.deeper (envOf qual scope L' f cdv)) («leaving» (envOf qual scope L' f cdv) e) (fun _ s'' => R (.error e) s'') (fun e' s'' => R (.error e') s'') s')
        { s with heap := h₁, toks := s.toks + binds.length })
    (hco : scope.isCoroutine = false) (hgen : scope.isGenerator = false) (hk : scope.kind = .function)
    (hcell : ∀ x ∈ scope.names, x.2 ≠ .cell) : codeAny (model prog w) A (.call (.ref f) args) R s := by
  have X := X₀.keeps F.keep
  obtain ⟨FG, BG, st, -⟩ := groundX (R := R) B F N hA hf hke
  have hfr : [env].filterMap (·.frame) = [L] := by simp [hf]
  obtain ⟨oL, es, ep, hLg, hLd, hLk, hLf⟩ := FG.ns
  refine codeAny_call_def (fd := fnOf name qual params body scope dV kV doc pm an cdv ct) (body := body) (binds := binds) hroom (X _ _ ho) rfl (T.nolimit.keeps F.keep) (codeRec_of X hcd) rfl hbind hcell hloc (fun h₁ hns hk₁ => ?_) hco hgen hk
  have NG : News (hideAll s.heap (news.map (·.1))) s.heap.objs.size h₁ news := fun q hq =>
    ⟨hk₁ _ _ (N q hq).1, Nat.ne_of_lt (Heap.lt_size (N q hq).1), hideAll_none _ (List.mem_map_of_mem hq)⟩
  have DG : KtsDicts ([env].filterMap (·.frame)) (hideAll s.heap (news.map (·.1))) := fun b hb => by
    rw [hfr, List.mem_singleton] at hb
    exact ⟨oL, es, ep, hb ▸ hLg, hLd⟩
  refine wpAny_mono (h _ s.heap.objs.size h₁ FG ⟨hns, fun b o e => hk₁ b o (of_hideAll _ e), Nat.le_of_eq (hideAll_size _ _)⟩ NG BG (X₀.keeps st) (T.keeps st) DG) (fun fl s' hl => ?_) fun _ _ y => y
  obtain ⟨g', L', m', news', T', F', N', k⟩ := hl
  rw [hfr] at T'
  obtain ⟨sl, hs⟩ := T'.up hLg
  refine k ⟨⟨_, es, ep, F'.keep _ _ hs, hLd, hLk, hLf⟩, fun b o e => F'.keep b o (T'.other b o (st b o e) fun q => ?_), F.above⟩ fun q hq => ⟨(N' q hq).1, fun e => ?_, ?_⟩
  · rw [List.mem_singleton.mp q, kts_self F] at e
    cases e
  · have := (N' q hq).2.2
    rw [e, hs] at this
    cases this
  · cases e : h₀.get? q.1 with
    | none => rfl
    | some o =>
      obtain ⟨sl', hs'⟩ := T'.up (st _ _ e)
      have := (N' q hq).2.2
      rw [hs'] at this
      cases this
end
end Mine

end
section
open PySem PySem.Spec PySem.Calls PySem.W PyProof.Rows
set_option Elab.async false
namespace Mine
theorem pbk_use {w : World} {p : Program} {loose : List Str} {mean : ExcName → Option Value} {mg mb : Str → Option Value} {need : List (Addr × Obj)} {f : Addr} {n : Int} (H : HashSpec w p loose mean mg mb need f n)
    {dp un : Nat} {gd : Option (List Code)} {cn : Str} {cs : Scope} {a : Addr} {ccd : Value} {cl : List (Str × Addr)} {outer : List Env} {A₀ : Around} {base h₀ : Heap} {L : Addr} {m : Str → Option Value} {news : List (Addr × Obj)} {s : Shared} {ix dx : Addr} {h1 h2 h3 h4 h5 h6 : Int} {t1 t2 t3 t4 t5 t6 : Tok} {v1 v2 v3 : Value} {bl : Int} {tn tb : Tok} {b1 b2 : Array UInt8} {u1 u2 : Tok} {r : Int} {tr : Tok} {Q E : Value → Shared → Prop}
    (a0 : Below A₀ base outer h₀) (a1 : Fr h₀ L s.heap m) (a2 : (Mine.K w.params).In h₀) (a3 : News h₀ L s.heap news) (a4 : Top p loose mean mg mb h₀) (a5 : cs.kind = .function) (a6 : (∀ q ∈ need, q ∈ news)) (a7 : (ix, instObj 155 dx) ∈ news) (a8 : (dx, infoObj h1 h2 h3 h4 h5 h6 t1 t2 t3 t4 t5 t6 v1 v2 v3 f n bl tn tb) ∈ news) (a9 : b1.size + b2.size ≤ 40) (a10 : 1 ≤ r) (a11 : r ≤ 12) (a12 : 1 ≤ n) (a13 : n ≤ 41) (a14 : dp + 10 < recursionLimit) (a15 : un + 80 < cLine) (a16 : (∀ b' t h' tk', b' = lawIter n.toNat r.toNat (b1 ++ b2) → (b'.size : Int) = n → Fr h₀ L h' m → News h₀ L h' news → Q (.bytes b' t) { s with heap := h', toks := tk' })) :
    wpAny (model PySem.Challenge.pw_aj5026_01 w) (ktrTop dp un gd cn cs L a ccd cl outer) (call (.ref 165) [.ref ix, .bytes b1 u1, .bytes b2 u2, .int r tr]) Q E s :=
  pbk_tells H _ _ _ _ _ _ _ _ _ _ _ _ _ _ _ _ _ _ _ _ _ _ _ _ _ _ _ _ _ _ _ _ _ _ _ _ _ _ _ _ _ _ _ _ a0 a1 a2 a3 a4 a5 a6 a7 a8 a9 a10 a11 a12 a13 a14 a15 a16
theorem iter_more {k : Nat} {r q : Int} {b : Array UInt8} (hr : 0 ≤ r) (hq : 0 ≤ q) : lawIter k q.toNat (lawIter k r.toNat b) = lawIter k (r + q).toNat b := by
  rw [Int.toNat_add hr hq, lawIter_add]
theorem cut_join (b : Array UInt8) {k : Int} (h : 0 ≤ k) : KBy.picked b none (some k) ++ KBy.picked b (some k) none = b := by
  rw [picked_to b h, picked_from b h]
  apply Array.toList_inj.mp
  simp
theorem nil_right (b : Array UInt8) : b ++ #[] = b := by simp
theorem nil_left (b : Array UInt8) : #[] ++ b = b := by simp
section
variable {prog : Program} {w : World} {A : Around} {E : Value → Shared → Prop} {s : Shared} {M : Model}
theorem ne_same {a b : Array UInt8} {t u : Tok} {Q : Value → Shared → Prop} (e : a = b) (h : Q (.bool false) s) : wpAny (model prog w) A (compareOp .NotEq (.bytes a t) (.bytes b u)) Q E s := by
  subst e
  refine ne_bytes ?_
  rw [show (a.toList != a.toList) = false from bne_self_eq_false _]
  exact h
theorem mod_pos {x k : Int} {t u : Tok} {Q : Value → Shared → Prop} (hk : 0 < k) (h : ∀ r t' k', 0 ≤ r → r < k → Q (.int r t') { s with toks := k' }) : wpAny (model prog w) A (binaryOp .Mod (.int x t) (.int k u)) Q E s := by
  have f := (fdiv_fmod_facts x k).2.2.1 hk
  exact mod_int' (by omega) (h _ _ _ f.1 f.2)
theorem store_gen {env : Env} {x : Str} {l : List Int} {t : Tok} {Q : Unit → Shared → Prop} (hs : l.length ≤ 8) (h : ∀ b, b.size ≤ 8 → wpAny M A (storeName env x (.bytes b t)) Q E s) : wpAny M A (storeName env x (.bytes (byteArr l) t)) Q E s :=
  h _ (by rw [byteArr_size]; exact hs)
structure Stop9 (p : Prop) : Prop where
  on : p
theorem stop9 {p : Prop} (h : Stop9 p) : p := h.on
end
end Mine

end
section
open PySem PySem.Spec PySem.Calls PySem.W PyProof.Rows
set_option Elab.async false
namespace Mine
theorem off_cons {q : Addr × Obj} {pre need : List (Addr × Obj)} (h : AllLt q.1 need) (ho : OwnOff pre (need.map (·.1))) : OwnOff (q :: pre) (need.map (·.1)) := by
  intro r hr b hb
  rcases List.mem_cons.mp hr with rfl | hr
  · obtain ⟨z, hz, rfl⟩ := List.mem_map.mp hb
    exact Nat.ne_of_gt (kst_ltOf h z hz)
  · exact ho r hr b hb
theorem off_flip {pre need : List (Addr × Obj)} (h : OwnOff pre (need.map (·.1))) : OwnOff need (pre.map (·.1)) := by
  intro q hq b hb e
  obtain ⟨z, hz, rfl⟩ := List.mem_map.mp hb
  exact h z hz q.1 (List.mem_map_of_mem hq) e.symm
theorem off_back {pre need : List (Addr × Obj)} (h : OwnOff need (List.map (fun q : Addr × Obj => q.1) pre)) : OwnOff pre (need.map (·.1)) := by
  intro q hq b hb e
  obtain ⟨z, hz, rfl⟩ := List.mem_map.mp hb
  exact h z hz q.1 (List.mem_map_of_mem (f := fun q : Addr × Obj => q.1) hq) e.symm
theorem carried_two {g : Int → PySem.Str} {l : List Int} {ys : List Value} (h : CarriedAll ys (l.map fun k => PyData.str (g k))) (hl : 2 ≤ l.length) :
    ∃ a ta b tb rest rs, ys = .str a ta :: .str b tb :: rest ∧ rest.length + 2 = l.length ∧ StrsAre rest rs := by
  have key : ∀ {vs : List Value} {l : List Int}, CarriedAll vs (l.map fun k => PyData.str (g k)) → StrsAre vs (l.map g) := by
    intro vs l
    induction l generalizing vs with
    | nil => intro h; cases h; exact .nil
    | cons k r ih =>
      intro h
      cases h with
      | cons h1 h2 =>
        cases h1
        exact .cons _ _ (ih h2)
  match l, hl, h with
  | k1 :: k2 :: r, _, h =>
    cases h with
    | cons h1 h3 =>
      cases h3 with
      | cons h2 h4 =>
        cases h1
        cases h2
        exact ⟨_, _, _, _, _, _, rfl, by have := h4.length_eq; simp at this; simp [this], key h4⟩
theorem mk_use {w : World} {p : Program} {loose : List Str} {mean : ExcName → Option Value} {mg mb : Str → Option Value}
    {dp un : Nat} {gd : Option (List Code)} {cn : Str} {cs : Scope} {a : Addr} {ccd : Value} {cl : List (Str × Addr)} {outer : List Env} {A₀ : Around} {base h₀ : Heap} {L : Addr} {m : Str → Option Value} {pre : List (Addr × Obj)} {s : Shared} {n bl : Int} {tn tb : Tok} {Q E : Value → Shared → Prop}
    (B : Below A₀ base outer h₀) (F : Fr h₀ L s.heap m) (X : (Mine.K w.params).In h₀) (N : News h₀ L s.heap (pre ++ [(304, tabObj #[])])) (T : Top p loose mean mg mb h₀) (hk : cs.kind = .function) (hc : CodeHd h₀ 308 304) (hne : ∀ q ∈ pre, q.1 ≠ 304) (h0 : 1 ≤ n) (h1 : n ≤ 41) (hd : dp + 1 < recursionLimit) (hu : un + 8 < cLine)
    (ret : ∀ f need tab h' tk', FirstSpec w p loose mean mg mb need f n bl n (fun need1 => HashSpec w p loose mean mg mb need1 f n ∧ FnIn need1 f) → FnIn need f → OwnOff (pre ++ [(304, tabObj (#[] ++ #[rawInt (294 : Nat), rawInt (4 : Nat), tab]))]) (need.map (·.1)) → OwnOff need (List.map (fun q : Addr × Obj => q.1) (pre ++ [(304, tabObj (#[] ++ #[rawInt (294 : Nat), rawInt (4 : Nat), tab]))])) → Fr h₀ L h' m →
      News h₀ L h' (pre ++ ((304, tabObj (#[] ++ #[rawInt (294 : Nat), rawInt (4 : Nat), tab])) :: need)) → Q (.ref f) { s with heap := h', toks := tk' }) :
    wpAny (model PySem.Challenge.pw_aj5026_01 w) (ktrTop dp un gd cn cs L a ccd cl outer) (call (.ref 309) [.int n tn, .int bl tb]) Q E s := by
  refine mk_tells _ _ _ _ _ _ _ _ _ _ _ _ _ _ pre _ _ _ _ _ _ _ B F X (News.perm N fun q hq => ?_) T hk hc ?_ h0 h1 hd hu fun f need lo tab h' tk' hf hfn hlo h304 hge F' N' => ?_
  · rcases List.mem_cons.mp hq with rfl | hq
    · exact List.mem_append_right _ (.head _)
    · exact List.mem_append_left _ hq
  · intro q hq b hb
    rw [List.mem_singleton.mp hb]
    exact hne q hq
  · have hO : OwnOff (pre ++ [(304, tabObj (#[] ++ #[rawInt (294 : Nat), rawInt (4 : Nat), tab]))]) (need.map (·.1)) := by
      intro q hq b hb
      obtain ⟨z, hz, rfl⟩ := List.mem_map.mp hb
      have hz' := hge z hz
      rcases List.mem_append.mp hq with hq | hq
      · exact Nat.ne_of_lt (Nat.lt_of_lt_of_le (kst_ltOf hlo q hq) hz')
      · rw [List.mem_singleton.mp hq]
        exact Nat.ne_of_lt (Nat.lt_of_lt_of_le h304 hz')
    refine ret f need tab h' tk' hf hfn hO (off_flip hO) F' (News.perm N' fun q hq => ?_)
    rcases List.mem_append.mp hq with hq | hq
    · exact List.mem_append_right _ (.tail _ hq)
    · rcases List.mem_cons.mp hq with rfl | hq
      · exact List.mem_append_right _ (.head _)
      · exact List.mem_append_left _ hq
theorem info_use {w : World} {p : Program} {loose : List Str} {mean : ExcName → Option Value} {mg mb : Str → Option Value} {need : List (Addr × Obj)} {f : Addr} {n bl : Int} {Next : List (Addr × Obj) → Prop} (H : FirstSpec w p loose mean mg mb need f n bl n Next)
    {dp un : Nat} {gd : Option (List Code)} {cn : Str} {cs : Scope} {a : Addr} {ccd : Value} {cl : List (Str × Addr)} {outer : List Env} {A₀ : Around} {base h₀ : Heap} {L : Addr} {m : Str → Option Value} {pre : List (Addr × Obj)} {s : Shared} {nm : Addr} {n1 n2 : Str} {u1 u2 : Tok} {rest : List Value} {k : Nat} {Q E : Value → Shared → Prop}
    (B : Below A₀ base outer h₀) (F : Fr h₀ L s.heap m) (X : (Mine.K w.params).In h₀) (N : News h₀ L s.heap (pre ++ need)) (T : Top p loose mean mg mb h₀) (hk : cs.kind = .function) (hsep : OwnOff need (List.map (fun q : Addr × Obj => q.1) pre)) (hfn : FnIn need f)
    (hnm : (nm, { cls := .type "list", data := .seq (.str n1 u1 :: .str n2 u2 :: rest).toArray k }) ∈ pre) (hrest : rest.length ≤ 10) (h0 : 1 ≤ n) (h1 : n ≤ 41) (hd : dp + 8 < recursionLimit) (hu : un + 80 < cLine)
    (ret : ∀ need1 x dx al h1 h2 h3 h4 h5 h6 t1 t2 t3 t4 t5 t6 tn tb h' tk', Next need1 → AllLt dx pre → @LT.lt Nat _ dx x → @LT.lt Nat _ dx al → OwnOff need1 [dx] → OwnOff need1 (List.map (fun q : Addr × Obj => q.1) pre) → Fr h₀ L h' m →
      News h₀ L h' ((x, instObj 155 dx) :: (dx, infoObj h1 h2 h3 h4 h5 h6 t1 t2 t3 t4 t5 t6 (.str n1 u1) (.str n2 u2) (.ref al) f n bl tn tb) :: (al, { cls := .type "list", data := .seq rest.toArray }) :: (pre ++ need1)) → Q (.ref x) { s with heap := h', toks := tk' }) :
    wpAny (model PySem.Challenge.pw_aj5026_01 w) (ktrTop dp un gd cn cs L a ccd cl outer) (call (.ref 155) [.ref f, .ref nm]) Q E s := by
  refine info_tells H _ _ _ _ _ _ _ _ _ _ _ _ _ _ pre _ nm n1 n2 u1 u2 rest k _ _ B F X (News.perm N fun q hq => ?_) T hk (off_back hsep) hfn hnm hrest h0 h1 hd hu fun need1 x dx al h1 h2 h3 h4 h5 h6 t1 t2 t3 t4 t5 t6 tn tb h' tk' hn l1 l2 l3 ho hp F' N' => ret need1 x dx al h1 h2 h3 h4 h5 h6 t1 t2 t3 t4 t5 t6 tn tb h' tk' hn l1 l2 l3 ho hp F' (News.perm N' fun q hq => ?_)
  · exact (List.mem_append.mp hq).elim (List.mem_append_right _) (List.mem_append_left _)
  · rcases List.mem_cons.mp hq with rfl | hq
    · exact .head _
    · rcases List.mem_cons.mp hq with rfl | hq
      · exact .tail _ (.head _)
      · rcases List.mem_cons.mp hq with rfl | hq
        · exact .tail _ (.tail _ (.head _))
        · exact .tail _ (.tail _ (.tail _ ((List.mem_append.mp hq).elim (List.mem_append_right _) (List.mem_append_left _))))
end Mine

end
section
open PySem PySem.Spec PySem.Calls PySem.W PyProof.Rows
set_option Elab.async false
namespace Mine
abbrev excObj (X : String) (t : Addr) : Obj := { cls := .type X, data := .fields #[.ref t, .none, .none, .none, .bool false, .none] }
abbrev excTup (vs : List Value) : Obj := { cls := .type "tuple", data := .seq vs.toArray }
section
variable {prog : Program} {w : World} {A : Around} {E : Value → Shared → Prop} {s : Shared} {h₀ : Heap} {L : Addr} {m : Str → Option Value} {news : List (Addr × Obj)} {X Ni Ii : String} {vs : List Value}
/-- an exception made as a value, onto the ledger -/
theorem exc_led {Q : Value → Shared → Prop} (hc : ExcCallFacts X Ni Ii) (F : Fr h₀ L s.heap m) (N : News h₀ L s.heap news) (hz : vs.length ≤ 8)
    (h : ∀ e t h', Fr h₀ L h' m → News h₀ L h' ((e, excObj X t) :: (t, excTup vs) :: news) → (∀ q ∈ news, q.1 ≠ e ∧ q.1 ≠ t) → Q (.ref e) { s with heap := h' }) : wpAny (model prog w) A (call (.type X) vs) Q E s := by
  obtain ⟨hp, g, d, tk, os⟩ := s
  dsimp only at F N h
  refine wpAny_call_exc hc (fun h' e x => ?_) (by rw [sizeLine_eq]; omega)
  obtain ⟨t, he, ht0, ht⟩ := x.there
  have fresh : ∀ b, hp.get? b = none → b ≠ L ∧ h₀.get? b = none := fun b hb => by
    refine ⟨fun q => ?_, ?_⟩
    · obtain ⟨o, _, _, e', _⟩ := F.ns
      rw [q, e'] at hb
      cases hb
    · cases q : h₀.get? b with
      | none => rfl
      | some o => rw [F.keep _ _ q] at hb; cases hb
  refine h e t h' (F.keeps x.keeps) (fun q hq => ?_) fun q hq => ⟨fun z => ?_, fun z => ?_⟩
  · rcases List.mem_cons.mp hq with rfl | hq
    · exact ⟨he, fresh _ x.new⟩
    · rcases List.mem_cons.mp hq with rfl | hq
      · exact ⟨ht, fresh _ ht0⟩
      · exact ⟨x.keeps _ _ (N q hq).1, (N q hq).2⟩
  · have := (N q hq).1
    rw [z, x.new] at this; cases this
  · have := (N q hq).1
    rw [z, ht0] at this; cases this
/-- and raised: as if it were made here and now -/
theorem raise_led {e t : Addr} (hc : ExcClass X Ni Ii) (F : Fr h₀ L s.heap m) (N : News h₀ L s.heap ((e, excObj X t) :: (t, excTup vs) :: news)) (hne : ∀ q ∈ news, q.1 ≠ e ∧ q.1 ≠ t)
    (h : ∀ h₂, Heap.MadeExcOf h₂ s.heap e (.type X) vs → Fr h₀ L h₂ m → News h₀ L h₂ news → E (.ref e) s) : Raisable E (.ref e) s := by
  have he := N _ (.head _)
  have ht := N _ (.tail _ (.head _))
  refine ⟨e, _, _, X, Ni, Ii, hc, rfl, he.1, rfl, rfl, rfl, h (hideAll s.heap [e, t]) ⟨fun b o q => of_hideAll _ q, hideAll_none _ (.head _), t, he.1, hideAll_none _ (.tail _ (.head _)), ht.1⟩ ?_ fun q hq => ?_⟩
  · obtain ⟨o, es, ep, hL, r⟩ := F.ns
    refine ⟨⟨o, es, ep, hideAll_get _ hL fun z => ?_, r⟩, fun b o q => hideAll_get _ (F.keep b o q) fun z => ?_, F.above⟩
    · rcases List.mem_cons.mp z with z | z
      · exact he.2.1 z.symm
      · exact ht.2.1 (List.mem_singleton.mp z).symm
    · rcases List.mem_cons.mp z with z | z
      · rw [z, he.2.2] at q; cases q
      · rw [List.mem_singleton.mp z, ht.2.2] at q; cases q
  · have n := N q (.tail _ (.tail _ hq))
    refine ⟨hideAll_get _ n.1 fun z => ?_, n.2⟩
    rcases List.mem_cons.mp z with z | z
    · exact (hne q hq).1 z
    · exact (hne q hq).2 (List.mem_singleton.mp z)
end
end Mine

end
section
open PySem PySem.Spec PySem.Calls PySem.W PyProof.Rows
set_option Elab.async false
namespace Mine
set_option maxRecDepth 100000
set_option maxHeartbeats 4000000
theorem fga_slot : Slot "function" "__getattribute__" "object.__getattribute__" :=
  .of (owner := "object") (n := "__getattribute__") (by rw [typeLookup_type, builtinLookup_eq_fast]; kernel_rfl) (by decide +kernel) (by decide +kernel) (by decide +kernel)
    (by first | exact .inl (by decide +kernel) | exact .inr (by decide +kernel)) (by rw [isSubtype_type]; kernel_rfl)
theorem fga_entry : entryFor table "object.__getattribute__" = some Builtin.«object.__getattribute__» := entryFor_of_tree (by kernel_rfl)
theorem fga_args (a b : Value) : argsOk "object.__getattribute__" ⟨[a, b], []⟩ := by kernel_rfl
theorem fcl_lookup : typeLookup (.type "function") "__class__" = pure (some (.builtin "object.__class__")) := by rw [typeLookup_type, builtinLookup_eq_fast]; kernel_rfl
theorem fcl_owner : isSubtype (.type "function") (.type (".".intercalate ("object.__class__".cutAt '.').dropLast)) = pure true := by
  rw [F.owner_object_class, isSubtype_type]; kernel_rfl
section
variable {prog : Program} {w : World} {A : Around} {E : Value → Shared → Prop} {h : Heap} {g : Array GenState} {d : Drawn} {t : Nat} {os : OsState} {a : Addr} {o : Obj}
/-- the class of a function, read as an attribute -/
theorem fn_class {Q : Option Value → Shared → Prop} (hx : h.get? a = some o) (hc : o.cls = .type "function") (hq : Q (some (.type "function")) ⟨h, g, d, t + 1, os⟩) : wpAny (model prog w) A (getAttr? (.ref a) "__class__") Q E ⟨h, g, d, t, os⟩ := by
  have hT : ∀ tk, (⟨h, g, d, tk, os⟩ : Shared).TypeIs (.ref a) "function" := fun _ => ⟨_, hx, hc⟩
  have hG : ∀ tk, (⟨h, g, d, tk, os⟩ : Shared).TypeIs (.builtin "object.__class__") "getset_descriptor" := fun _ => F.typeOf_object_class
  have get : ∀ {A : Around} {R : Result → Shared → Prop} {tk : Nat}, R (.ok (.ret (.type "function"))) ⟨h, g, d, tk, os⟩ →
      codeAny (model prog w) A (.call (.builtin "getset_descriptor.__get__") ⟨[.builtin "object.__class__", .ref a, .type "function"], []⟩) R ⟨h, g, d, tk, os⟩ := by
    intro A R tk hR
    have hT := hT tk
    have hG := hG tk
    have f8 := fcl_owner
    refine codeAny_call_builtin F.slot_gs_get.plain F.entry_gs_get (F.slot_gs_get.check _ _ _ _ _ _ _ _ hG (F.args_gs_get _ _ _) ?_)
    repeat (any_goals (first | assumption | wp_step))
    refine ⟨Code.quiet_builtin _ (by decide +kernel), codeAny_builtin F.entry_object_class ?_⟩
    repeat (any_goals (first | assumption | wp_step))
  have entry : ∀ {A : Around} {E : Value → Shared → Prop} {Q : Fin → Shared → Prop} {tk : Nat} {u : Tok}, Q (.done (.ret (.type "function"))) ⟨h, g, d, tk, os⟩ →
      wpAny (model prog w) A (Builtin.«object.__getattribute__» ⟨[.ref a, .str "__class__" u], []⟩) Q E ⟨h, g, d, tk, os⟩ := by
    intro A E Q tk u hQ
    have hT := hT tk
    have hG := hG tk
    have f4 := fcl_lookup
    have f5 := F.typeOf_object_class
    have f6 := F.slot_gs_get.lookup
    have f7 := F.slot_gs_set.lookup
    repeat (any_goals (first | assumption | wp_step))
    refine get ?_
    repeat (any_goals (first | assumption | wp_step))
  have by_ : ∀ {A : Around} {E : Value → Shared → Prop} {Q : Value → Shared → Prop} {tk : Nat} {u : Tok}, Q (.type "function") ⟨h, g, d, tk, os⟩ → wpAny (model prog w) A (getAttrBy (.ref a) (.str "__class__" u) false) Q E ⟨h, g, d, tk, os⟩ := by
    intro A E Q tk u hQ
    have hT' := hT tk
    have f2 := fga_slot.lookup
    have f3 := fga_slot.bind (.ref a)
    repeat (any_goals (first | assumption | wp_step))
    refine codeAny_call_builtin fga_slot.plain fga_entry (fga_slot.check _ _ _ _ _ _ _ _ hT' (fga_args _ _) (entry ?_))
    repeat (any_goals (first | assumption | wp_step))
  unfold getAttr? getAttrBy?
  repeat (any_goals (first | assumption | with_reducible apply by_ | wp_step))
end
theorem fn_cls {a : Addr} {prog : Program} {w : World} {A : Around} {E : Value → Shared → Prop} {Q : Option Value → Shared → Prop} {s : Shared} (p : ∃ o, s.heap.get? a = some o ∧ o.cls = .type "function") (h : Q (some (.type "function")) { s with toks := s.toks + 1 }) :
    wpAny (model prog w) A (getAttr? (.ref a) "__class__") Q E s := let ⟨_, h1, h2⟩ := p; fn_class h1 h2 h
theorem fn_is {prog : Program} {w : World} {A : Around} {E : Value → Shared → Prop} {s : Shared} {K : Frag} {C f : Addr} {h₀ : Heap} {L : Addr} {news : List (Addr × Obj)} {od : Option Addr} {fd : FuncData} {sl : Array (Option Value)} {Q : Value → Shared → Prop}
    (X : K.In s.heap) (N : News h₀ L s.heap news) (hm : (f, (⟨.type "function", od, .func fd, sl⟩ : Obj)) ∈ news) (e : isNotIn K "function" C = true) (h : Q (.bool false) { s with toks := s.toks + 1 }) : wpAny (model prog w) A (call (.builtin "isinstance") [.ref f, .ref C]) Q E s :=
  isn_call (T := "function") (P := fun h => ∃ o, h.get? f = some o ∧ o.cls = .type "function") X (fun M => (Looks.ld (N _ hm).1).andThen .now) e (fun q => by cases q) ⟨_, (N _ hm).1, rfl⟩ (fun p q => fn_cls p q) h
end Mine

end
section
open PySem PySem.Spec PySem.Calls PySem.W PyProof.Rows
set_option Elab.async false
namespace Mine
theorem fillUp10 : (fun (_ : OpenLaw) (_ : Params → Frag) => True) PySem.Challenge.rw_aj5026_01 Mine.K := by
  k_fill
  trivial
local macro_rules | `(tactic| k_in) => `(tactic| (refine' Frag.In.keeps ?x (Fr.keep ?f); (case f => k_asm); (case x => k_asm)))
local macro_rules | `(tactic| cell_enter) => `(tactic| (refine' code_def ?k1 ?k2 ?k3 ?k4 ?k5 ?kA ?kF ?kK ?k6 ?k7 ?k8 ?k9 ?kB ?_ ?c2 ?c3 ?c4 ?c5; (case kA => exact rfl); (case kF => exact rfl); (case kK => first | assumption | exact rfl); (case k1 => k_asm); (case k2 => k_asm); (case k3 => k_asm); (case k4 => k_asm); (case k5 => k_asm); (case k6 => k_is); (case k7 => k_is); (case k8 => ktr_room); (case k9 => first | exact BindsTo.of_eq rfl | exact binds_K (by k_in) rfl (by k_is) rfl rfl rfl); (case kB => exact locs rfl); (case c5 => decide); (case c2 => exact rfl); (case c3 => exact rfl); (case c4 => exact rfl); k_whole; intro g' L' h' FG' F' N' B' X' T'; (try dsimp only); (try k_lift B'); (try k_fold)))
local macro_rules | `(tactic| ktr_units) => `(tactic| ((have hcL9 := cLine_is); (try simp only [units_under_make, units_in1, units_deeper, Around.mark_units, units_caller]); (try dsimp only [ktrTop]); omega))
local macro_rules | `(tactic| k_room) => `(tactic| ktr_room)
local macro_rules | `(tactic| k_units) => `(tactic| ktr_units)
local macro_rules | `(tactic| k_mem) => `(tactic| assumption)
local macro_rules | `(tactic| walk_at "call type:TypeError") => `(tactic| (k_here; k_dflt (refine' exc_led PySem.F.excCall_TypeError ?F ?N ?z ?_; (case F => k_asm); (case N => k_asm); (case z => exact Nat.le_of_ble_eq_true rfl)); intro e' t' h' F' N' ne'))
local macro_rules | `(tactic| walk_at "call builtin:isinstance") => `(tactic| (k_here; (with_reducible show wpAny _ _ (call _ [Value.ref _, Value.ref 155]) _ _ _); k_dflt (refine' fn_is (K := Mine.K _) ?X ?N ?m ?e ?_; (case X => k_in); (case N => k_asm); (case m => k_mem); (case e => k_not))))
local macro_rules | `(tactic| walk_at "Raisable") => `(tactic| (k_here; k_dflt (refine' raise_led excClass_TypeError ?F ?N ?n ?_; (case F => k_asm); (case N => k_asm); (case n => assumption)); intro h' kMade F' N'; (try dsimp only)))
def KindTells (w : World) (p : Program) (loose : List Str) (mean : ExcName → Option Value) (mg mb : Str → Option Value) : Prop :=
  ∀ (dp un : Nat) (gd : Option (List Code)) (cn : Str) (cs : Scope) (a : Addr) (ccd : Value) (cl : List (Str × Addr)) (A₀ : Around) (base h₀ : Heap) (L : Addr) (m : Str → Option Value) (news : List (Addr × Obj)) (s : Shared)
    (ix dx : Addr) (h1 h2 h3 h4 h5 h6 : Int) (t1 t2 t3 t4 t5 t6 : Tok) (v1 v2 v3 : Value) (f : Addr) (n bl : Int) (tn tb : Tok) (od : Option Addr) (fd : FuncData) (sl : Array (Option Value)) (k : Int) (tk : Tok) (nm : Str) (tm : Tok)
    (Q E : Value → Shared → Prop),
    (Mine.K w.params).In base → Top p loose mean mg mb base → Below A₀ base [] h₀ → Fr h₀ L s.heap m → (Mine.K w.params).In h₀ → News h₀ L s.heap news → Top p loose mean mg mb h₀ → cs.kind = .function → (ix, instObj 155 dx) ∈ news → (dx, infoObj h1 h2 h3 h4 h5 h6 t1 t2 t3 t4 t5 t6 v1 v2 v3 f n bl tn tb) ∈ news → (f, (⟨.type "function", od, .func fd, sl⟩ : Obj)) ∈ news →
    0 ≤ k → k < 4 → dp + 12 < recursionLimit → un + 100 < cLine →
    (∀ t h' tk', Fr h₀ L h' m → News h₀ L h' news → Q (.str (PySem.Str.ofString "TypeError") t) { s with heap := h', toks := tk' }) →
    wpAny (model PySem.Challenge.pw_aj5026_01 w) (ktrTop dp un gd cn cs L a ccd cl []) (call (.ref 316) [.int k tk, .ref ix, .ref f, .str nm tm]) Q E s
set_option maxRecDepth 100000 in
set_option maxHeartbeats 8000000 in
theorem kind_tells {w : World} {p : Program} {loose : List Str} {mean : ExcName → Option Value} {mg mb : Str → Option Value} : KindTells w p loose mean mg mb := by
  unfold KindTells
  intro dp un gd cn cs a ccd cl A₀ base h₀ L m news s ix dx h1 h2 h3 h4 h5 h6 t1 t2 t3 t4 t5 t6 v1 v2 v3 f n bl tn tb od fd sl k tk nm tm Q E XB TB B F X N T hk hix hdx hf hk0 hk1 hd hu hret
  obtain rfl | rfl | rfl | rfl : k = 0 ∨ k = 1 ∨ k = 2 ∨ k = 3 := by omega
  all_goals (refine wpAny_call ?_)
  all_goals k_dflt (refine' code_try ?k1 ?k2 ?k3 ?k4 ?k5 ?kA ?kF ?kK ?k6 ?k7 ?k8 ?k9 ?kB ?_ ?c2 ?c3 ?c4 ?c5; (case kA => exact rfl); (case kF => exact rfl); (case kK => assumption); (case k2 => k_asm); (case k1 => k_asm); (case k3 => k_asm); (case k4 => k_asm); (case k5 => k_asm); (case k6 => k_is); (case k7 => k_is); (case k8 => ktr_room); (case k9 => first | exact binds_K (by k_in) rfl (by k_is) rfl rfl rfl | exact BindsTo.of_eq rfl); (case kB => exact locs rfl); (case c2 => exact rfl); (case c3 => exact rfl); (case c4 => exact rfl); (case c5 => decide); k_whole; intro g' L' h' FG' F' N' B' X' T' D'; (try dsimp only); (try k_lift B'); (try k_fold))
  all_goals k_steps
  all_goals first | exact hret _ _ _ (by k_asm) (by k_asm) | exact hret _ _ _ (by k_asm) (News.perm (by k_asm) (fun p hp => List.mem_cons_of_mem _ hp)) | exact hret _ _ _ (by k_asm) (News.perm (by k_asm) (fun p hp => List.mem_cons_of_mem _ (List.mem_cons_of_mem _ hp)))
end Mine

end
section
open PySem PySem.Spec PySem.Calls PySem.W PyProof.Rows
set_option Elab.async false
namespace Mine
section
variable {prog : Program} {w : World} {A₀ A : Around} {s : Shared} {base h₀ : Heap} {L : Addr} {m : Str → Option Value} {env : Env} {news : List (Addr × Obj)} {K : Frag} {p : Program} {loose : List Str} {mean : ExcName → Option Value} {mg mb : Str → Option Value}
    {R : Result → Shared → Prop} {name qual : Str} {params : Arguments} {body : List Stmt} {scope : Scope} {dV kV doc pm cdv ct oc : Value} {an od : Option Addr} {osl : Array (Option Value)} {f : Addr} {args : Args} {binds : List (Str × Value)}
/-- what a frame that catches hands back is what the outermost frame, hidden objects and all, asks -/
theorem leave_up {fs : List Addr} {g : Heap} {v : Value} {s' : Shared} (hfs : fs = [L]) (F : Fr h₀ L s.heap m) (st : h₀.StaysIn g) (hLg : g.get? L = s.heap.get? L) (hl : LeaveS0 fs h₀ L m g R v s') : R (.ok (.ret v)) s' := by
  obtain ⟨oL, es, ep, hL, hLd, hLk, hLf⟩ := F.ns
  rw [hL] at hLg
  obtain ⟨g', L', m', news', T', F', N', k⟩ := hl
  subst hfs
  obtain ⟨sl, hs⟩ := T'.up hLg
  have back : ∀ b o, h₀.get? b = some o → g'.get? b = some o := fun b o e => T'.other b o (st b o e) fun q => by
    rw [List.mem_singleton.mp q, kts_self F] at e
    cases e
  refine k ⟨⟨_, es, ep, F'.keep _ _ hs, hLd, hLk, hLf⟩, fun b o e => F'.keep b o (back b o e), F.above⟩ fun q hq => ⟨(N' q hq).1, fun e => ?_, ?_⟩
  · have := (N' q hq).2.2
    rw [e, hs] at this
    cases this
  · cases e : h₀.get? q.1 with
    | none => rfl
    | some o =>
      have := (N' q hq).2.2
      rw [back _ _ e] at this
      cases this
/-- a def with cells of its own that catches is entered from the outermost frame -/
theorem code_tryC (B : Below A₀ base [] h₀) (F : Fr h₀ L s.heap m) (X₀ : K.In h₀) (N : News h₀ L s.heap news) (T : Top p loose mean mg mb h₀) (hA : A.frames = some [env]) (hf : env.frame = some L) (hke : env.scope.kind = .function)
    (ho : K.lookup f = some ⟨oc, od, .func (fnOf name qual params body scope dV kV doc pm an cdv ct), osl⟩) (hcd : codeIn K cdv qual = true) (hroom : A.depth < recursionLimit)
    (hbind : BindsTo s (fnOf name qual params body scope dV kV doc pm an cdv ct) args binds) (hkind : (binds.all fun y => scope.names.lookup y.1 == some .local || scope.names.lookup y.1 == some .cell) = true)
    (hnd : ((cellsFrom 0 scope.names []).map (·.1)).Nodup)
    (h : ∀ g L' h₁ tk cells, Fr h₀ L g m → Fr g L' h₁ (bindL (envOfC qual scope L' f cdv).kindOf binds fun _ => none) → News g L' h₁ (cells ++ news) →
      CellsAre (bindC (envOfC qual scope L' f cdv).kindOf binds fun _ => none) (cellsFrom (L' + 1) scope.names []) cells → Below A base [env] g → K.In g → Top p loose mean mg mb g → (∀ p ∈ news, p.1 < L') → KtsDicts ([env].filterMap (·.frame)) g →
      wpAny (model prog w) (A.deeper (envOfC qual scope L' f cdv)) (execs body (envOfC qual scope L' f cdv))
        (fun fl s' => LeaveS0 ([env].filterMap (·.frame)) h₀ L m g R (match fl with | .ret v => v | _ => .none) s')
        (fun e s' => wpAny (model prog w) (A.deeper (envOfC qual scope L' f cdv)) («leaving» (envOfC qual scope L' f cdv) e) (fun _ s'' => R (.error e) s'') (fun e' s'' => R (.error e') s'') s')
        { s with heap := h₁, toks := tk })
    (hco : scope.isCoroutine = false) (hgen : scope.isGenerator = false) (hk : scope.kind = .function) : codeAny (model prog w) A (.call (.ref f) args) R s := by
  have X := X₀.keeps F.keep
  obtain ⟨FG, BG, st, -⟩ := groundX (R := R) B F N hA hf hke
  have hfr : [env].filterMap (·.frame) = [L] := by simp [hf]
  have hLg : (hideAll s.heap (news.map (·.1))).get? L = s.heap.get? L := by
    obtain ⟨o, es, ep, e, _⟩ := FG.ns
    rw [e]
    exact (of_hideAll _ e).symm
  refine codeAny_call_function hroom (X _ _ ho) rfl hco hgen rfl (codeRec_of X hcd) (hbind _ _ _ _ ?_)
  refine wpAny_newFunctionEnv_cells hk (kindsX hkind _) fun env' he s' x => ?_
  subst he
  refine ⟨((T.nolimit.keeps F.keep)).keeps x.toInCall.keep, codeAny_func ?_⟩
  obtain ⟨h₁, tk, rfl, _⟩ := x.done
  have hk₁ := x.toInCall.keep
  obtain ⟨cells, NC, Y⟩ := Cl.news (h₀ := s.heap) (Nat.le_refl _) fun n c hm => ⟨x.cell n c (lookup_of_mem_nodup (cellsFrom_names scope.names 0 (s.heap.objs.size + 1) [] [] rfl ▸ hnd) hm), x.above n c hm⟩
  have NG : News (hideAll s.heap (news.map (·.1))) s.heap.objs.size h₁ (cells ++ news) := fun q hq => by
    rcases List.mem_append.mp hq with hq | hq
    · refine ⟨(NC q hq).1, (NC q hq).2.1, ?_⟩
      cases e : (hideAll s.heap (news.map (·.1))).get? q.1 with
      | none => rfl
      | some o => have := of_hideAll _ e; rw [(NC q hq).2.2] at this; cases this
    · exact ⟨hk₁ _ _ (N q hq).1, Nat.ne_of_lt (Heap.lt_size (N q hq).1), hideAll_none _ (List.mem_map_of_mem hq)⟩
  have DG : KtsDicts ([env].filterMap (·.frame)) (hideAll s.heap (news.map (·.1))) := fun b hb => by
    rw [hfr, List.mem_singleton] at hb
    obtain ⟨o, es, ep, e, hd, _⟩ := FG.ns
    exact ⟨o, es, ep, hb ▸ e, hd⟩
  exact wpAny_mono (h _ s.heap.objs.size h₁ tk cells FG ⟨x.toInCall.ns, fun b o e => hk₁ b o (of_hideAll _ e), Nat.le_of_eq (hideAll_size _ _)⟩ NG Y BG (X₀.keeps st) (T.keeps st) (fun p hp => Heap.lt_size (N p hp).1) DG)
    (fun fl s' hl => leave_up hfr F st hLg hl) fun _ _ y => y
end
section
variable {prog : Program} {w : World} {A₀ : Around} {E : Value → Shared → Prop} {s' : Shared} {base g g₀ G : Heap} {outer : List Env} {L e t : Addr} {m : Str → Option Value} {name : Str} {scope : Scope} {a : Addr} {cd : Value} {cl : List (Str × Addr)}
  {vs : List Value} {b₀ : Stmt} {suite : List Stmt} {pos np : Pos} {rest : List ExceptHandler} {Q : Flow → Shared → Prop} {news : List (Addr × Obj)} {KF : Frag}
  {p : Program} {loose : List Str} {mean : ExcName → Option Value} {mg mb : Str → Option Value} {x : Str} {X T' : String}
/-- a raise of a callee's is caught by a frame that has cells; of the exception itself nothing is kept -/
theorem caught_cells (R : RaisedSN base G (envX name scope L a cd cl :: outer) e (.type X) news s'.heap) (F : Fr g L G m) (K : Below A₀ base outer g) (hsm : G.UpToSlots s'.heap) (XB : KF.In base) (TB : Top p loose mean mg mb base)
    (D : KtsDicts (outer.filterMap (·.frame)) g) (T0 : KtsTurn (outer.filterMap (·.frame)) g₀ g)
    (ex : nsIn KF mainGlobals x = some none) (hv : bootBuiltins x = some (.type T')) (hn' : x ≠ "__name__")
    (hexc : isSubtype (.type T') (.type "BaseException") = pure true) (hnt : isSubtype (.type ((Manifest.find? T').elim "type" fun y => y.metatype)) (.type "tuple") = pure false) (hsub : isSubtype (.type X) (.type T') = pure true)
    (k : ∀ h' g', KtsTurn (outer.filterMap (·.frame)) g₀ g' → Fr g' L h' m → News g' L h' news → Below A₀ base outer g' → KF.In g' → Top p loose mean mg mb g' → KtsDicts (outer.filterMap (·.frame)) g' →
      wpAny (model prog w) ((A₀.deeper (envX name scope L a cd cl)).mark (some (.ref e))) (execs (b₀ :: suite) (envX name scope L a cd cl)) Q E { s' with heap := h' })
    (hk : scope.kind = .function := by rfl) (hx : (envX name scope L a cd cl).kindOf x = some .globalImplicit := by rfl) (hd : (x == ("__debug__" : Str)) = false := by decide)
    (hE : PassesOwnAt (model prog w) ((A₀.deeper (envX name scope L a cd cl)).mark (some (.ref e))) (A₀.deeper (envX name scope L a cd cl)) (envX name scope L a cd cl) E := by passes_own) :
    wpAny (model prog w) (A₀.deeper (envX name scope L a cd cl)) (noteFrame (.ref e) (envX name scope L a cd cl))
      (fun _ s₂ => wpAny (model prog w) (A₀.deeper (envX name scope L a cd cl)) (setFlight (.ref e) none) (fun _ s₃ =>
        wpAny (model prog w) (A₀.deeper (envX name scope L a cd cl)) (handleBy (.ref e) (envX name scope L a cd cl) (.ExceptHandler (some (.Name x np)) none (b₀ :: suite) pos :: rest)) Q E s₃) E s₂) E s' := by
  obtain ⟨B, a0, hB, hBG, hl, hfl⟩ := R
  have hBG' : ∀ b o, G.get? b = some o → b ∉ (envOf name scope L a cd :: outer).filterMap (·.frame) → B.get? b = some o := hBG
  have hL : B.get? L = none := by
    obtain ⟨_, ⟨L', _, hf, hn', _⟩, _⟩ := hfl.2.2.1
    cases hf
    exact hn'
  refine wpAny_looks_onW (Around.frames_deeper K.stack) rfl hfl fun h₄ hheld₄ hsm₄ => ?_
  refine wpAny_landsW hheld₄ fun h₅ hheld hsm₅ => ?_
  have hu := hsm.trans (hsm₄.trans hsm₅)
  obtain ⟨g₅, T₅, F₅, K₅⟩ := kts_ground K F hBG' hheld.1 hu
  obtain ⟨ob, hob, hobc⟩ := hheld.there
  refine wpAny_handleBy_builtin (X := X) (T := T') (b := true) hexc hnt hsub (nameX_B F₅ (XB.keeps K₅.stays) (topRead_of (TB.keeps K₅.stays)) ex hv hn' ⟨rfl, ⟨ob, hob, hobc⟩, ?_⟩ hk hx hd)
  refine lands_againW hheld fun h₆ hfl₆ hsm₆ => ?_
  obtain ⟨g₆, T₆, F₆, K₆⟩ := kts_ground K F hBG' hfl₆.1 (hu.trans hsm₆)
  exact wpAny_passesOwnAt hE (k h₆ g₆ (T0.trans T₆) F₆ (fun q hq => ⟨hfl₆.1 _ _ (hl q hq).1, (fun z => by have := (hl q hq).1; rw [z, hL] at this; cases this), T₆.none_ _ (kts_none F.keep (hl q hq).2.1)⟩)
    K₆ (XB.keeps K₆.stays) (TB.keeps K₆.stays) (D.turn T₆))
end
section
variable {M : Model} {A : Around} {E : Value → Shared → Prop} {s : Shared}
/-- the frame of a def whose one parameter is a cell, and its only cell -/
theorem newEnv1 {scope : Scope} {globals : Addr} {cl : List (Str × Addr)} {x : Str} {v : Value} {qual : Str} {func : Option Addr} {code : Value} {builtins : Addr} {Q : Env → Shared → Prop} (hk : scope.kind = .function) (hkx : scope.names.lookup x = some .cell) (hcf : ∀ n, cellsFrom n scope.names cl = (x, n) :: cl)
    (hpc : ∀ h, pushCells h scope.names = h.push { cls := .type "cell", data := .cell none })
    (hQ : ∀ h', (∀ b o, s.heap.get? b = some o → h'.get? b = some o) → h'.Ns s.heap.objs.size (fun _ => none) → h'.IsCell (s.heap.objs.size + 1) (some v) →
      Q (newEnv scope s.heap.objs.size globals ((x, s.heap.objs.size + 1) :: cl) qual func code none builtins) { s with heap := h' }) :
    wpAny M A (newFunctionEnv scope globals cl [(x, v)] qual func code none builtins) Q E s := by
  simp only [newFunctionEnv, Option.isSome_none, Bool.false_eq_true, if_false]
  refine wpAny_bind (wpAny_alloc ?_)
  refine wpAny_bind (wpAny_layCells _ (fun name kind cells => by cases hkc : kind == NameKind.cell <;> simp [hkc]) _ _ _ _ ?_)
  rw [show ({ s with heap := s.heap.push { cls := .type "frame", data := .dict #[] } } : Shared).heap.objs.size = s.heap.objs.size + 1 from Heap.size_push .., hcf]
  dsimp only
  rw [hpc]
  have hup : ∀ b o, s.heap.get? b = some o → ((s.heap.push { cls := .type "frame", data := .dict #[] }).push { cls := .type "cell", data := .cell none }).get? b = some o := fun b o e => Heap.get?_push_of_some _ (Heap.get?_push_of_some _ e)
  have hns : ((s.heap.push { cls := .type "frame", data := .dict #[] }).push { cls := .type "cell", data := .cell none }).Ns s.heap.objs.size (fun _ => none) := (Heap.Ns.new s.heap (.type "frame")).keeps fun b o e => Heap.get?_push_of_some _ e
  have hce : ((s.heap.push { cls := .type "frame", data := .dict #[] }).push { cls := .type "cell", data := .cell none }).IsCell (s.heap.objs.size + 1) none := ⟨_, Heap.get?_push_at (by rw [Heap.size_push]) rfl, rfl⟩
  generalize (s.heap.push { cls := .type "frame", data := .dict #[] }).push { cls := .type "cell", data := .cell none } = H at hup hns hce ⊢
  refine wpAny_bind ?_
  rw [List.forIn_cons]
  refine wpAny_bind (wpAny_bind (wpAny_storeName_cell (c := s.heap.objs.size + 1) (v₀ := none) hk hkx (by simp [newEnv]) hce fun h' hc' hs' => wpAny_pure ?_))
  dsimp only
  rw [List.forIn_nil]
  refine wpAny_pure (wpAny_pure (hQ h' (fun b o e => hs'.extBut b o (Nat.ne_of_lt (Nat.lt_succ_of_lt (Heap.lt_size e))) (hup b o e)) (hns.sameBut hs' (Nat.ne_of_lt (Nat.lt_succ_self _))) hc'))
end
section
variable {prog : Program} {w : World} {A A₀ : Around} {s : Shared} {K : Frag} {L : Addr} {h₀ base : Heap} {m mg mb : Str → Option Value} {news : List (Addr × Obj)} {p : Program} {loose : List Str} {mean : ExcName → Option Value}
  {env : Env} {outer : List Env} {R : Result → Shared → Prop} {name qual : Str} {params : Arguments} {body : List Stmt} {scope : Scope} {cl : List (Str × Addr)} {dV doc pm ctv : Value} {c' P' : Addr} {oc : Obj} {f : Addr} {args : Args} {x : Str} {v : Value}
/-- a def of the ledger whose one parameter is a cell is entered -/
theorem code_own1 (B : Below A₀ base outer h₀) (F : Fr h₀ L s.heap m) (X₀ : K.In h₀) (N : News h₀ L s.heap news) (T : Top p loose mean mg mb h₀) (hA : A.frames = some (env :: outer)) (hf : env.frame = some L) (hke : env.scope.kind = .function)
    (ho : (f, fnMadeD name qual params body scope cl dV doc pm c' ctv) ∈ news) (hoc : (c', oc) ∈ news) (hcd : CodeOf oc P' qual) (hroom : A.depth < recursionLimit)
    (hbind : BindsTo s (fnX name qual params body scope cl dV .none doc pm none (.ref c') ctv) args [(x, v)]) (hkx : scope.names.lookup x = some .cell) (hcf : ∀ n, cellsFrom n scope.names cl = (x, n) :: cl)
    (hpc : ∀ h, pushCells h scope.names = h.push { cls := .type "cell", data := .cell none })
    (h : ∀ g L' h₁ cells, Fr h₀ L g m → Fr g L' h₁ (fun _ => none) → News g L' h₁ (cells ++ news) → CellsAre (fun _ => some v) [(x, L' + 1)] cells →
      Below A base (env :: outer) g → K.In g → Top p loose mean mg mb g → (∀ p ∈ news, p.1 < L') →
      wpAny (model prog w) (A.deeper (envX qual scope L' f (.ref c') ((x, L' + 1) :: cl))) (execs body (envX qual scope L' f (.ref c') ((x, L' + 1) :: cl)))
        (fun fl s' => LeaveK h₀ L m g R (match fl with | .ret v => v | _ => .none) s')
        (fun e s' => wpAny (model prog w) (A.deeper (envX qual scope L' f (.ref c') ((x, L' + 1) :: cl))) («leaving» (envX qual scope L' f (.ref c') ((x, L' + 1) :: cl)) e) (fun _ s'' => R (.error e) s'') (fun e' s'' => R (.error e') s'') s')
        { s with heap := h₁ })
    (hco : scope.isCoroutine = false) (hgen : scope.isGenerator = false) (hk : scope.kind = .function) : codeAny (model prog w) A (.call (.ref f) args) R s := by
  obtain ⟨FG, BG, st, lv⟩ := groundX (R := R) B F N hA hf hke
  refine codeAny_call_function hroom (N _ ho).1 rfl hco hgen rfl (hcd.rec N hoc) (hbind _ _ _ _ ?_)
  refine newEnv1 hk hkx hcf hpc fun h₁ hk₁ hns hce => ?_
  refine ⟨(T.nolimit.keeps F.keep).keeps hk₁, codeAny_func ?_⟩
  obtain ⟨cells, NC, Y⟩ := Cl.news (cm := fun _ => some v) (cs := [(x, s.heap.objs.size + 1)]) (h := h₁) (h₀ := s.heap) (Nat.le_refl s.heap.objs.size) fun n c hm => by
    rw [List.mem_singleton] at hm
    cases hm
    exact ⟨hce, Nat.lt_succ_self _⟩
  refine wpAny_mono (h _ s.heap.objs.size h₁ cells FG ⟨hns, fun b o e => hk₁ b o (of_hideAll _ e), Nat.le_of_eq (hideAll_size _ _)⟩ (fun p hp => ?_) Y BG (X₀.keeps st) (T.keeps st) (fun p hp => Heap.lt_size (N p hp).1)) (fun fl s' hl => lv _ _ hl) fun _ _ y => y
  rcases List.mem_append.mp hp with hp | hp
  · refine ⟨(NC p hp).1, (NC p hp).2.1, ?_⟩
    cases q : (hideAll s.heap (news.map (·.1))).get? p.1 with
    | none => rfl
    | some o => have := of_hideAll _ q; rw [(NC p hp).2.2] at this; cases this
  · exact ⟨hk₁ _ _ (N p hp).1, Nat.ne_of_lt (Heap.lt_size (N p hp).1), hideAll_none _ (List.mem_map_of_mem hp)⟩
end
end Mine

end
section
open PySem PySem.Spec PySem.Calls PySem.W PyProof.Rows PySem.Builtin PySem.Builtin.Str
set_option Elab.async false
namespace Mine
set_option maxRecDepth 100000
set_option maxHeartbeats 4000000
/-- a text of so many signs at most, each a sign that has a number -/
def Tame (n : Nat) (x : PySem.Str) : Prop := x.length ≤ n ∧ ∀ c ∈ x.cps.toList, c < 16 ^ 8
theorem tame_of (x : String) {n : Nat} (h : (PySem.Str.ofString x).length ≤ n) : Tame n (PySem.Str.ofString x) := by
  refine ⟨h, fun c hc => ?_⟩
  rw [PySem.Str.ofString_eq_toList] at hc
  simp only [List.mem_map] at hc
  obtain ⟨d, _, rfl⟩ := hc
  have h2 : d.toNat < 0x110000 := by
    have hv := d.valid
    simp only [UInt32.isValidChar, Nat.isValidChar] at hv
    show d.val.toNat < _
    omega
  exact Nat.lt_trans h2 (by decide)
theorem tame_add {a b k : Nat} {x y : PySem.Str} (hx : Tame a x) (hy : Tame b y) (h : a + b ≤ k) : Tame k (x ++ y) := by
  refine ⟨by rw [PySem.Str.length_append]; have := hx.1; have := hy.1; omega, fun c hc => ?_⟩
  have e : (x ++ y).cps = x.cps ++ y.cps := rfl
  rw [e, Array.toList_append, List.mem_append] at hc
  exact hc.elim (hx.2 c) (hy.2 c)
theorem tame_repr {n : Nat} {x : PySem.Str} (h : Tame n x) : (reprText x).length ≤ 10 * n + 2 := by
  have := StrLaws.reprText_len x h.2
  have := h.1
  omega
section
variable {prog : Program} {w : World} {A : Around} {E : Value → Shared → Prop} {s : Shared}
theorem repr_under {b : Nat} {x : PySem.Str} {t : Tok} {Q : Value → Shared → Prop} (hsz : (reprText x).length ≤ 1000000) (h : Q (.str (reprText x) s.toks) { s with toks := s.toks + 1 }) : wpAny (model prog w) A (pyReprObjUnder b (.str x t)) Q E s := by
  unfold pyReprObjUnder pyReprObjBy
  simp only [cRoomFor, show [Value.str x t].any Value.onHeap = false from rfl, Bool.false_eq_true, if_false, pure_bind]
  refine wpAny_bind (wpAny_specialOf (name := PySem.Str.ofString "__repr__") (typeIs_str s x t) F.slot_str_repr.lookup ?_)
  refine wpAny_bind (wpAny_callSpecialIfBoundBy?_slotG (name := PySem.Str.ofString "__repr__") (typeIs_str s x t) F.slot_str_repr.toG ?_)
  show wpAny _ _ (call (.builtin "str.__repr__") [.str x t]) _ _ _
  refine call_gives F.slot_str_repr (typeIs_str s x t) F.entry_str_repr (F.args_str_repr_1 _) (gives_str_repr x t) ⟨by rw [sizeLine_eq]; omega, ?_⟩
  exact wpAny_bind (wpAny_isInstance (T := "str") (b := true) rfl isSubtype_str_str (wpAny_pure h))
local macro_rules | `(tactic| kpc_conv) => `(tactic| (refine wpAny_bind (repr_under (by with_reducible assumption) ?_); refine wpAny_bind (wpAny_of_eq (a := some _) rfl ?_)))
theorem mod_repr {y : PySem.Str} {t u : Tok} {Q : Value → Shared → Prop} (hy : Tame 60 y) (h : ∀ z t' k, Q (.str z t') { s with toks := k }) :
    wpAny (model prog w) A (binaryOp .Mod (.str (PySem.Str.ofString "%r constructor failed sanity check") t) (.str y u)) Q E s := by
  have hK : (reprText y).length ≤ 1000000 := by have := tame_repr hy; omega
  have hX : PySem.Str.ofString "%r constructor failed sanity check" = (⟨#[37, 114, 32, 99, 111, 110, 115, 116, 114, 117, 99, 116, 111, 114, 32, 102, 97, 105, 108, 101, 100, 32, 115, 97, 110, 105, 116, 121, 32, 99, 104, 101, 99, 107]⟩ : PySem.Str) := by decide +kernel
  rw [hX]
  have hm : Meets («str.__mod__» ⟨[.str (⟨#[37, 114, 32, 99, 111, 110, 115, 116, 114, 117, 99, 116, 111, 114, 32, 102, 97, 105, 108, 101, 100, 32, 115, 97, 110, 105, 116, 121, 32, 99, 104, 101, 99, 107]⟩ : PySem.Str) t, .str y u], []⟩)
      (fun _ R s => ∀ t' k, R (.ok (.ret (.str (reprText y ++ (⟨#[32, 99, 111, 110, 115, 116, 114, 117, 99, 116, 111, 114, 32, 102, 97, 105, 108, 101, 100, 32, 115, 97, 110, 105, 116, 121, 32, 99, 104, 101, 99, 107]⟩ : PySem.Str)) t'))) { s with toks := k }) := by
    k_dflt kpc_run_s
  exact binaryOp_meets (T := "str") (op := .Mod) (typeIs_str s _ t) (typeIs_str s y u) F.fills_str_mod F.slot_str_mod F.entry_str_mod (F.args_str_mod_2 _ _) hm (fun t' k => ⟨(fun e => nomatch e), h _ t' k⟩)
end
end Mine

end
section
open PySem PySem.Spec PySem.Calls PySem.W PyProof.Rows
namespace Mine
/-- the long names of the two defs within _law_made -/
def QC : PySem.Str := PySem.Str.ofString "_law_made" ++ PySem.Str.ofString ".<locals>." ++ PySem.Str.ofString "const"
def QD : PySem.Str := QC ++ PySem.Str.ofString ".<locals>." ++ PySem.Str.ofString "digest"
theorem qual_loc {env : Env} {n b : PySem.Str} {k : NameKind} (h : env.kindOf b = some k) (hk : k ≠ .globalExplicit) : qualnameIn env n b = env.qual ++ n := by
  unfold qualnameIn
  rw [h, if_neg]
  intro e
  exact hk (Option.some.inj (beq_iff_eq.mp e))
theorem codeOf_at {oc : Obj} {P : Addr} {q q' : PySem.Str} (C : CodeOf oc P q) (e : q = q') : CodeOf oc P q' := e ▸ C
end Mine

end
section
open PySem PySem.Spec PySem.Calls PySem.W PyProof.Rows
set_option Elab.async false
namespace Mine
theorem fillUp_C10 : (fun (_ : OpenLaw) (_ : Params → Frag) => True) PySem.Challenge.rw_aj5026_01 Mine.K := by
  k_fill
  trivial
local macro_rules | `(tactic| k_in) => `(tactic| (refine' Frag.In.keeps ?x (Fr.keep ?f); (case f => k_asm); (case x => k_asm)))
local macro_rules | `(tactic| k_all) => `(tactic| first | kst_allNe | ((rename AllLt _ _ => hA9); exact allNe_le hA9 (by omega)))
local macro_rules | `(tactic| cell_enter) => `(tactic| (refine' code_def ?k1 ?k2 ?k3 ?k4 ?k5 ?kA ?kF ?kK ?k6 ?k7 ?k8 ?k9 ?kB ?_ ?c2 ?c3 ?c4 ?c5; (case kA => exact rfl); (case kF => exact rfl); (case kK => first | assumption | exact rfl); (case k1 => k_asm); (case k2 => k_asm); (case k3 => k_asm); (case k4 => k_asm); (case k5 => k_asm); (case k6 => k_is); (case k7 => k_is); (case k8 => ktr_room); (case k9 => first | exact BindsTo.of_eq rfl | exact binds_K (by k_in) rfl (by k_is) rfl rfl rfl); (case c5 => decide); (case kB => exact locs rfl); (case c2 => exact rfl); (case c3 => exact rfl); (case c4 => exact rfl); k_whole; intro g' L' h' FG' F' N' B' X' T'; (try dsimp only); (try k_lift B'); (try k_fold)))
local macro_rules | `(tactic| k_room) => `(tactic| ktr_room)
local macro_rules | `(tactic| k_units) => `(tactic| ktr_units)
local macro_rules | `(tactic| ktr_units) => `(tactic| ((have hcL9 := cLine_is); (try simp only [units_under_make, units_in1, units_deeper, Around.mark_units, units_caller]); (try dsimp only [ktrTop]); omega))
local macro_rules | `(tactic| walk_at "ite") => `(tactic| first
  | ((with_reducible show if (_ != _) = true then _ else _); refine ite_neg ?_ ?_; (focus ((simp only [bne_iff_ne, ne_eq, Decidable.not_not]); omega)))
  | ((with_reducible show if (_ != _) = true then _ else _); refine ite_pos ?_ ?_; (focus ((simp only [bne_iff_ne, ne_eq]); omega)))
  | ((with_reducible show if (decide _) = true then _ else _); refine ite_neg ?_ ?_; (focus ((simp only [decide_eq_true_eq]); omega)))
  | ((with_reducible show if (decide _) = true then _ else _); refine ite_pos ?_ ?_; (focus ((simp only [decide_eq_true_eq]); omega))))
local macro_rules | `(tactic| walk_at "exec FunctionDef") => `(tactic| (k_here; (first
  | (k_dflt (refine' def_plain ?d0 ?k0 ?a0 ?_; (case d0 => exact rfl); (case k0 => exact rfl); (case a0 => exact rfl)))
  | (k_dflt (refine' def_bytes_K ?F ?N ?d0 ?k0 ?a0 ?_; (case F => k_asm); (case N => k_asm); (case d0 => exact rfl); (case k0 => exact rfl); (case a0 => exact rfl)); intro dT tT h' tk' F' N' l1; (try k_lt l1); (try k_sweep))); (first
  | (k_dflt (refine' tail_hit ?F ?N ?T ?C ?cd ?mem ?t ?n ?cl ?_; (case F => k_asm); (case N => k_asm); (case T => k_asm); (case cd => exact rfl); (case C => first | exact CodeHd.keeps (by with_reducible assumption) (Fr.keep (by k_asm)) | exact CodeHd.keeps (CodeHd.keeps (by assumption) (Fr.keep (by assumption))) (Fr.keep (by k_asm)) | exact CodeHd.keeps (CodeHd.keeps (by assumption) (Below.stays (by assumption))) (Fr.keep (by k_asm)) | (refine' CodeOf.hd ?ca ?cb ?cc ?ce; (case cb => k_asm); (case cc => k_mem); (case ca => assumption); (case ce => assumption))); (case mem => k_mem); (case t => kn_triples); (case n => kn_hit); (case cl => exact rfl); k_whole); intro f' ct' dc' h' tk' F' N' l1; (try dsimp only at N'); (try k_lt l1); (try k_sweep))
  | (k_dflt (refine' tail_miss ?F ?N ?T ?C ?cd ?U ?t ?n ?cl ?_; (case F => k_asm); (case N => k_asm); (case T => k_asm); (case cd => exact rfl); (case C => first | exact CodeHd.keeps (by with_reducible assumption) (Fr.keep (by k_asm)) | exact CodeHd.keeps (CodeHd.keeps (by assumption) (Fr.keep (by assumption))) (Fr.keep (by k_asm)) | exact CodeHd.keeps (CodeHd.keeps (by assumption) (Below.stays (by assumption))) (Fr.keep (by k_asm)) | (refine' CodeOf.hd ?ca ?cb ?cc ?ce; (case cb => k_asm); (case cc => k_mem); (case ca => assumption); (case ce => assumption))); (case U => k_updF); (case t => kn_triples); (case n => kn_among); (case cl => exact rfl); k_whole); intro f' c' P' oc' ct' dc' h' tk' F' N' C' l1 l2 l3 l4 l5; (try dsimp only at N'); (try k_lt l1); (try k_lt l2); (try k_lt2 l4); (try k_lt2 l5); (try k_sweep)))))
local macro_rules | `(tactic| walk_at "callWith ref") => `(tactic| (k_here; k_dflt (first
  | (refine' callWith_F ?k1 ?_; (case k1 => exact FnAt.of (by k_asm) (by k_mem)); k_whole)
  | (refine' callWith_F0 ?k1 ?_; (case k1 => exact FnAt.of (by k_asm) (by k_mem)); k_whole; try dsimp only [List.nil_append, List.cons_append]))))
local macro_rules | `(tactic| walk_at "call ref") => `(tactic| (k_here; k_dflt (refine wpAny_call ?_; (first
  | (refine' code_own0 ?k1 ?k2 ?k3 ?k4 ?k5 ?kA ?kF ?kK ?k6 ?ka ?kb ?k8 ?k9 ?kB ?_ ?c2 ?c3 ?c4 ?c5; (case kA => exact rfl); (case kF => exact rfl); (case kK => first | assumption | exact rfl); (case k1 => k_asm); (case k2 => k_asm); (case k3 => k_asm); (case k4 => k_asm); (case k5 => k_asm); (case k6 => k_mem); (case c5 => decide); (case ka => k_mem); (case kb => assumption); (case k8 => ktr_room); (case k9 => first | exact BindsTo.of_eq rfl | exact binds_news (by k_asm) (by k_mem) rfl rfl rfl rfl); (case kB => exact locs rfl); (case c2 => exact rfl); (case c3 => exact rfl); (case c4 => exact rfl); k_whole; intro g' L' h' FG' F' N' B' X' T' l1; (try dsimp only); (try k_lt l1); (try k_lift B'); (try k_fold))
  | (refine' code_own ?k1 ?k2 ?k3 ?k4 ?k5 ?kA ?kF ?kK ?k6 ?ka ?kb ?k8 ?k9 ?kB ?_ ?c2 ?c3 ?c4; (case kA => exact rfl); (case kF => exact rfl); (case kK => first | assumption | exact rfl); (case k1 => k_asm); (case k2 => k_asm); (case k3 => k_asm); (case k4 => k_asm); (case k5 => k_asm); (case k6 => k_mem); (case ka => k_mem); (case kb => assumption); (case k8 => ktr_room); (case k9 => first | exact BindsTo.of_eq rfl | exact binds_news (by k_asm) (by k_mem) rfl rfl rfl rfl); (case kB => exact locs rfl); (case c2 => exact rfl); (case c3 => exact rfl); (case c4 => exact rfl); k_whole; intro g' L' h' tk' cells' FG' F' N' Y' B' X' T' l1; (try dsimp only); (try k_lt l1); (try ((have lA9 := l1); (repeat (replace lA9 := lA9.2)))); k_cells Y'; (try simp only [List.cons_append, List.nil_append] at N'); (try k_lift B'); (try k_fold))))))
local macro_rules | `(tactic| walk_at "call ref") => `(tactic| (k_here; k_dflt (first
  | ((with_reducible show wpAny _ _ (call (Value.ref 302) [Value.bytes _ _, Value.int _ _]) _ _ _); refine' sum_use ?k1 ?k2 ?k3 ?k4 ?k5 ?kK ?kb ?k6 ?k7 ?kd ?ku ?_; (case k1 => k_asm); (case k2 => k_asm); (case k3 => k_asm); (case k4 => k_asm); (case k5 => k_asm); (case kK => first | assumption | exact rfl); (case kb => first | assumption | omega | (simp only [lawSum_size, Array.size_append, List.size_toArray, List.length_cons, List.length_nil]; omega)); (case k6 => first | assumption | omega); (case k7 => first | assumption | omega); (case kd => ktr_room); (case ku => ktr_units); intro b9 t9 h9 tk9 hb9 hz9 F9 N9; (try dsimp only); (try k_fold))
  | ((with_reducible show wpAny _ _ (call (Value.ref 285) [_, _, _, _, _]) _ _ _); refine' hand_use ?k1 ?k2 ?k3 ?k4 ?k5 ?kK ?kd ?ku ?_; (case k1 => k_asm); (case k2 => k_asm); (case k3 => k_asm); (case k4 => k_asm); (case k5 => k_asm); (case kK => first | assumption | exact rfl); (case kd => ktr_room); (case ku => ktr_units); intro x9 dx9 h9 tk9 F9 N9 l1 l2; (try dsimp only); (try k_lt l1); (try k_lt2 l2); (try k_fold)))))
local macro_rules | `(tactic| walk_at "getMethod ref") => `(tactic| (k_here; (with_reducible show wpAny _ _ (getMethod (Value.ref _) (PySem.Str.ofString "digest") _) _ _ _); k_dflt (refine' hand_digest ?k1 ?k2 ?k3 ?k4 ?k5 ?kK ?kx ?kdx ?kd ?ku ?kh ?_; (case k1 => k_asm); (case k2 => k_asm); (case k3 => k_asm); (case k4 => k_asm); (case k5 => k_asm); (case kK => first | assumption | exact rfl); (case kx => k_mem); (case kdx => k_mem); (case kd => ktr_room); (case ku => ktr_units); (case kh => rfl); intro h9 tk9 F9 N9; (try dsimp only); (try k_fold))))
local macro_rules | `(tactic| walk_at "getAttr ref") => `(tactic| (k_here; (with_reducible show wpAny _ _ (getAttr (Value.ref _) (PySem.Str.ofString "digest_size") _) _ _ _); k_dflt (refine' hand_size ?k1 ?k2 ?k3 ?k4 ?k5 ?kK ?kx ?kdx ?kd ?ku ?kh ?_; (case k1 => k_asm); (case k2 => k_asm); (case k3 => k_asm); (case k4 => k_asm); (case k5 => k_asm); (case kK => first | assumption | exact rfl); (case kx => k_mem); (case kdx => k_mem); (case kd => ktr_room); (case ku => ktr_units); (case kh => rfl); intro h9 tk9 F9 N9; (try dsimp only); (try k_fold))))
local macro_rules | `(tactic| walk_at "getAttr ref") => `(tactic| (k_here; (with_reducible show wpAny _ _ (getAttr (Value.ref _) (PySem.Str.ofString "block_size") _) _ _ _); k_dflt (refine' hand_block ?k1 ?k2 ?k3 ?k4 ?k5 ?kK ?kx ?kdx ?kd ?ku ?kh ?_; (case k1 => k_asm); (case k2 => k_asm); (case k3 => k_asm); (case k4 => k_asm); (case k5 => k_asm); (case kK => first | assumption | exact rfl); (case kx => k_mem); (case kdx => k_mem); (case kd => ktr_room); (case ku => ktr_units); (case kh => rfl); intro h9 tk9 F9 N9; (try dsimp only); (try k_fold))))
local macro_rules | `(tactic| walk_at "subscriptTail Name Slice ref ref") => `(tactic| (k_here; k_dflt (refine' slice_list2 ?F ?N ?t ?z ?_ ?s ?g; (case F => k_asm); (case N => k_asm); (case t => k_mem); (case z => first | assumption | omega); (case s => with_unfolding_all rfl); (case g => intro _; with_unfolding_all rfl)); intro D' h' F' N' l1; (try k_lt l1); (try k_sweep)))
local macro_rules | `(tactic| k_mem) => `(tactic| assumption)
local macro_rules | `(tactic| walk_at "subscriptTail") => `(tactic| (k_here; (with_reducible show wpAny _ _ (subscriptTail _ _ (Value.ref _) (Value.int _ _)) _ _ _); k_dflt (refine' item_l ?N ?m ?a ?b ?c ?_; (case N => k_asm); (case m => k_mem); (case a => decide); (case b => decide); (case c => rfl))))
local macro_rules | `(tactic| walk_at "InitBack error") => `(tactic| (k_here; dsimp only [InitBack]))
local macro_rules | `(tactic| walk_at "binaryOp Mod str str") => `(tactic| (k_here; (with_reducible show wpAny _ _ (binaryOp _ (Value.str (PySem.Str.ofString "%r constructor failed sanity check") _) (Value.str _ _)) _ _ _); k_dflt (refine' mod_repr ?y ?_; (case y => assumption)); intro z' t' k'))
local macro_rules | `(tactic| walk_at "call ref") => `(tactic| (k_here; k_dflt (refine wpAny_call ?_; (refine' code_own1 ?k1 ?k2 ?k3 ?k4 ?k5 ?kA ?kF ?kK ?k6 ?ka ?kb ?k8 ?k9 ?x1 ?x2 ?x3 ?_ ?c2 ?c3 ?c4; (case kA => exact rfl); (case kF => exact rfl); (case kK => first | assumption | exact rfl); (case k1 => k_asm); (case k2 => k_asm); (case k3 => k_asm); (case k4 => k_asm); (case k5 => k_asm); (case k6 => k_mem); (case ka => k_mem); (case kb => assumption); (case k8 => ktr_room); (case k9 => first | exact BindsTo.of_eq rfl | exact binds_news (by k_asm) (by k_mem) rfl rfl rfl rfl); (case x1 => exact rfl); (case x2 => exact fun _ => rfl); (case x3 => exact fun _ => rfl); (case c2 => exact rfl); (case c3 => exact rfl); (case c4 => exact rfl); k_whole; intro g' L' h' cells' FG' F' N' Y' B' X' T' l1; (try dsimp only); (try k_lt l1); (try ((have lA9 := l1); (repeat (replace lA9 := lA9.2)))); k_cells Y'; (try simp only [List.cons_append, List.nil_append] at N'); (try k_lift B'); (try k_fold)))))
local macro_rules | `(tactic| walk_at "exec Try") => `(tactic| (k_here; (with_reducible show wpAny _ _ (exec (Stmt.Try _ (_ :: _) _ [] _) _) _ _ _); refine wpAny_Try_except ?_))
local macro_rules | `(tactic| walk_at "noteFrame ref") => `(tactic| (k_here; k_dflt (refine' caught_cells (T' := "RuntimeError") ?R ?F ?K ?U ?XB ?TB ?D ?T0 ?ex PyProof.Rows.Boot.«RuntimeError» ?hn PySem.F.isExc_RuntimeError PySem.F.notTuple_RuntimeError ?hs ?_; (case R => assumption); (case F => assumption); (case K => assumption); (case U => assumption); (case XB => assumption); (case TB => assumption); (case D => assumption); (case T0 => first | assumption | exact KtsTurn.refl); (case hs => kts_sub); (case ex => k_is); (case hn => decide); k_whole); intro h' g' T' F' N' K' X' P' D'; (try k_lift K'); (try k_sweep)))
def MadeMiss (w : World) (p : Program) (loose : List Str) (mean : ExcName → Option Value) (mg mb : Str → Option Value) : Prop :=
  ∀ (dp un : Nat) (gd : Option (List Code)) (cn : Str) (cs : Scope) (a : Addr) (ccd : Value) (cl : List (Str × Addr)) (A₀ : Around) (base h₀ : Heap) (L : Addr) (m : Str → Option Value) (news : List (Addr × Obj)) (s : Shared) (nm : Addr) (n1 n2 : Str) (u1 u2 : Tok) (rest : List Value) (kn : Nat) (n told bl : Int) (tn tt tb : Tok) (Q E : Value → Shared → Prop),
    (Mine.K w.params).In base → Top p loose mean mg mb base → Below A₀ base [] h₀ → Fr h₀ L s.heap m → (Mine.K w.params).In h₀ → News h₀ L s.heap ((318, tabObj #[]) :: news) → Top p loose mean mg mb h₀ → cs.kind = .function → CodeHd h₀ 322 318 → OwnOff news [318] →
    (nm, ({ cls := .type "list", data := .seq (.str n1 u1 :: .str n2 u2 :: rest).toArray kn } : Obj)) ∈ news → rest.length ≤ 10 → Tame 60 n1 → 1 ≤ n → n ≤ 41 → 0 ≤ told → told ≤ 100 → told ≠ n → dp + 12 < recursionLimit → un + 100 < cLine →
    (∀ c0 oc0 P0 d0 od0 R0 t h' tk', CodeOf oc0 P0 QC → CodeOf od0 R0 QD → @Ne Nat c0 P0 → @Ne Nat d0 R0 → Fr h₀ L h' m → News h₀ L h' ((c0, oc0) :: (P0, tabObj (#[] ++ #[rawInt (324 : Nat), rawInt (8 : Nat), .ref d0])) :: (d0, od0) :: (318, tabObj (#[] ++ #[rawInt (322 : Nat), rawInt (4 : Nat), .ref c0])) :: news) → Q (.str (PySem.Str.ofString "RuntimeError") t) { s with heap := h', toks := tk' }) →
    wpAny (model PySem.Challenge.pw_aj5026_01 w) (ktrTop dp un gd cn cs L a ccd cl []) (call (.ref 323) [.int n tn, .int told tt, .int bl tb, .ref nm]) Q E s

set_option maxRecDepth 100000 in
set_option maxHeartbeats 8000000 in
theorem made_miss {w : World} {p : Program} {loose : List Str} {mean : ExcName → Option Value} {mg mb : Str → Option Value} : MadeMiss w p loose mean mg mb := by
  unfold MadeMiss
  intro dp un gd cn cs a ccd cl A₀ base h₀ L m news s nm n1 n2 u1 u2 rest kn n told bl tn tt tb Q E XB TB B F X N T hk hCd hne hnm hrest hTame hn0 hn1 ht0 ht1 htold hd hu hret
  refine wpAny_call ?_
  k_dflt (refine' code_tryC ?k1 ?k2 ?k3 ?k4 ?k5 ?kA ?kF ?kK ?k6 ?k7 ?k8 ?k9 ?kB ?kD ?_ ?c2 ?c3 ?c4; (case kA => exact rfl); (case kF => exact rfl); (case kK => assumption); (case k2 => k_asm); (case k1 => k_asm); (case k3 => k_asm); (case k4 => k_asm); (case k5 => k_asm); (case k6 => k_is); (case k7 => k_is); (case k8 => ktr_room); (case k9 => first | exact binds_K (by k_in) rfl (by k_is) rfl rfl rfl | exact BindsTo.of_eq rfl); (case kB => exact rfl); (case kD => decide +kernel); (case c2 => exact rfl); (case c3 => exact rfl); (case c4 => exact rfl); k_whole; intro g' L' h' tk' cells' FG' F' N' Y' B' X' T' l1 D'; (try k_lt l1); k_cells Y'; (try simp only [List.cons_append, List.nil_append] at N'); (try dsimp only); (try k_lift B'); (try k_fold))
  k_steps
  with_reducible rename Fr h₀ L _ m => kF
  with_reducible rename News h₀ L _ _ => kN
  with_reducible rename CodeOf _ _ (qualnameIn _ (PySem.Str.ofString "digest") _) => hD2
  with_reducible rename CodeOf _ _ (qualnameIn _ (PySem.Str.ofString "const") _) => hC2
  have hC3 := codeOf_at (q' := QC) hC2 ((qual_loc (k := .local) rfl (by decide)).trans rfl)
  have hD3 := codeOf_at (q' := QD) hD2 ((qual_loc (k := .local) rfl (by decide)).trans (congrArg (fun q : PySem.Str => q ++ PySem.Str.ofString ".<locals>." ++ PySem.Str.ofString "digest") ((qual_loc (k := .local) rfl (by decide)).trans rfl)))
  refine' hret ?c0 _ ?P0 ?d0 _ ?R0 _ _ _ hC3 hD3 ?n1 ?n2 kF (News.perm kN (List.forall_mem_cons.mpr ⟨?m1, List.forall_mem_cons.mpr ⟨?m2, List.forall_mem_cons.mpr ⟨?m3, List.forall_mem_cons.mpr ⟨?m4, ?m5⟩⟩⟩⟩))
  case m4 => k_mem
  case m1 => k_mem
  case m2 => k_mem
  case m3 => k_mem
  case n1 => assumption
  case n2 => assumption
  case m5 => exact fun q hq => by repeat (first | exact hq | refine List.mem_cons_of_mem _ ?_)

end Mine

end
section
open PySem PySem.Spec PySem.Calls PySem.W PyProof.Rows
set_option Elab.async false
namespace Mine
theorem fillUp_C11 : (fun (_ : OpenLaw) (_ : Params → Frag) => True) PySem.Challenge.rw_aj5026_01 Mine.K := by
  k_fill
  trivial
local macro_rules | `(tactic| k_in) => `(tactic| (refine' Frag.In.keeps ?x (Fr.keep ?f); (case f => k_asm); (case x => k_asm)))
local macro_rules | `(tactic| k_all) => `(tactic| first | kst_allNe | ((rename AllLt _ _ => hA9); exact allNe_le hA9 (by omega)))
local macro_rules | `(tactic| cell_enter) => `(tactic| (refine' code_def ?k1 ?k2 ?k3 ?k4 ?k5 ?kA ?kF ?kK ?k6 ?k7 ?k8 ?k9 ?kB ?_ ?c2 ?c3 ?c4 ?c5; (case kA => exact rfl); (case kF => exact rfl); (case kK => first | assumption | exact rfl); (case k1 => k_asm); (case k2 => k_asm); (case k3 => k_asm); (case k4 => k_asm); (case k5 => k_asm); (case k6 => k_is); (case k7 => k_is); (case k8 => ktr_room); (case k9 => first | exact BindsTo.of_eq rfl | exact binds_K (by k_in) rfl (by k_is) rfl rfl rfl); (case c5 => decide); (case kB => exact locs rfl); (case c2 => exact rfl); (case c3 => exact rfl); (case c4 => exact rfl); k_whole; intro g' L' h' FG' F' N' B' X' T'; (try dsimp only); (try k_lift B'); (try k_fold)))
local macro_rules | `(tactic| k_room) => `(tactic| ktr_room)
local macro_rules | `(tactic| k_units) => `(tactic| ktr_units)
local macro_rules | `(tactic| ktr_units) => `(tactic| ((have hcL9 := cLine_is); (try simp only [units_under_make, units_in1, units_deeper, Around.mark_units, units_caller]); (try dsimp only [ktrTop]); omega))
local macro_rules | `(tactic| walk_at "ite") => `(tactic| first
  | ((with_reducible show if (_ != _) = true then _ else _); refine ite_neg ?_ ?_; (focus ((simp only [bne_iff_ne, ne_eq, Decidable.not_not]); omega)))
  | ((with_reducible show if (_ != _) = true then _ else _); refine ite_pos ?_ ?_; (focus ((simp only [bne_iff_ne, ne_eq]); omega)))
  | ((with_reducible show if (decide _) = true then _ else _); refine ite_neg ?_ ?_; (focus ((simp only [decide_eq_true_eq]); omega)))
  | ((with_reducible show if (decide _) = true then _ else _); refine ite_pos ?_ ?_; (focus ((simp only [decide_eq_true_eq]); omega))))
local macro_rules | `(tactic| walk_at "exec FunctionDef") => `(tactic| (k_here; (first
  | (k_dflt (refine' def_plain ?d0 ?k0 ?a0 ?_; (case d0 => exact rfl); (case k0 => exact rfl); (case a0 => exact rfl)))
  | (k_dflt (refine' def_bytes_K ?F ?N ?d0 ?k0 ?a0 ?_; (case F => k_asm); (case N => k_asm); (case d0 => exact rfl); (case k0 => exact rfl); (case a0 => exact rfl)); intro dT tT h' tk' F' N' l1; (try k_lt l1); (try k_sweep))); (first
  | (k_dflt (refine' tail_hit ?F ?N ?T ?C ?cd ?mem ?t ?n ?cl ?_; (case F => k_asm); (case N => k_asm); (case T => k_asm); (case cd => exact rfl); (case C => first | exact CodeHd.keeps (by with_reducible assumption) (Fr.keep (by k_asm)) | exact CodeHd.keeps (CodeHd.keeps (by assumption) (Fr.keep (by assumption))) (Fr.keep (by k_asm)) | exact CodeHd.keeps (CodeHd.keeps (by assumption) (Below.stays (by assumption))) (Fr.keep (by k_asm)) | (refine' CodeOf.hd ?ca ?cb ?cc ?ce; (case cb => k_asm); (case cc => k_mem); (case ca => assumption); (case ce => assumption))); (case mem => k_mem); (case t => kn_triples); (case n => kn_hit); (case cl => exact rfl); k_whole); intro f' ct' dc' h' tk' F' N' l1; (try dsimp only at N'); (try k_lt l1); (try k_sweep))
  | (k_dflt (refine' tail_miss ?F ?N ?T ?C ?cd ?U ?t ?n ?cl ?_; (case F => k_asm); (case N => k_asm); (case T => k_asm); (case cd => exact rfl); (case C => first | exact CodeHd.keeps (by with_reducible assumption) (Fr.keep (by k_asm)) | exact CodeHd.keeps (CodeHd.keeps (by assumption) (Fr.keep (by assumption))) (Fr.keep (by k_asm)) | exact CodeHd.keeps (CodeHd.keeps (by assumption) (Below.stays (by assumption))) (Fr.keep (by k_asm)) | (refine' CodeOf.hd ?ca ?cb ?cc ?ce; (case cb => k_asm); (case cc => k_mem); (case ca => assumption); (case ce => assumption))); (case U => k_updF); (case t => kn_triples); (case n => kn_among); (case cl => exact rfl); k_whole); intro f' c' P' oc' ct' dc' h' tk' F' N' C' l1 l2 l3 l4 l5; (try dsimp only at N'); (try k_lt l1); (try k_lt l2); (try k_lt2 l4); (try k_lt2 l5); (try k_sweep)))))
local macro_rules | `(tactic| walk_at "callWith ref") => `(tactic| (k_here; k_dflt (first
  | (refine' callWith_F ?k1 ?_; (case k1 => exact FnAt.of (by k_asm) (by k_mem)); k_whole)
  | (refine' callWith_F0 ?k1 ?_; (case k1 => exact FnAt.of (by k_asm) (by k_mem)); k_whole; try dsimp only [List.nil_append, List.cons_append]))))
local macro_rules | `(tactic| walk_at "call ref") => `(tactic| (k_here; k_dflt (refine wpAny_call ?_; (first
  | (refine' code_own0 ?k1 ?k2 ?k3 ?k4 ?k5 ?kA ?kF ?kK ?k6 ?ka ?kb ?k8 ?k9 ?kB ?_ ?c2 ?c3 ?c4 ?c5; (case kA => exact rfl); (case kF => exact rfl); (case kK => first | assumption | exact rfl); (case k1 => k_asm); (case k2 => k_asm); (case k3 => k_asm); (case k4 => k_asm); (case k5 => k_asm); (case k6 => k_mem); (case c5 => decide); (case ka => k_mem); (case kb => assumption); (case k8 => ktr_room); (case k9 => first | exact BindsTo.of_eq rfl | exact binds_news (by k_asm) (by k_mem) rfl rfl rfl rfl); (case kB => exact locs rfl); (case c2 => exact rfl); (case c3 => exact rfl); (case c4 => exact rfl); k_whole; intro g' L' h' FG' F' N' B' X' T' l1; (try dsimp only); (try k_lt l1); (try k_lift B'); (try k_fold))
  | (refine' code_own ?k1 ?k2 ?k3 ?k4 ?k5 ?kA ?kF ?kK ?k6 ?ka ?kb ?k8 ?k9 ?kB ?_ ?c2 ?c3 ?c4; (case kA => exact rfl); (case kF => exact rfl); (case kK => first | assumption | exact rfl); (case k1 => k_asm); (case k2 => k_asm); (case k3 => k_asm); (case k4 => k_asm); (case k5 => k_asm); (case k6 => k_mem); (case ka => k_mem); (case kb => assumption); (case k8 => ktr_room); (case k9 => first | exact BindsTo.of_eq rfl | exact binds_news (by k_asm) (by k_mem) rfl rfl rfl rfl); (case kB => exact locs rfl); (case c2 => exact rfl); (case c3 => exact rfl); (case c4 => exact rfl); k_whole; intro g' L' h' tk' cells' FG' F' N' Y' B' X' T' l1; (try dsimp only); (try k_lt l1); (try ((have lA9 := l1); (repeat (replace lA9 := lA9.2)))); k_cells Y'; (try simp only [List.cons_append, List.nil_append] at N'); (try k_lift B'); (try k_fold))))))
local macro_rules | `(tactic| walk_at "call ref") => `(tactic| (k_here; k_dflt (first
  | ((with_reducible show wpAny _ _ (call (Value.ref 302) [Value.bytes _ _, Value.int _ _]) _ _ _); refine' sum_use ?k1 ?k2 ?k3 ?k4 ?k5 ?kK ?kb ?k6 ?k7 ?kd ?ku ?_; (case k1 => k_asm); (case k2 => k_asm); (case k3 => k_asm); (case k4 => k_asm); (case k5 => k_asm); (case kK => first | assumption | exact rfl); (case kb => first | assumption | omega | (simp only [lawSum_size, Array.size_append, List.size_toArray, List.length_cons, List.length_nil]; omega)); (case k6 => first | assumption | omega); (case k7 => first | assumption | omega); (case kd => ktr_room); (case ku => ktr_units); intro b9 t9 h9 tk9 hb9 hz9 F9 N9; (try dsimp only); (try k_fold))
  | ((with_reducible show wpAny _ _ (call (Value.ref 285) [_, _, _, _, _]) _ _ _); refine' hand_use ?k1 ?k2 ?k3 ?k4 ?k5 ?kK ?kd ?ku ?_; (case k1 => k_asm); (case k2 => k_asm); (case k3 => k_asm); (case k4 => k_asm); (case k5 => k_asm); (case kK => first | assumption | exact rfl); (case kd => ktr_room); (case ku => ktr_units); intro x9 dx9 h9 tk9 F9 N9 l1 l2; (try dsimp only); (try k_lt l1); (try k_lt2 l2); (try k_fold)))))
local macro_rules | `(tactic| walk_at "getMethod ref") => `(tactic| (k_here; (with_reducible show wpAny _ _ (getMethod (Value.ref _) (PySem.Str.ofString "digest") _) _ _ _); k_dflt (refine' hand_digest ?k1 ?k2 ?k3 ?k4 ?k5 ?kK ?kx ?kdx ?kd ?ku ?kh ?_; (case k1 => k_asm); (case k2 => k_asm); (case k3 => k_asm); (case k4 => k_asm); (case k5 => k_asm); (case kK => first | assumption | exact rfl); (case kx => k_mem); (case kdx => k_mem); (case kd => ktr_room); (case ku => ktr_units); (case kh => rfl); intro h9 tk9 F9 N9; (try dsimp only); (try k_fold))))
local macro_rules | `(tactic| walk_at "getAttr ref") => `(tactic| (k_here; (with_reducible show wpAny _ _ (getAttr (Value.ref _) (PySem.Str.ofString "digest_size") _) _ _ _); k_dflt (refine' hand_size ?k1 ?k2 ?k3 ?k4 ?k5 ?kK ?kx ?kdx ?kd ?ku ?kh ?_; (case k1 => k_asm); (case k2 => k_asm); (case k3 => k_asm); (case k4 => k_asm); (case k5 => k_asm); (case kK => first | assumption | exact rfl); (case kx => k_mem); (case kdx => k_mem); (case kd => ktr_room); (case ku => ktr_units); (case kh => rfl); intro h9 tk9 F9 N9; (try dsimp only); (try k_fold))))
local macro_rules | `(tactic| walk_at "getAttr ref") => `(tactic| (k_here; (with_reducible show wpAny _ _ (getAttr (Value.ref _) (PySem.Str.ofString "block_size") _) _ _ _); k_dflt (refine' hand_block ?k1 ?k2 ?k3 ?k4 ?k5 ?kK ?kx ?kdx ?kd ?ku ?kh ?_; (case k1 => k_asm); (case k2 => k_asm); (case k3 => k_asm); (case k4 => k_asm); (case k5 => k_asm); (case kK => first | assumption | exact rfl); (case kx => k_mem); (case kdx => k_mem); (case kd => ktr_room); (case ku => ktr_units); (case kh => rfl); intro h9 tk9 F9 N9; (try dsimp only); (try k_fold))))
local macro_rules | `(tactic| walk_at "subscriptTail Name Slice ref ref") => `(tactic| (k_here; k_dflt (refine' slice_list2 ?F ?N ?t ?z ?_ ?s ?g; (case F => k_asm); (case N => k_asm); (case t => k_mem); (case z => first | assumption | omega); (case s => with_unfolding_all rfl); (case g => intro _; with_unfolding_all rfl)); intro D' h' F' N' l1; (try k_lt l1); (try k_sweep)))
local macro_rules | `(tactic| k_mem) => `(tactic| assumption)
local macro_rules | `(tactic| walk_at "subscriptTail") => `(tactic| (k_here; (with_reducible show wpAny _ _ (subscriptTail _ _ (Value.ref _) (Value.int _ _)) _ _ _); k_dflt (refine' item_l ?N ?m ?a ?b ?c ?_; (case N => k_asm); (case m => k_mem); (case a => decide); (case b => decide); (case c => rfl))))
local macro_rules | `(tactic| walk_at "InitBack error") => `(tactic| (k_here; dsimp only [InitBack]))
local macro_rules | `(tactic| walk_at "binaryOp Mod str str") => `(tactic| (k_here; (with_reducible show wpAny _ _ (binaryOp _ (Value.str (PySem.Str.ofString "%r constructor failed sanity check") _) (Value.str _ _)) _ _ _); k_dflt (refine' mod_repr ?y ?_; (case y => assumption)); intro z' t' k'))
local macro_rules | `(tactic| walk_at "call ref") => `(tactic| (k_here; k_dflt (refine wpAny_call ?_; (refine' code_own1 ?k1 ?k2 ?k3 ?k4 ?k5 ?kA ?kF ?kK ?k6 ?ka ?kb ?k8 ?k9 ?x1 ?x2 ?x3 ?_ ?c2 ?c3 ?c4; (case kA => exact rfl); (case kF => exact rfl); (case kK => first | assumption | exact rfl); (case k1 => k_asm); (case k2 => k_asm); (case k3 => k_asm); (case k4 => k_asm); (case k5 => k_asm); (case k6 => k_mem); (case ka => k_mem); (case kb => assumption); (case k8 => ktr_room); (case k9 => first | exact BindsTo.of_eq rfl | exact binds_news (by k_asm) (by k_mem) rfl rfl rfl rfl); (case x1 => exact rfl); (case x2 => exact fun _ => rfl); (case x3 => exact fun _ => rfl); (case c2 => exact rfl); (case c3 => exact rfl); (case c4 => exact rfl); k_whole; intro g' L' h' cells' FG' F' N' Y' B' X' T' l1; (try dsimp only); (try k_lt l1); (try ((have lA9 := l1); (repeat (replace lA9 := lA9.2)))); k_cells Y'; (try simp only [List.cons_append, List.nil_append] at N'); (try k_lift B'); (try k_fold)))))
local macro_rules | `(tactic| walk_at "exec Try") => `(tactic| (k_here; (with_reducible show wpAny _ _ (exec (Stmt.Try _ (_ :: _) _ [] _) _) _ _ _); refine wpAny_Try_except ?_))
local macro_rules | `(tactic| walk_at "noteFrame ref") => `(tactic| (k_here; k_dflt (refine' caught_cells (T' := "RuntimeError") ?R ?F ?K ?U ?XB ?TB ?D ?T0 ?ex PyProof.Rows.Boot.«RuntimeError» ?hn PySem.F.isExc_RuntimeError PySem.F.notTuple_RuntimeError ?hs ?_; (case R => assumption); (case F => assumption); (case K => assumption); (case U => assumption); (case XB => assumption); (case TB => assumption); (case D => assumption); (case T0 => first | assumption | exact KtsTurn.refl); (case hs => kts_sub); (case ex => k_is); (case hn => decide); k_whole); intro h' g' T' F' N' K' X' P' D'; (try k_lift K'); (try k_sweep)))
def MadeHitR (w : World) (p : Program) (loose : List Str) (mean : ExcName → Option Value) (mg mb : Str → Option Value) : Prop :=
  ∀ (dp un : Nat) (gd : Option (List Code)) (cn : Str) (cs : Scope) (a : Addr) (ccd : Value) (cl : List (Str × Addr)) (A₀ : Around) (base h₀ : Heap) (L : Addr) (m : Str → Option Value) (news : List (Addr × Obj)) (s : Shared) (nm : Addr) (n1 n2 : Str) (u1 u2 : Tok) (rest : List Value) (kn : Nat) (n told bl : Int) (tn tt tb : Tok) (c0 : Addr) (oc0 : Obj) (P0 d0 : Addr) (od0 : Obj) (R0 : Addr) (Q E : Value → Shared → Prop),
    (Mine.K w.params).In base → Top p loose mean mg mb base → Below A₀ base [] h₀ → Fr h₀ L s.heap m → (Mine.K w.params).In h₀ → News h₀ L s.heap news → Top p loose mean mg mb h₀ → cs.kind = .function → CodeHd h₀ 322 318 → (318, tabObj (#[] ++ #[rawInt (322 : Nat), rawInt (4 : Nat), .ref c0])) ∈ news → (c0, oc0) ∈ news → (P0, tabObj (#[] ++ #[rawInt (324 : Nat), rawInt (8 : Nat), .ref d0])) ∈ news → (d0, od0) ∈ news → CodeOf oc0 P0 QC → CodeOf od0 R0 QD → @Ne Nat c0 P0 → @Ne Nat d0 R0 →
    (nm, ({ cls := .type "list", data := .seq (.str n1 u1 :: .str n2 u2 :: rest).toArray kn } : Obj)) ∈ news → rest.length ≤ 10 → Tame 60 n1 → 1 ≤ n → n ≤ 41 → 0 ≤ told → told ≤ 100 → told ≠ n → dp + 12 < recursionLimit → un + 100 < cLine →
    (∀ t h' tk', Fr h₀ L h' m → News h₀ L h' news → Q (.str (PySem.Str.ofString "RuntimeError") t) { s with heap := h', toks := tk' }) →
    wpAny (model PySem.Challenge.pw_aj5026_01 w) (ktrTop dp un gd cn cs L a ccd cl []) (call (.ref 323) [.int n tn, .int told tt, .int bl tb, .ref nm]) Q E s

set_option maxRecDepth 100000 in
set_option maxHeartbeats 8000000 in
theorem made_hitR {w : World} {p : Program} {loose : List Str} {mean : ExcName → Option Value} {mg mb : Str → Option Value} : MadeHitR w p loose mean mg mb := by
  unfold MadeHitR
  intro dp un gd cn cs a ccd cl A₀ base h₀ L m news s nm n1 n2 u1 u2 rest kn n told bl tn tt tb c0 oc0 P0 d0 od0 R0 Q E XB TB B F X N T hk hCd h318 hc0 hP0 hd0 hC hD hcP hdR hnm hrest hTame hn0 hn1 ht0 ht1 htold hd hu hret
  refine wpAny_call ?_
  k_dflt (refine' code_tryC ?k1 ?k2 ?k3 ?k4 ?k5 ?kA ?kF ?kK ?k6 ?k7 ?k8 ?k9 ?kB ?kD ?_ ?c2 ?c3 ?c4; (case kA => exact rfl); (case kF => exact rfl); (case kK => assumption); (case k2 => k_asm); (case k1 => k_asm); (case k3 => k_asm); (case k4 => k_asm); (case k5 => k_asm); (case k6 => k_is); (case k7 => k_is); (case k8 => ktr_room); (case k9 => first | exact binds_K (by k_in) rfl (by k_is) rfl rfl rfl | exact BindsTo.of_eq rfl); (case kB => exact rfl); (case kD => decide +kernel); (case c2 => exact rfl); (case c3 => exact rfl); (case c4 => exact rfl); k_whole; intro g' L' h' tk' cells' FG' F' N' Y' B' X' T' l1 D'; (try k_lt l1); k_cells Y'; (try simp only [List.cons_append, List.nil_append] at N'); (try dsimp only); (try k_lift B'); (try k_fold))
  k_steps
  rename Fr h₀ L _ m => kF
  rename News h₀ L _ _ => kN
  exact hret _ _ _ kF (News.perm kN (fun q hq => by repeat (first | exact hq | refine List.mem_cons_of_mem _ ?_)))

end Mine

end
section
open PySem PySem.Spec PySem.Calls PySem.W PyProof.Rows
set_option Elab.async false
namespace Mine
theorem fillUp_C12 : (fun (_ : OpenLaw) (_ : Params → Frag) => True) PySem.Challenge.rw_aj5026_01 Mine.K := by
  k_fill
  trivial
local macro_rules | `(tactic| k_in) => `(tactic| (refine' Frag.In.keeps ?x (Fr.keep ?f); (case f => k_asm); (case x => k_asm)))
local macro_rules | `(tactic| k_all) => `(tactic| first | kst_allNe | ((rename AllLt _ _ => hA9); exact allNe_le hA9 (by omega)))
local macro_rules | `(tactic| cell_enter) => `(tactic| (refine' code_def ?k1 ?k2 ?k3 ?k4 ?k5 ?kA ?kF ?kK ?k6 ?k7 ?k8 ?k9 ?kB ?_ ?c2 ?c3 ?c4 ?c5; (case kA => exact rfl); (case kF => exact rfl); (case kK => first | assumption | exact rfl); (case k1 => k_asm); (case k2 => k_asm); (case k3 => k_asm); (case k4 => k_asm); (case k5 => k_asm); (case k6 => k_is); (case k7 => k_is); (case k8 => ktr_room); (case k9 => first | exact BindsTo.of_eq rfl | exact binds_K (by k_in) rfl (by k_is) rfl rfl rfl); (case c5 => decide); (case kB => exact locs rfl); (case c2 => exact rfl); (case c3 => exact rfl); (case c4 => exact rfl); k_whole; intro g' L' h' FG' F' N' B' X' T'; (try dsimp only); (try k_lift B'); (try k_fold)))
local macro_rules | `(tactic| k_room) => `(tactic| ktr_room)
local macro_rules | `(tactic| k_units) => `(tactic| ktr_units)
local macro_rules | `(tactic| ktr_units) => `(tactic| ((have hcL9 := cLine_is); (try simp only [units_under_make, units_in1, units_deeper, Around.mark_units, units_caller]); (try dsimp only [ktrTop]); omega))
local macro_rules | `(tactic| walk_at "ite") => `(tactic| first
  | ((with_reducible show if (_ != _) = true then _ else _); refine ite_neg ?_ ?_; (focus ((simp only [bne_iff_ne, ne_eq, Decidable.not_not]); omega)))
  | ((with_reducible show if (_ != _) = true then _ else _); refine ite_pos ?_ ?_; (focus ((simp only [bne_iff_ne, ne_eq]); omega)))
  | ((with_reducible show if (decide _) = true then _ else _); refine ite_neg ?_ ?_; (focus ((simp only [decide_eq_true_eq]); omega)))
  | ((with_reducible show if (decide _) = true then _ else _); refine ite_pos ?_ ?_; (focus ((simp only [decide_eq_true_eq]); omega))))
local macro_rules | `(tactic| walk_at "exec FunctionDef") => `(tactic| (k_here; (first
  | (k_dflt (refine' def_plain ?d0 ?k0 ?a0 ?_; (case d0 => exact rfl); (case k0 => exact rfl); (case a0 => exact rfl)))
  | (k_dflt (refine' def_bytes_K ?F ?N ?d0 ?k0 ?a0 ?_; (case F => k_asm); (case N => k_asm); (case d0 => exact rfl); (case k0 => exact rfl); (case a0 => exact rfl)); intro dT tT h' tk' F' N' l1; (try k_lt l1); (try k_sweep))); (first
  | (k_dflt (refine' tail_hit ?F ?N ?T ?C ?cd ?mem ?t ?n ?cl ?_; (case F => k_asm); (case N => k_asm); (case T => k_asm); (case cd => exact rfl); (case C => first | exact CodeHd.keeps (by with_reducible assumption) (Fr.keep (by k_asm)) | exact CodeHd.keeps (CodeHd.keeps (by assumption) (Fr.keep (by assumption))) (Fr.keep (by k_asm)) | exact CodeHd.keeps (CodeHd.keeps (by assumption) (Below.stays (by assumption))) (Fr.keep (by k_asm)) | (refine' CodeOf.hd ?ca ?cb ?cc ?ce; (case cb => k_asm); (case cc => k_mem); (case ca => assumption); (case ce => assumption))); (case mem => k_mem); (case t => kn_triples); (case n => kn_hit); (case cl => exact rfl); k_whole); intro f' ct' dc' h' tk' F' N' l1; (try dsimp only at N'); (try k_lt l1); (try k_sweep))
  | (k_dflt (refine' tail_miss ?F ?N ?T ?C ?cd ?U ?t ?n ?cl ?_; (case F => k_asm); (case N => k_asm); (case T => k_asm); (case cd => exact rfl); (case C => first | exact CodeHd.keeps (by with_reducible assumption) (Fr.keep (by k_asm)) | exact CodeHd.keeps (CodeHd.keeps (by assumption) (Fr.keep (by assumption))) (Fr.keep (by k_asm)) | exact CodeHd.keeps (CodeHd.keeps (by assumption) (Below.stays (by assumption))) (Fr.keep (by k_asm)) | (refine' CodeOf.hd ?ca ?cb ?cc ?ce; (case cb => k_asm); (case cc => k_mem); (case ca => assumption); (case ce => assumption))); (case U => k_updF); (case t => kn_triples); (case n => kn_among); (case cl => exact rfl); k_whole); intro f' c' P' oc' ct' dc' h' tk' F' N' C' l1 l2 l3 l4 l5; (try dsimp only at N'); (try k_lt l1); (try k_lt l2); (try k_lt2 l4); (try k_lt2 l5); (try k_sweep)))))
local macro_rules | `(tactic| walk_at "callWith ref") => `(tactic| (k_here; k_dflt (first
  | (refine' callWith_F ?k1 ?_; (case k1 => exact FnAt.of (by k_asm) (by k_mem)); k_whole)
  | (refine' callWith_F0 ?k1 ?_; (case k1 => exact FnAt.of (by k_asm) (by k_mem)); k_whole; try dsimp only [List.nil_append, List.cons_append]))))
local macro_rules | `(tactic| walk_at "call ref") => `(tactic| (k_here; k_dflt (refine wpAny_call ?_; (first
  | (refine' code_own0 ?k1 ?k2 ?k3 ?k4 ?k5 ?kA ?kF ?kK ?k6 ?ka ?kb ?k8 ?k9 ?kB ?_ ?c2 ?c3 ?c4 ?c5; (case kA => exact rfl); (case kF => exact rfl); (case kK => first | assumption | exact rfl); (case k1 => k_asm); (case k2 => k_asm); (case k3 => k_asm); (case k4 => k_asm); (case k5 => k_asm); (case k6 => k_mem); (case c5 => decide); (case ka => k_mem); (case kb => assumption); (case k8 => ktr_room); (case k9 => first | exact BindsTo.of_eq rfl | exact binds_news (by k_asm) (by k_mem) rfl rfl rfl rfl); (case kB => exact locs rfl); (case c2 => exact rfl); (case c3 => exact rfl); (case c4 => exact rfl); k_whole; intro g' L' h' FG' F' N' B' X' T' l1; (try dsimp only); (try k_lt l1); (try k_lift B'); (try k_fold))
  | (refine' code_own ?k1 ?k2 ?k3 ?k4 ?k5 ?kA ?kF ?kK ?k6 ?ka ?kb ?k8 ?k9 ?kB ?_ ?c2 ?c3 ?c4; (case kA => exact rfl); (case kF => exact rfl); (case kK => first | assumption | exact rfl); (case k1 => k_asm); (case k2 => k_asm); (case k3 => k_asm); (case k4 => k_asm); (case k5 => k_asm); (case k6 => k_mem); (case ka => k_mem); (case kb => assumption); (case k8 => ktr_room); (case k9 => first | exact BindsTo.of_eq rfl | exact binds_news (by k_asm) (by k_mem) rfl rfl rfl rfl); (case kB => exact locs rfl); (case c2 => exact rfl); (case c3 => exact rfl); (case c4 => exact rfl); k_whole; intro g' L' h' tk' cells' FG' F' N' Y' B' X' T' l1; (try dsimp only); (try k_lt l1); (try ((have lA9 := l1); (repeat (replace lA9 := lA9.2)))); k_cells Y'; (try simp only [List.cons_append, List.nil_append] at N'); (try k_lift B'); (try k_fold))))))
local macro_rules | `(tactic| walk_at "call ref") => `(tactic| (k_here; k_dflt (first
  | ((with_reducible show wpAny _ _ (call (Value.ref 302) [Value.bytes _ _, Value.int _ _]) _ _ _); refine' sum_use ?k1 ?k2 ?k3 ?k4 ?k5 ?kK ?kb ?k6 ?k7 ?kd ?ku ?_; (case k1 => k_asm); (case k2 => k_asm); (case k3 => k_asm); (case k4 => k_asm); (case k5 => k_asm); (case kK => first | assumption | exact rfl); (case kb => first | assumption | omega | (simp only [lawSum_size, Array.size_append, List.size_toArray, List.length_cons, List.length_nil]; omega)); (case k6 => first | assumption | omega); (case k7 => first | assumption | omega); (case kd => ktr_room); (case ku => ktr_units); intro b9 t9 h9 tk9 hb9 hz9 F9 N9; (try dsimp only); (try k_fold))
  | ((with_reducible show wpAny _ _ (call (Value.ref 285) [_, _, _, _, _]) _ _ _); refine' hand_use ?k1 ?k2 ?k3 ?k4 ?k5 ?kK ?kd ?ku ?_; (case k1 => k_asm); (case k2 => k_asm); (case k3 => k_asm); (case k4 => k_asm); (case k5 => k_asm); (case kK => first | assumption | exact rfl); (case kd => ktr_room); (case ku => ktr_units); intro x9 dx9 h9 tk9 F9 N9 l1 l2; (try dsimp only); (try k_lt l1); (try k_lt2 l2); (try k_fold)))))
local macro_rules | `(tactic| walk_at "getMethod ref") => `(tactic| (k_here; (with_reducible show wpAny _ _ (getMethod (Value.ref _) (PySem.Str.ofString "digest") _) _ _ _); k_dflt (refine' hand_digest ?k1 ?k2 ?k3 ?k4 ?k5 ?kK ?kx ?kdx ?kd ?ku ?kh ?_; (case k1 => k_asm); (case k2 => k_asm); (case k3 => k_asm); (case k4 => k_asm); (case k5 => k_asm); (case kK => first | assumption | exact rfl); (case kx => k_mem); (case kdx => k_mem); (case kd => ktr_room); (case ku => ktr_units); (case kh => rfl); intro h9 tk9 F9 N9; (try dsimp only); (try k_fold))))
local macro_rules | `(tactic| walk_at "getAttr ref") => `(tactic| (k_here; (with_reducible show wpAny _ _ (getAttr (Value.ref _) (PySem.Str.ofString "digest_size") _) _ _ _); k_dflt (refine' hand_size ?k1 ?k2 ?k3 ?k4 ?k5 ?kK ?kx ?kdx ?kd ?ku ?kh ?_; (case k1 => k_asm); (case k2 => k_asm); (case k3 => k_asm); (case k4 => k_asm); (case k5 => k_asm); (case kK => first | assumption | exact rfl); (case kx => k_mem); (case kdx => k_mem); (case kd => ktr_room); (case ku => ktr_units); (case kh => rfl); intro h9 tk9 F9 N9; (try dsimp only); (try k_fold))))
local macro_rules | `(tactic| walk_at "getAttr ref") => `(tactic| (k_here; (with_reducible show wpAny _ _ (getAttr (Value.ref _) (PySem.Str.ofString "block_size") _) _ _ _); k_dflt (refine' hand_block ?k1 ?k2 ?k3 ?k4 ?k5 ?kK ?kx ?kdx ?kd ?ku ?kh ?_; (case k1 => k_asm); (case k2 => k_asm); (case k3 => k_asm); (case k4 => k_asm); (case k5 => k_asm); (case kK => first | assumption | exact rfl); (case kx => k_mem); (case kdx => k_mem); (case kd => ktr_room); (case ku => ktr_units); (case kh => rfl); intro h9 tk9 F9 N9; (try dsimp only); (try k_fold))))
local macro_rules | `(tactic| walk_at "subscriptTail Name Slice ref ref") => `(tactic| (k_here; k_dflt (refine' slice_list2 ?F ?N ?t ?z ?_ ?s ?g; (case F => k_asm); (case N => k_asm); (case t => k_mem); (case z => first | assumption | omega); (case s => with_unfolding_all rfl); (case g => intro _; with_unfolding_all rfl)); intro D' h' F' N' l1; (try k_lt l1); (try k_sweep)))
local macro_rules | `(tactic| k_mem) => `(tactic| assumption)
local macro_rules | `(tactic| walk_at "subscriptTail") => `(tactic| (k_here; (with_reducible show wpAny _ _ (subscriptTail _ _ (Value.ref _) (Value.int _ _)) _ _ _); k_dflt (refine' item_l ?N ?m ?a ?b ?c ?_; (case N => k_asm); (case m => k_mem); (case a => decide); (case b => decide); (case c => rfl))))
local macro_rules | `(tactic| walk_at "InitBack error") => `(tactic| (k_here; dsimp only [InitBack]))
local macro_rules | `(tactic| walk_at "binaryOp Mod str str") => `(tactic| (k_here; (with_reducible show wpAny _ _ (binaryOp _ (Value.str (PySem.Str.ofString "%r constructor failed sanity check") _) (Value.str _ _)) _ _ _); k_dflt (refine' mod_repr ?y ?_; (case y => assumption)); intro z' t' k'))
local macro_rules | `(tactic| walk_at "call ref") => `(tactic| (k_here; k_dflt (refine wpAny_call ?_; (refine' code_own1 ?k1 ?k2 ?k3 ?k4 ?k5 ?kA ?kF ?kK ?k6 ?ka ?kb ?k8 ?k9 ?x1 ?x2 ?x3 ?_ ?c2 ?c3 ?c4; (case kA => exact rfl); (case kF => exact rfl); (case kK => first | assumption | exact rfl); (case k1 => k_asm); (case k2 => k_asm); (case k3 => k_asm); (case k4 => k_asm); (case k5 => k_asm); (case k6 => k_mem); (case ka => k_mem); (case kb => assumption); (case k8 => ktr_room); (case k9 => first | exact BindsTo.of_eq rfl | exact binds_news (by k_asm) (by k_mem) rfl rfl rfl rfl); (case x1 => exact rfl); (case x2 => exact fun _ => rfl); (case x3 => exact fun _ => rfl); (case c2 => exact rfl); (case c3 => exact rfl); (case c4 => exact rfl); k_whole; intro g' L' h' cells' FG' F' N' Y' B' X' T' l1; (try dsimp only); (try k_lt l1); (try ((have lA9 := l1); (repeat (replace lA9 := lA9.2)))); k_cells Y'; (try simp only [List.cons_append, List.nil_append] at N'); (try k_lift B'); (try k_fold)))))
local macro_rules | `(tactic| walk_at "exec Try") => `(tactic| (k_here; (with_reducible show wpAny _ _ (exec (Stmt.Try _ (_ :: _) _ [] _) _) _ _ _); refine wpAny_Try_except ?_))
local macro_rules | `(tactic| walk_at "noteFrame ref") => `(tactic| (k_here; k_dflt (refine' caught_cells (T' := "RuntimeError") ?R ?F ?K ?U ?XB ?TB ?D ?T0 ?ex PyProof.Rows.Boot.«RuntimeError» ?hn PySem.F.isExc_RuntimeError PySem.F.notTuple_RuntimeError ?hs ?_; (case R => assumption); (case F => assumption); (case K => assumption); (case U => assumption); (case XB => assumption); (case TB => assumption); (case D => assumption); (case T0 => first | assumption | exact KtsTurn.refl); (case hs => kts_sub); (case ex => k_is); (case hn => decide); k_whole); intro h' g' T' F' N' K' X' P' D'; (try k_lift K'); (try k_sweep)))
def MadeHitV (w : World) (p : Program) (loose : List Str) (mean : ExcName → Option Value) (mg mb : Str → Option Value) : Prop :=
  ∀ (dp un : Nat) (gd : Option (List Code)) (cn : Str) (cs : Scope) (a : Addr) (ccd : Value) (cl : List (Str × Addr)) (A₀ : Around) (base h₀ : Heap) (L : Addr) (m : Str → Option Value) (news : List (Addr × Obj)) (s : Shared) (nm : Addr) (n1 n2 : Str) (u1 u2 : Tok) (rest : List Value) (kn : Nat) (n told bl : Int) (tn tt tb : Tok) (c0 : Addr) (oc0 : Obj) (P0 d0 : Addr) (od0 : Obj) (R0 : Addr) (Q E : Value → Shared → Prop),
    (Mine.K w.params).In base → Top p loose mean mg mb base → Below A₀ base [] h₀ → Fr h₀ L s.heap m → (Mine.K w.params).In h₀ → News h₀ L s.heap news → Top p loose mean mg mb h₀ → cs.kind = .function → CodeHd h₀ 322 318 → (318, tabObj (#[] ++ #[rawInt (322 : Nat), rawInt (4 : Nat), .ref c0])) ∈ news → (c0, oc0) ∈ news → (P0, tabObj (#[] ++ #[rawInt (324 : Nat), rawInt (8 : Nat), .ref d0])) ∈ news → (d0, od0) ∈ news → CodeOf oc0 P0 QC → CodeOf od0 R0 QD → @Ne Nat c0 P0 → @Ne Nat d0 R0 →
    (nm, ({ cls := .type "list", data := .seq (.str n1 u1 :: .str n2 u2 :: rest).toArray kn } : Obj)) ∈ news → rest.length ≤ 10 → Tame 60 n1 → 1 ≤ n → n ≤ 41 → 0 ≤ told → told ≤ 100 → told = n → dp + 12 < recursionLimit → un + 100 < cLine →
    (∀ t h' tk', Fr h₀ L h' m → News h₀ L h' news → Q (.int told t) { s with heap := h', toks := tk' }) →
    wpAny (model PySem.Challenge.pw_aj5026_01 w) (ktrTop dp un gd cn cs L a ccd cl []) (call (.ref 323) [.int n tn, .int told tt, .int bl tb, .ref nm]) Q E s

set_option maxRecDepth 100000 in
set_option maxHeartbeats 8000000 in
theorem made_hitV {w : World} {p : Program} {loose : List Str} {mean : ExcName → Option Value} {mg mb : Str → Option Value} : MadeHitV w p loose mean mg mb := by
  unfold MadeHitV
  intro dp un gd cn cs a ccd cl A₀ base h₀ L m news s nm n1 n2 u1 u2 rest kn n told bl tn tt tb c0 oc0 P0 d0 od0 R0 Q E XB TB B F X N T hk hCd h318 hc0 hP0 hd0 hC hD hcP hdR hnm hrest hTame hn0 hn1 ht0 ht1 htold hd hu hret
  refine wpAny_call ?_
  k_dflt (refine' code_tryC ?k1 ?k2 ?k3 ?k4 ?k5 ?kA ?kF ?kK ?k6 ?k7 ?k8 ?k9 ?kB ?kD ?_ ?c2 ?c3 ?c4; (case kA => exact rfl); (case kF => exact rfl); (case kK => assumption); (case k2 => k_asm); (case k1 => k_asm); (case k3 => k_asm); (case k4 => k_asm); (case k5 => k_asm); (case k6 => k_is); (case k7 => k_is); (case k8 => ktr_room); (case k9 => first | exact binds_K (by k_in) rfl (by k_is) rfl rfl rfl | exact BindsTo.of_eq rfl); (case kB => exact rfl); (case kD => decide +kernel); (case c2 => exact rfl); (case c3 => exact rfl); (case c4 => exact rfl); k_whole; intro g' L' h' tk' cells' FG' F' N' Y' B' X' T' l1 D'; (try k_lt l1); k_cells Y'; (try simp only [List.cons_append, List.nil_append] at N'); (try dsimp only); (try k_lift B'); (try k_fold))
  k_steps
  rename Fr h₀ L _ m => kF
  rename News h₀ L _ _ => kN
  exact hret _ _ _ kF (News.perm kN (fun q hq => by repeat (first | exact hq | refine List.mem_cons_of_mem _ ?_)))

end Mine

end
section
open PySem PySem.Spec PySem.Calls PySem.W PyProof.Rows
set_option Elab.async false
namespace Mine
theorem fillUp13 : (fun (_ : OpenLaw) (_ : Params → Frag) => True) PySem.Challenge.rw_aj5026_01 Mine.K := by
  k_fill
  trivial
local macro_rules | `(tactic| k_in) => `(tactic| (refine' Frag.In.keeps ?x (Fr.keep ?f); (case f => k_asm); (case x => k_asm)))
local macro_rules | `(tactic| cell_enter) => `(tactic| (refine' code_def ?k1 ?k2 ?k3 ?k4 ?k5 ?kA ?kF ?kK ?k6 ?k7 ?k8 ?k9 ?kB ?_ ?c2 ?c3 ?c4 ?c5; (case kA => exact rfl); (case kF => exact rfl); (case kK => first | assumption | exact rfl); (case k1 => k_asm); (case k2 => k_asm); (case k3 => k_asm); (case k4 => k_asm); (case k5 => k_asm); (case k6 => k_is); (case k7 => k_is); (case k8 => ktr_room); (case k9 => first | exact BindsTo.of_eq rfl | exact binds_K (by k_in) rfl (by k_is) rfl rfl rfl); (case kB => exact locs rfl); (case c5 => decide); (case c2 => exact rfl); (case c3 => exact rfl); (case c4 => exact rfl); k_whole; intro g' L' h' FG' F' N' B' X' T'; (try dsimp only); (try k_lift B'); (try k_fold)))
local macro_rules | `(tactic| ktr_units) => `(tactic| ((have hcL9 := cLine_is); (try simp only [units_under_make, units_in1, units_deeper, Around.mark_units, units_caller]); (try dsimp only [ktrTop]); omega))
local macro_rules | `(tactic| k_room) => `(tactic| ktr_room)
local macro_rules | `(tactic| k_units) => `(tactic| ktr_units)
local macro_rules | `(tactic| k_mem) => `(tactic| assumption)
def TupTells (w : World) (p : Program) (loose : List Str) (mean : ExcName → Option Value) (mg mb : Str → Option Value) : Prop :=
  ∀ (dp un : Nat) (gd : Option (List Code)) (cn : Str) (cs : Scope) (a : Addr) (ccd : Value) (cl : List (Str × Addr)) (outer : List Env) (A₀ : Around) (base h₀ : Heap) (L : Addr) (m : Str → Option Value) (news : List (Addr × Obj)) (s : Shared)
    (ix dx : Addr) (h1 h2 h3 h4 h5 h6 : Int) (t1 t2 t3 t4 t5 t6 : Tok) (v1 v2 v3 : Value) (f : Addr) (n bl : Int) (tn tb : Tok) (Q E : Value → Shared → Prop),
    Below A₀ base outer h₀ → Fr h₀ L s.heap m → (Mine.K w.params).In h₀ → News h₀ L s.heap news → Top p loose mean mg mb h₀ → cs.kind = .function → (ix, instObj 155 dx) ∈ news → (dx, infoObj h1 h2 h3 h4 h5 h6 t1 t2 t3 t4 t5 t6 v1 v2 v3 f n bl tn tb) ∈ news →
    dp + 2 < recursionLimit → un + 30 < cLine →
    (∀ t h' tk', (∀ q ∈ news, q.1 < t) → Fr h₀ L h' m → News h₀ L h' ((t, { cls := .type "tuple", data := .seq #[.ref f, .int n tn, .int bl tb] }) :: news) → Q (.ref t) { s with heap := h', toks := tk' }) →
    wpAny (model PySem.Challenge.pw_aj5026_01 w) (ktrTop dp un gd cn cs L a ccd cl outer) (call (.ref 152) [.ref ix]) Q E s
set_option maxRecDepth 100000 in
set_option maxHeartbeats 8000000 in
theorem tup_tells {w : World} {p : Program} {loose : List Str} {mean : ExcName → Option Value} {mg mb : Str → Option Value} : TupTells w p loose mean mg mb := by
  unfold TupTells
  intro dp un gd cn cs a ccd cl outer A₀ base h₀ L m news s ix dx h1 h2 h3 h4 h5 h6 t1 t2 t3 t4 t5 t6 v1 v2 v3 f n bl tn tb Q E B F X N T hk hix hdx hd hu hret
  refine wpAny_call ?_
  k_dflt cell_enter
  k_steps
  with_reducible rename Fr h₀ L _ m => kF
  with_reducible rename News h₀ L _ _ => kN
  exact hret _ _ _ (by first | assumption | exact kst_ltOf (by assumption)) kF kN
end Mine

end
section
open PySem PySem.Spec PySem.Calls PySem.W PyProof.Rows
set_option Elab.async false
namespace Mine
set_option maxRecDepth 100000
theorem paired_same {vs ws : List Value} (h : Paired (fun a b : Value => b = a) vs ws) : ws = vs := by
  induction h with
  | nil => rfl
  | cons h _ ih => rw [h, ih]
theorem off1_of {D : Addr} : ∀ {l : List (Addr × Obj)}, (∀ p ∈ l, p.1 ≠ D) → LCg.Off1 D l
  | [], _ => trivial
  | _ :: _, h => ⟨h _ (.head _), off1_of fun p hp => h p (.tail _ hp)⟩
section
variable {prog : Program} {w : World} {A : Around} {E : Value → Shared → Prop} {s : Shared}
/-- what the own __iter__ must hand back, where the items are gathered into a list -/
def RowBack (h₀ : Heap) (L : Addr) (y : Str) (Q : Flow → Shared → Prop) (v : Value) (s : Shared) : Prop :=
  ∃ it t vs c news m, v = .ref it ∧ Fr h₀ L s.heap m ∧ News h₀ L s.heap ((it, { cls := .type "tuple_iterator", data := .fields #[.ref t, .int 0 0] }) :: news) ∧ (t, ({ cls := .type "tuple", data := .seq vs c } : Obj)) ∈ news ∧ (∀ q ∈ news, q.1 < it) ∧ vs.size ≤ 100 ∧
    ∀ D k h' tk, Fr h₀ L h' (fun z => if z = y then some (.ref D) else m z) → News h₀ L h' ((D, { cls := .type "list", data := .seq vs.toList.toArray k }) :: news) → LCg.Off1 D news → Q .next { s with heap := h', toks := tk }
theorem row_own {K : Frag} {env : Env} {h₀ : Heap} {L x C f : Addr} {m : Str → Option Value} {ox : Obj} {od : Option Obj} {scope : Scope} {xn y : Str} {npos : Pos} {Q : Flow → Shared → Prop} (F : Fr h₀ L s.heap m) (X₀ : K.In h₀) (I : InstAt s.heap x ox C od)
    (hs : findIn K (.ref C) "__iter__" = some (some (.ref f))) (hf : isFn K (.ref f) = true) (hh : A.handled = none) (hL : env.locals = L) (hkd : scope.kind = .function) (hxl : ∀ C, (compEnv scope C env).kindOf xn = some .local) (hxd : (xn == ("__debug__" : Str)) = false)
    (h : wpAny (model prog w) A (call (.ref f) [.ref x]) (RowBack h₀ L y Q) E s) : wpAny (model prog w) A (pyIter (.ref x)) (CompPostA prog w A env scope xn y [] (.Name xn npos) Q) E s := by
  refine owit_iter F X₀ I hs hf (wpAny_mono h (fun v s' hv => ?_) fun _ _ z => z)
  obtain ⟨it, t, vs, c, news, m', rfl, F', N', hm, hlt, hsz, hq⟩ := hv
  have hi := N' _ (.head _)
  have hit : s'.heap.IsTupleIter it t 0 := ⟨_, hi.1, rfl, rfl⟩
  have ht : s'.heap.IsTuple t vs := ⟨_, (N' _ (.tail _ hm)).1, rfl, c, rfl⟩
  have hne : t ≠ it := Nat.ne_of_lt (hlt _ hm)
  unfold OwitIt
  refine wpAny_bind (wpAny_typeOf hit.typeIs (wpAny_of_eq tit_next ?_))
  show CompPostA prog w A env scope xn y [] (.Name xn npos) Q (.ref it) s'
  refine ⟨fun _ => true, fun a b => b = a, it, [it, t], [it], vs.size, _, _, m', rfl, Walks.tuple hh it t hne vs, by rw [sizeLine_eq]; omega, ⟨hit, ht⟩, ?_, ?_, hL ▸ F'.ns, ⟨?_, ?_⟩, ?_⟩
  · intro b hb
    rcases List.mem_cons.mp hb with rfl | hb
    · exact Heap.lt_size hi.1
    · rw [List.mem_singleton.mp hb]; exact Heap.lt_size (N' _ (.tail _ hm)).1
  · intro q
    rw [hL] at q
    exact hi.2.1 (List.mem_singleton.mp q).symm
  · intro C i v s₃ m₃ E' _ _ _ _ _
    exact wpAny_pure ⟨rfl, s₃.heap, s₃.toks, rfl, fun _ _ e => e⟩
  · intro C i v s₃ m₃ E' _ _ hn hx _ _
    exact wpAny_Name (wpAny_loadName_local hkd (hxl C) hn hx ⟨rfl, s₃.heap, s₃.toks, rfl, fun _ _ e => e⟩) hxd
  · intro D h' tk ys vs' hnew hlD hplD hlen hP hF hn' hk
    have e' : vs' = vs.toList := walked_is hlen hP
    have e2 : ys.toList = vs.toList := by
      have := paired_same hF
      rw [this, e', List.filter_eq_self.mpr (fun _ _ => rfl)]
    have e3 : ys = vs.toList.toArray := by rw [← e2]
    subst e3
    obtain ⟨k, hD⟩ := hplD
    have hD₀ : h₀.get? D = none := by
      cases e : h₀.get? D with
      | none => rfl
      | some o => have := F'.keep _ _ e; rw [hnew] at this; cases this
    have hDL : D ≠ L := by
      rintro rfl
      obtain ⟨o, _, _, e, _⟩ := F'.ns
      rw [hnew] at e; cases e
    refine hq D k h' tk ⟨hL ▸ hn', fun b o e => ?_, F'.above⟩ (fun q hq' => ?_) (off1_of fun q hq' e => ?_)
    · have hb := F'.keep b o e
      refine hk b o ?_ ?_ hb
      · intro z; rw [hL] at z; rw [z, kts_self F'] at e; cases e
      · intro z; rw [List.mem_singleton.mp z, hi.2.2] at e; cases e
    · rcases List.mem_cons.mp hq' with rfl | hq'
      · exact ⟨hD, hDL, hD₀⟩
      · have n := N' q (.tail _ hq')
        refine ⟨hk _ _ (by rw [hL]; exact n.2.1) ?_ n.1, n.2⟩
        intro z
        exact Nat.ne_of_lt (hlt q hq') (List.mem_singleton.mp z)
    · rw [← e, (N' q (.tail _ hq')).1] at hnew
      cases hnew
theorem row_back {h₀ : Heap} {L it t : Addr} {m : Str → Option Value} {y : Str} {Q : Flow → Shared → Prop} {vs : Array Value} {c : Nat} {news : List (Addr × Obj)} {s' : Shared} (F : Fr h₀ L s'.heap m) (N : News h₀ L s'.heap ((it, { cls := .type "tuple_iterator", data := .fields #[.ref t, .int 0 0] }) :: news)) (hm : (t, ({ cls := .type "tuple", data := .seq vs c } : Obj)) ∈ news) (hlt : ∀ q ∈ news, q.1 < it) (hz : vs.size ≤ 100)
    (h : ∀ D k h' tk, Fr h₀ L h' (fun z => if z = y then some (.ref D) else m z) → News h₀ L h' ((D, { cls := .type "list", data := .seq vs.toList.toArray k }) :: news) → LCg.Off1 D news → Q .next { s' with heap := h', toks := tk }) : RowBack h₀ L y Q (.ref it) s' :=
  ⟨it, t, vs, c, news, m, rfl, F, N, hm, hlt, hz, h⟩
end
end Mine

end
section
open PySem PySem.Spec PySem.Calls PySem.W PyProof.Rows
set_option Elab.async false
namespace Mine
section
variable {prog : Program} {w : World} {A : Around} {E : Value → Shared → Prop} {s : Shared} {h₀ : Heap} {L x C f : Addr} {m : Str → Option Value} {news : List (Addr × Obj)} {K : Frag} {ox : Obj} {od : Option Obj} {Q : Value → Shared → Prop}
/-- x[lo:hi] of an own class: its __getitem__ is called with the cut as an object -/
theorem sub_slice_own {lo hi : Option PySem.Expr} {b : PySem.Expr} {sp : Pos} {so : Obj} (F : Fr h₀ L s.heap m) (N : News h₀ L s.heap news) (X₀ : K.In h₀) (I : InstAt s.heap x ox C od) (hq : noSeq K C = true) (hs : findIn K (.ref C) "__getitem__" = some (some (.ref f))) (hf : fnIn K f = true) (hfn : isFn K (.ref f) = true) (hso : so.isFreed = false)
    (h : ∀ S h', Fr h₀ L h' m → News h₀ L h' ((S, so) :: news) → (∀ p ∈ news, p.1 < S) → wpAny (model prog w) A (call (.ref f) [.ref x, .ref S]) Q E { s with heap := h' }) :
    wpAny (model prog w) A (subscriptTail b (.Slice lo hi none sp) (.ref x) (.ref s.heap.objs.size)) Q E { s with heap := s.heap.push so } := by
  have up : ∀ b o, s.heap.get? b = some o → (s.heap.push so).get? b = some o := fun b o e => Heap.get?_push_of_some _ e
  have F' : Fr h₀ L (s.heap.push so) m := F.push so
  have I' : InstAt (s.heap.push so) x ox C od := by
    obtain ⟨a, b, c, d⟩ := I
    refine ⟨up _ _ a, b, c, ?_⟩
    revert d
    cases ox.dict <;> cases od <;> intro d <;> first | exact up _ _ d | exact d
  have X := X₀.keeps F'.keep
  have hfn' := hf
  unfold fnIn at hfn'
  split at hfn'
  · rename_i e
    unfold subscriptTail getitemInPython
    refine wpAny_bind (wpAny_bind (wpAny_bind (I'.type.here ((looks_findIn X hs).here ?_))))
    dsimp only
    refine wpAny_bind (wpAny_load (X _ _ e) (wpAny_pure ?_))
    dsimp only
    show wpAny (model prog w) A (operate [.ref s.heap.objs.size, .ref x] (getItem (.ref x) (.ref s.heap.objs.size)) >>= _) _ _ _
    refine wpAny_bind (wpAny_operate' (getItem_K (s := { s with heap := s.heap.push so }) F' X₀ I' hq hs hfn ?_))
    refine wpAny_mono (h s.heap.objs.size _ F' (News.push F N so hso) fun p hp => Heap.lt_size (N p hp).1) (fun v s' z => ?_) fun _ _ z => z
    exact wpAny_bind (wpAny_letTemporaryGo (wpAny_pure z))
  · cases hfn'
/-- t[cut] where the cut is an object of the ledger: from the second item on -/
theorem tup_cut1 {value : PySem.Expr} {y : Str} {yp : Pos} {t S : Addr} {items : Array Value} {n : Nat} {u : Tok} {zs : List Value} (F : Fr h₀ L s.heap m) (N : News h₀ L s.heap news) (ht : (t, ({ cls := .type "tuple", data := .seq items n } : Obj)) ∈ news) (hS : (S, ({ cls := .type "slice", data := .fields #[.int 1 u, .none, .none] } : Obj)) ∈ news)
    (ha : 1 ≤ items.size) (hz : items.size ≤ 1000) (e : items.toList.drop 1 = zs)
    (h : ∀ D h', Fr h₀ L h' m → News h₀ L h' ((D, { cls := .type "tuple", data := .seq zs.toArray }) :: news) → (∀ p ∈ news, p.1 < D) → Q (.ref D) { s with heap := h' }) :
    wpAny (model prog w) A (subscriptTail value (.Name y yp) (.ref t) (.ref S)) Q E s := by
  have hT : IsTup s.heap t items := News.isTup N ht
  refine tail_any hT.typeIs slot_tuple_getitem.lookup (getItem_tuple_from (a := 1) hT ⟨_, (N _ hS).1, rfl, rfl⟩ (by decide) ha ?_ (by rw [sizeLine_eq]; omega)) rfl
  rw [e]
  exact h _ _ (F.push _) (News.push F N _ rfl) fun p hp => Heap.lt_size (N p hp).1
end
end Mine

end
section
open PySem PySem.Spec PySem.Calls PySem.W PyProof.Rows PySem.SeqAt
set_option Elab.async false
namespace Mine
theorem bne_no {a b : Int} (h : a = b) : ¬ (a != b) = true := by subst h; simp
theorem bne_self_no (a : PySem.Str) : ¬ (a != a) = true := by simp
theorem bne_yes {a b : Int} (h : a ≠ b) : (a != b) = true := by simpa using h
local macro_rules | `(tactic| ktr_units) => `(tactic| ((have hcL9 := cLine_is); (try simp only [units_under_make, units_in1, units_deeper, Around.mark_units, units_caller]); (try dsimp only [ktrTop]); omega))
section
variable {prog : Program} {w : World} {A : Around} {E : Value → Shared → Prop} {s : Shared} {a b : Addr} {xs ys : List Value} {ss : List Str} {Q : Value → Shared → Prop} {h₀ : Heap} {L : Addr} {news : List (Addr × Obj)}
theorem ne_same_lists (N : News h₀ L s.heap news) {k k' : Nat} (ha : (a, ({ cls := .type "list", data := .seq xs.toArray k } : Obj)) ∈ news) (hb : (b, ({ cls := .type "list", data := .seq xs.toArray k' } : Obj)) ∈ news) (hu : A.units < cLine) (h : Q (.bool false) s) :
    wpAny (model prog w) A (compareOp .NotEq (.ref a) (.ref b)) Q E s := by
  refine RcNeAt.lists (e := fun _ => true) (News.isList N ha) (News.isList N hb) rfl hu (fun j h1 h2 => EqAt.same _) prog w E Q ?_
  rw [show ((List.range xs.toArray.size).all fun _ => true) = true from List.all_eq_true.mpr fun _ _ => rfl]
  exact h
theorem news_tup {items : Array Value} {k : Nat} (N : News h₀ L s.heap news) (hm : (a, ({ cls := .type "tuple", data := .seq items k } : Obj)) ∈ news) : s.heap.IsTuple a items := ⟨_, (N _ hm).1, rfl, k, rfl⟩
theorem eq_tup3 {f : Value} {i j p q : Int} {ti tj tp tq : Tok} {k k' : Nat} (N : News h₀ L s.heap news) (ha : (a, ({ cls := .type "tuple", data := .seq #[f, .int i ti, .int j tj] k } : Obj)) ∈ news) (hb : (b, ({ cls := .type "tuple", data := .seq #[f, .int p tp, .int q tq] k' } : Obj)) ∈ news)
    (hu : A.units < cLine) (h : Q (.bool (i == p && j == q)) s) : wpAny (model prog w) A (compareOp .Eq (.ref a) (.ref b)) Q E s := by
  refine eq_tupleAt (e := fun x => match x with | 0 => true | 1 => i == p | _ => j == q) (news_tup N ha) (news_tup N hb) hu (fun x h1 h2 => ?_) ?_
  · match x, h1, h2 with
    | 0, _, _ => exact EqAt.same _
    | 1, _, _ => exact EqAt.int_int _ _ _ _
    | 2, _, _ => exact EqAt.int_int _ _ _ _
    | n + 3, h1, _ => exact absurd h1 (by simp)
  · simpa [List.range, List.range.loop, Bool.and_assoc] using h
theorem eq_tup32 {f : Value} {i j p : Int} {ti tj tp : Tok} {k k' : Nat} (N : News h₀ L s.heap news) (ha : (a, ({ cls := .type "tuple", data := .seq #[f, .int i ti, .int j tj] k } : Obj)) ∈ news) (hb : (b, ({ cls := .type "tuple", data := .seq #[f, .int p tp] k' } : Obj)) ∈ news)
    (hu : A.units < cLine) (h : Q (.bool false) s) : wpAny (model prog w) A (compareOp .Eq (.ref a) (.ref b)) Q E s := by
  refine eq_tupleAt (e := fun x => match x with | 0 => true | _ => i == p) (news_tup N ha) (news_tup N hb) hu (fun x h1 h2 => ?_) ?_
  · match x, h1, h2 with
    | 0, _, _ => exact EqAt.same _
    | 1, _, _ => exact EqAt.int_int _ _ _ _
    | n + 2, _, h2 => exact absurd h2 (by simp)
  · simpa using h
theorem eq_tup3_yes {f : Value} {i j p q : Int} {ti tj tp tq : Tok} {k k' : Nat} (N : News h₀ L s.heap news) (ha : (a, ({ cls := .type "tuple", data := .seq #[f, .int i ti, .int j tj] k } : Obj)) ∈ news) (hb : (b, ({ cls := .type "tuple", data := .seq #[f, .int p tp, .int q tq] k' } : Obj)) ∈ news)
    (hu : A.units < cLine) (h1 : i = p) (h2 : j = q) (h : Q (.bool true) s) : wpAny (model prog w) A (compareOp .Eq (.ref a) (.ref b)) Q E s := by
  subst h1 h2
  refine eq_tup3 N ha hb hu ?_
  simpa using h
theorem eq_tup3_no {f : Value} {i j p q : Int} {ti tj tp tq : Tok} {k k' : Nat} (N : News h₀ L s.heap news) (ha : (a, ({ cls := .type "tuple", data := .seq #[f, .int i ti, .int j tj] k } : Obj)) ∈ news) (hb : (b, ({ cls := .type "tuple", data := .seq #[f, .int p tp, .int q tq] k' } : Obj)) ∈ news)
    (hu : A.units < cLine) (h1 : i ≠ p) (h : Q (.bool false) s) : wpAny (model prog w) A (compareOp .Eq (.ref a) (.ref b)) Q E s := by
  refine eq_tup3 N ha hb hu ?_
  rw [show (i == p) = false from by simpa using h1, Bool.false_and]
  exact h
theorem looks_tup {M : Model} {h : Heap} {items : Array Value} {k : Nat} (N : News h₀ L h news) (hm : (a, ({ cls := .type "tuple", data := .seq items k } : Obj)) ∈ news) : Looks M h (typeOf (.ref a)) (.type "tuple") := (Looks.ld (N _ hm).1).andThen .now
end
end Mine

end
section
open PySem PySem.Spec PySem.Calls PySem.W PyProof.Rows
set_option Elab.async false
namespace Mine
theorem kind_use {w : World} {p : Program} {loose : List Str} {mean : ExcName → Option Value} {mg mb : Str → Option Value} {dp un : Nat} {gd : Option (List Code)} {cn : Str} {cs : Scope} {a : Addr} {ccd : Value} {cl : List (Str × Addr)} {A₀ : Around} {base h₀ : Heap} {L : Addr} {m : Str → Option Value} {news : List (Addr × Obj)} {s : Shared} {ix dx : Addr} {h1 h2 h3 h4 h5 h6 : Int} {t1 t2 t3 t4 t5 t6 : Tok} {v1 v2 v3 : Value} {f : Addr} {n bl : Int} {tn tb : Tok} {od : Option Addr} {fd : FuncData} {sl : Array (Option Value)} {k : Int} {tk : Tok} {nm : Str} {tm : Tok} {Q E : Value → Shared → Prop}
    (a0 : (Mine.K w.params).In base) (a1 : Top p loose mean mg mb base) (a2 : Below A₀ base [] h₀) (a3 : Fr h₀ L s.heap m) (a4 : (Mine.K w.params).In h₀) (a5 : News h₀ L s.heap news) (a6 : Top p loose mean mg mb h₀) (a7 : cs.kind = .function) (a8 : (ix, instObj 155 dx) ∈ news) (a9 : (dx, infoObj h1 h2 h3 h4 h5 h6 t1 t2 t3 t4 t5 t6 v1 v2 v3 f n bl tn tb) ∈ news) (a10 : (f, (⟨.type "function", od, .func fd, sl⟩ : Obj)) ∈ news) (a11 : 0 ≤ k) (a12 : k < 4) (a13 : dp + 12 < recursionLimit) (a14 : un + 100 < cLine) (a15 : (∀ t h' tk', Fr h₀ L h' m → News h₀ L h' news → Q (.str (PySem.Str.ofString "TypeError") t) { s with heap := h', toks := tk' })) :
    wpAny (model PySem.Challenge.pw_aj5026_01 w) (ktrTop dp un gd cn cs L a ccd cl []) (call (.ref 316) [.int k tk, .ref ix, .ref f, .str nm tm]) Q E s :=
  kind_tells _ _ _ _ _ _ _ _ _ _ _ _ _ _ _ _ _ _ _ _ _ _ _ _ _ _ _ _ _ _ _ _ _ _ _ _ _ _ _ _ _ _ _ _ _ _ a0 a1 a2 a3 a4 a5 a6 a7 a8 a9 a10 a11 a12 a13 a14 a15
theorem tup_use {w : World} {p : Program} {loose : List Str} {mean : ExcName → Option Value} {mg mb : Str → Option Value} {dp un : Nat} {gd : Option (List Code)} {cn : Str} {cs : Scope} {a : Addr} {ccd : Value} {cl : List (Str × Addr)} {outer : List Env} {A₀ : Around} {base h₀ : Heap} {L : Addr} {m : Str → Option Value} {news : List (Addr × Obj)} {s : Shared} {ix dx : Addr} {h1 h2 h3 h4 h5 h6 : Int} {t1 t2 t3 t4 t5 t6 : Tok} {v1 v2 v3 : Value} {f : Addr} {n bl : Int} {tn tb : Tok} {Q E : Value → Shared → Prop}
    (a0 : Below A₀ base outer h₀) (a1 : Fr h₀ L s.heap m) (a2 : (Mine.K w.params).In h₀) (a3 : News h₀ L s.heap news) (a4 : Top p loose mean mg mb h₀) (a5 : cs.kind = .function) (a6 : (ix, instObj 155 dx) ∈ news) (a7 : (dx, infoObj h1 h2 h3 h4 h5 h6 t1 t2 t3 t4 t5 t6 v1 v2 v3 f n bl tn tb) ∈ news) (a8 : dp + 2 < recursionLimit) (a9 : un + 30 < cLine) (a10 : (∀ t h' tk', (∀ q ∈ news, q.1 < t) → Fr h₀ L h' m → News h₀ L h' ((t, { cls := .type "tuple", data := .seq #[.ref f, .int n tn, .int bl tb] }) :: news) → Q (.ref t) { s with heap := h', toks := tk' })) :
    wpAny (model PySem.Challenge.pw_aj5026_01 w) (ktrTop dp un gd cn cs L a ccd cl outer) (call (.ref 152) [.ref ix]) Q E s :=
  tup_tells _ _ _ _ _ _ _ _ _ _ _ _ _ _ _ _ _ _ _ _ _ _ _ _ _ _ _ _ _ _ _ _ _ _ _ _ _ _ _ _ a0 a1 a2 a3 a4 a5 a6 a7 a8 a9 a10
theorem made_use0 {w : World} {p : Program} {loose : List Str} {mean : ExcName → Option Value} {mg mb : Str → Option Value} {dp un : Nat} {gd : Option (List Code)} {cn : Str} {cs : Scope} {a : Addr} {ccd : Value} {cl : List (Str × Addr)} {A₀ : Around} {base h₀ : Heap} {L : Addr} {m : Str → Option Value} {news : List (Addr × Obj)} {s : Shared} {nm : Addr} {n1 n2 : Str} {u1 u2 : Tok} {rest : List Value} {kn : Nat} {n told bl : Int} {tn tt tb : Tok} {Q E : Value → Shared → Prop}
    (a0 : (Mine.K w.params).In base) (a1 : Top p loose mean mg mb base) (a2 : Below A₀ base [] h₀) (a3 : Fr h₀ L s.heap m) (a4 : (Mine.K w.params).In h₀) (a5 : News h₀ L s.heap ((318, tabObj #[]) :: news)) (a6 : Top p loose mean mg mb h₀) (a7 : cs.kind = .function) (a8 : CodeHd h₀ 322 318) (a9 : OwnOff news [318]) (a10 : (nm, ({ cls := .type "list", data := .seq (.str n1 u1 :: .str n2 u2 :: rest).toArray kn } : Obj)) ∈ news) (a11 : rest.length ≤ 10) (a12 : Tame 60 n1) (a13 : 1 ≤ n) (a14 : n ≤ 41) (a15 : 0 ≤ told) (a16 : told ≤ 100) (a17 : told ≠ n) (a18 : dp + 12 < recursionLimit) (a19 : un + 100 < cLine) (a20 : (∀ c0 oc0 P0 d0 od0 R0 t h' tk', CodeOf oc0 P0 QC → CodeOf od0 R0 QD → @Ne Nat c0 P0 → @Ne Nat d0 R0 → Fr h₀ L h' m → News h₀ L h' ((c0, oc0) :: (P0, tabObj (#[] ++ #[rawInt (324 : Nat), rawInt (8 : Nat), .ref d0])) :: (d0, od0) :: (318, tabObj (#[] ++ #[rawInt (322 : Nat), rawInt (4 : Nat), .ref c0])) :: news) → Q (.str (PySem.Str.ofString "RuntimeError") t) { s with heap := h', toks := tk' })) :
    wpAny (model PySem.Challenge.pw_aj5026_01 w) (ktrTop dp un gd cn cs L a ccd cl []) (call (.ref 323) [.int n tn, .int told tt, .int bl tb, .ref nm]) Q E s :=
  made_miss _ _ _ _ _ _ _ _ _ _ _ _ _ _ _ _ _ _ _ _ _ _ _ _ _ _ _ _ _ _ a0 a1 a2 a3 a4 a5 a6 a7 a8 a9 a10 a11 a12 a13 a14 a15 a16 a17 a18 a19 a20
theorem made_useR {w : World} {p : Program} {loose : List Str} {mean : ExcName → Option Value} {mg mb : Str → Option Value} {dp un : Nat} {gd : Option (List Code)} {cn : Str} {cs : Scope} {a : Addr} {ccd : Value} {cl : List (Str × Addr)} {A₀ : Around} {base h₀ : Heap} {L : Addr} {m : Str → Option Value} {news : List (Addr × Obj)} {s : Shared} {nm : Addr} {n1 n2 : Str} {u1 u2 : Tok} {rest : List Value} {kn : Nat} {n told bl : Int} {tn tt tb : Tok} {c0 : Addr} {oc0 : Obj} {P0 d0 : Addr} {od0 : Obj} {R0 : Addr} {Q E : Value → Shared → Prop}
    (a0 : (Mine.K w.params).In base) (a1 : Top p loose mean mg mb base) (a2 : Below A₀ base [] h₀) (a3 : Fr h₀ L s.heap m) (a4 : (Mine.K w.params).In h₀) (a5 : News h₀ L s.heap news) (a6 : Top p loose mean mg mb h₀) (a7 : cs.kind = .function) (a8 : CodeHd h₀ 322 318) (a9 : (318, tabObj (#[] ++ #[rawInt (322 : Nat), rawInt (4 : Nat), .ref c0])) ∈ news) (a10 : (c0, oc0) ∈ news) (a11 : (P0, tabObj (#[] ++ #[rawInt (324 : Nat), rawInt (8 : Nat), .ref d0])) ∈ news) (a12 : (d0, od0) ∈ news) (a13 : CodeOf oc0 P0 QC) (a14 : CodeOf od0 R0 QD) (a15 : @Ne Nat c0 P0) (a16 : @Ne Nat d0 R0) (a17 : (nm, ({ cls := .type "list", data := .seq (.str n1 u1 :: .str n2 u2 :: rest).toArray kn } : Obj)) ∈ news) (a18 : rest.length ≤ 10) (a19 : Tame 60 n1) (a20 : 1 ≤ n) (a21 : n ≤ 41) (a22 : 0 ≤ told) (a23 : told ≤ 100) (a24 : told ≠ n) (a25 : dp + 12 < recursionLimit) (a26 : un + 100 < cLine) (a27 : (∀ t h' tk', Fr h₀ L h' m → News h₀ L h' news → Q (.str (PySem.Str.ofString "RuntimeError") t) { s with heap := h', toks := tk' })) :
    wpAny (model PySem.Challenge.pw_aj5026_01 w) (ktrTop dp un gd cn cs L a ccd cl []) (call (.ref 323) [.int n tn, .int told tt, .int bl tb, .ref nm]) Q E s :=
  made_hitR _ _ _ _ _ _ _ _ _ _ _ _ _ _ _ _ _ _ _ _ _ _ _ _ _ _ _ _ _ _ _ _ _ _ _ _ a0 a1 a2 a3 a4 a5 a6 a7 a8 a9 a10 a11 a12 a13 a14 a15 a16 a17 a18 a19 a20 a21 a22 a23 a24 a25 a26 a27
theorem made_useV {w : World} {p : Program} {loose : List Str} {mean : ExcName → Option Value} {mg mb : Str → Option Value} {dp un : Nat} {gd : Option (List Code)} {cn : Str} {cs : Scope} {a : Addr} {ccd : Value} {cl : List (Str × Addr)} {A₀ : Around} {base h₀ : Heap} {L : Addr} {m : Str → Option Value} {news : List (Addr × Obj)} {s : Shared} {nm : Addr} {n1 n2 : Str} {u1 u2 : Tok} {rest : List Value} {kn : Nat} {n told bl : Int} {tn tt tb : Tok} {c0 : Addr} {oc0 : Obj} {P0 d0 : Addr} {od0 : Obj} {R0 : Addr} {Q E : Value → Shared → Prop}
    (a0 : (Mine.K w.params).In base) (a1 : Top p loose mean mg mb base) (a2 : Below A₀ base [] h₀) (a3 : Fr h₀ L s.heap m) (a4 : (Mine.K w.params).In h₀) (a5 : News h₀ L s.heap news) (a6 : Top p loose mean mg mb h₀) (a7 : cs.kind = .function) (a8 : CodeHd h₀ 322 318) (a9 : (318, tabObj (#[] ++ #[rawInt (322 : Nat), rawInt (4 : Nat), .ref c0])) ∈ news) (a10 : (c0, oc0) ∈ news) (a11 : (P0, tabObj (#[] ++ #[rawInt (324 : Nat), rawInt (8 : Nat), .ref d0])) ∈ news) (a12 : (d0, od0) ∈ news) (a13 : CodeOf oc0 P0 QC) (a14 : CodeOf od0 R0 QD) (a15 : @Ne Nat c0 P0) (a16 : @Ne Nat d0 R0) (a17 : (nm, ({ cls := .type "list", data := .seq (.str n1 u1 :: .str n2 u2 :: rest).toArray kn } : Obj)) ∈ news) (a18 : rest.length ≤ 10) (a19 : Tame 60 n1) (a20 : 1 ≤ n) (a21 : n ≤ 41) (a22 : 0 ≤ told) (a23 : told ≤ 100) (a24 : told = n) (a25 : dp + 12 < recursionLimit) (a26 : un + 100 < cLine) (a27 : (∀ t h' tk', Fr h₀ L h' m → News h₀ L h' news → Q (.int told t) { s with heap := h', toks := tk' })) :
    wpAny (model PySem.Challenge.pw_aj5026_01 w) (ktrTop dp un gd cn cs L a ccd cl []) (call (.ref 323) [.int n tn, .int told tt, .int bl tb, .ref nm]) Q E s :=
  made_hitV _ _ _ _ _ _ _ _ _ _ _ _ _ _ _ _ _ _ _ _ _ _ _ _ _ _ _ _ _ _ _ _ _ _ _ _ a0 a1 a2 a3 a4 a5 a6 a7 a8 a9 a10 a11 a12 a13 a14 a15 a16 a17 a18 a19 a20 a21 a22 a23 a24 a25 a26 a27
theorem off_at {need : List (Addr × Obj)} {l : List Addr} {d : Addr} (h : OwnOff need l) (hd : d ∈ l) : OwnOff need [d] := by
  intro q hq b hb
  rw [List.mem_singleton.mp hb]
  exact h q hq d hd
theorem off_list {d : Addr} : ∀ {pre need : List (Addr × Obj)}, (∀ q ∈ pre, q.1 ≠ d) → OwnOff need [d] → OwnOff (pre ++ need) [d]
  | _, _, h1, h2 => by
    intro q hq b hb
    rw [List.mem_singleton.mp hb]
    rcases List.mem_append.mp hq with hq | hq
    · exact h1 q hq
    · exact h2 q hq d (.head _)
theorem news_tail {h₀ h : Heap} {L : Addr} {q : Addr × Obj} {l : List (Addr × Obj)} (N : News h₀ L h (q :: l)) : News h₀ L h l := fun p hp => N p (.tail _ hp)
theorem drop_ty {h₀ h : Heap} {L a : Addr} {t : String} {d : Option Addr} {x : Data} {sl : Array (Option Value)} {l : List (Addr × Obj)} (N : News h₀ L h ((a, Obj.mk (.type t) d x sl) :: l)) : News h₀ L h l := fun p hp => N p (.tail _ hp)
theorem addr_off {h₀ h : Heap} {L : Addr} {q : Addr × Obj} {l : List (Addr × Obj)} (_ : News h₀ L h (q :: l)) (h : ∀ p ∈ l, p.1 ≠ q.1) : ∀ a ∈ l.map (fun p : Addr × Obj => p.1), a ≠ q.1 := by
  intro a ha
  obtain ⟨z, hz, rfl⟩ := List.mem_map.mp ha
  exact h z hz
theorem off_map {l : List (Addr × Obj)} {d : Addr} (h : ∀ a ∈ l.map (fun p : Addr × Obj => p.1), a ≠ d) : OwnOff l [d] := by
  intro q hq b hb
  rw [List.mem_singleton.mp hb]
  exact h q.1 (List.mem_map_of_mem hq)
theorem off_cons1 {q : Addr × Obj} {l : List (Addr × Obj)} {d : Addr} (h : q.1 ≠ d) (r : OwnOff l [d]) : OwnOff (q :: l) [d] := by
  intro z hz b hb
  rw [List.mem_singleton.mp hb]
  rcases List.mem_cons.mp hz with rfl | hz
  · exact h
  · exact r z hz d (.head _)
theorem news_pick {h₀ h : Heap} {L : Addr} {q : Addr × Obj} {l : List (Addr × Obj)} (k : Nat) (N : News h₀ L h l) (hk : l[k]? = some q) : News h₀ L h (q :: l.eraseIdx k) := by
  refine News.perm N fun p hp => ?_
  rcases List.mem_cons.mp hp with rfl | hp
  · exact List.mem_of_getElem? hk
  · exact List.mem_of_mem_eraseIdx hp
theorem range_in {n : Nat} {k : Int} (h : k ∈ rangeKs 0 n) : 0 ≤ k ∧ k < n := by
  unfold rangeKs at h
  simp only [List.mem_map, List.mem_range] at h
  obtain ⟨i, hi, rfl⟩ := h
  omega
theorem num_len {n : Int} (h0 : 0 ≤ n) (h1 : n < 10 ^ 10) : (PySem.Str.ofString (toString n)).length ≤ 10 := KT.len_num h0 h1
theorem tame_name {k c : Int} (h0 : 0 ≤ k) (h1 : k < 1000) : Tame 60 (PySem.Str.ofString "hash" ++ PySem.Str.ofString (toString k) ++ PySem.Str.ofString "-" ++ PySem.Str.ofString (toString (c.fmod 100))) :=
  tame_add (a := 40) (b := 10) (tame_add (a := 20) (b := 1) (tame_add (a := 4) (b := 10) (tame_of "hash" (by decide)) (tame_of _ (num_len h0 (by omega))) (by decide)) (tame_of "-" (by decide)) (by decide))
    (tame_of _ (num_len (fmod_lo _ (by decide)) (Int.lt_trans (fmod_hi _ (by decide)) (by decide)))) (by decide)
theorem carried_named {g : Int → PySem.Str} {l : List Int} {ys : List Value} (h : CarriedAll ys (l.map fun k => PyData.str (g k))) (hl : 2 ≤ l.length) (hT : ∀ k ∈ l, Tame 60 (g k)) :
    ∃ a ta b tb rest rs, ys = .str a ta :: .str b tb :: rest ∧ rest.length + 2 = l.length ∧ StrsAre rest rs ∧ Tame 60 a := by
  match l, hl, h, hT with
  | k1 :: k2 :: r, hl, h, hT =>
    obtain ⟨a, ta, b, tb, rest, rs, e, hn, hs⟩ := carried_two h hl
    refine ⟨a, ta, b, tb, rest, rs, e, hn, hs, ?_⟩
    subst e
    cases h with
    | cons h1 _ =>
      cases h1
      exact hT k1 (.head _)
end Mine

end
section
open PySem PySem.Spec PySem.Calls PySem.W PyProof.Rows
set_option Elab.async false
namespace Mine
theorem fillUpW : (fun (_ : OpenLaw) (_ : Params → Frag) => True) PySem.Challenge.rw_aj5026_01 Mine.K := by
  k_fill
  trivial
section
variable {prog : Program} {w : World} {A : Around} {E : Value → Shared → Prop} {s : Shared}
theorem str_small {n : Int} {t : Tok} {Q : Value → Shared → Prop} (h0 : 0 ≤ n) (h1 : n < 10 ^ 10) (h : Q (.str (toString n) s.toks) { s with toks := s.toks + 1 }) : wpAny (model prog w) A (call (.type "str") [.int n t]) Q E s :=
  P.str_of_int (shown (N := 2 ^ 1920) (by omega) (by omega) (Int.le_refl _)) h
theorem add_small {x y : PySem.Str} {t u : Tok} {Q : Value → Shared → Prop} (hx : x.length ≤ 40) (hy : y.length ≤ 40) (h : ∀ t' tk, Q (.str (x ++ y) t') { s with toks := tk }) : wpAny (model prog w) A (binaryOp .Add (.str x t) (.str y u)) Q E s :=
  PyProof.Rows.add_str h (by rw [sizeLine_eq]; omega)
theorem len_num5 {n : Int} (h0 : 0 ≤ n) (h1 : n < 10 ^ 10) : (PySem.Str.ofString (toString n)).length ≤ 10 := KT.len_num h0 h1
theorem len_fmod {x : Int} : (PySem.Str.ofString (toString (x.fmod 100))).length ≤ 10 := KT.len_num (fmod_lo _ (by decide)) (Int.lt_trans (fmod_hi _ (by decide)) (by decide))
theorem len_two {x y : PySem.Str} {a b : Nat} (hx : x.length ≤ a) (hy : y.length ≤ b) (h : a + b ≤ 40) : (x ++ y).length ≤ 40 := by rw [PySem.Str.length_append]; omega
theorem len_lit {x : PySem.Str} {a : Nat} (h : x.length ≤ a) : x.length ≤ a := h
end
local macro_rules | `(tactic| walk_at "ite") => `(tactic| first
  | ((with_reducible show if (_ != _) = true then _ else _); refine ite_neg (bne_self_no _) ?_)
  | ((with_reducible show if (_ != _) = true then _ else _); refine ite_neg (bne_no (by omega)) ?_)
  | ((with_reducible show if (_ != _) = true then _ else _); refine ite_pos (bne_yes (by omega)) ?_)
  | ((with_reducible show if (decide _) = true then _ else _); refine ite_neg ?_ ?_; (focus ((simp only [decide_eq_true_eq]); omega)))
  | ((with_reducible show if (decide _) = true then _ else _); refine ite_pos ?_ ?_; (focus ((simp only [decide_eq_true_eq]); omega))))
local macro_rules | `(tactic| walk_at "call ref") => `(tactic| (k_here; first
  | ((with_reducible show wpAny _ _ (call (Value.ref 309) [_, _]) _ _ _); refine stop9 ?_)
  | ((with_reducible show wpAny _ _ (call (Value.ref 155) [_, _]) _ _ _); refine stop9 ?_)))
local macro_rules | `(tactic| walk_at "binaryOp Mod int int") => `(tactic| (k_here; (first | (with_reducible show wpAny _ _ (binaryOp _ (Value.int _ _) (Value.int 40 _)) _ _ _) | (with_reducible show wpAny _ _ (binaryOp _ (Value.int _ _) (Value.int 71 _)) _ _ _) | (with_reducible show wpAny _ _ (binaryOp _ (Value.int _ _) (Value.int 4 _)) _ _ _) | (with_reducible show wpAny _ _ (binaryOp _ (Value.int _ _) (Value.int 5 _)) _ _ _)); k_dflt (refine mod_pos (by omega) ?_; intro r9 t9 k9 hr9 hs9)))
local macro_rules | `(tactic| k_all) => `(tactic| kst_allNe)
local macro_rules | `(tactic| walk_at "binaryOp Add str str") => `(tactic| (k_here; (with_reducible show wpAny _ _ (binaryOp _ (Value.str _ _) (Value.str _ _)) _ _ _); k_dflt (refine' add_small ?a ?b ?_; (case b => first | (with_unfolding_all exact Nat.le_of_ble_eq_true rfl) | exact Nat.le_trans len_fmod (by decide) | exact Nat.le_trans (len_num5 (by omega) (by omega)) (by decide)); (case a => first | (with_unfolding_all exact Nat.le_of_ble_eq_true rfl) | (refine' Nat.le_trans ?kta ?ktb; (case kta => kt_len); (case ktb => exact Nat.le_of_ble_eq_true rfl))); intro _ _)))
local macro_rules | `(tactic| walk_at "call type:str") => `(tactic| (k_here; (with_reducible show wpAny _ _ (call (Value.type "str") [Value.int (Int.fmod _ _) _]) _ _ _); k_dflt (refine str_small (fmod_lo _ (by decide)) (Int.lt_trans (fmod_hi _ (by decide)) (by decide)) ?_)))
local macro_rules | `(tactic| walk_at "call type:str") => `(tactic| (k_here; (with_reducible show wpAny _ _ (call (Value.type "str") [Value.int _ _]) _ _ _); k_dflt (refine str_small (by omega) (by omega) ?_)))
local macro_rules | `(tactic| walk_at "compareOp NotEq ref ref") => `(tactic| (k_here; (with_reducible show wpAny _ _ (compareOp CmpOp.NotEq (Value.ref _) (Value.ref _)) _ _ _); k_dflt (refine' ne_same_lists ?N ?a ?b ?u ?_; (case N => k_asm); (case a => k_mem); (case b => k_mem); (case u => first | units_room | ktr_units))))
local macro_rules | `(tactic| walk_at "subscriptTail Name Slice ref ref") => `(tactic| (k_here; k_dflt (refine' slice_list2 ?F ?N ?t ?z ?_ ?s ?g; (case F => k_asm); (case N => k_asm); (case t => k_mem); (case z => assumption); (case s => with_unfolding_all rfl); (case g => intro _; with_unfolding_all rfl)); intro D' h' F' N' l1; (try k_lt l1); (try k_sweep)))
local macro_rules | `(tactic| walk_at "pyIter ref") => `(tactic| (k_here; (with_reducible show wpAny _ _ (pyIter (Value.ref _)) (CompPostA _ _ _ _ _ _ _ _ _ _) _ _); k_dflt (refine' row_own (K := Mine.K _) (C := 155) ?F ?X ?I ?s ?f ?h ?hl ?kd ?xl ?xd ?_; (case F => k_asm); (case X => k_asm); (case I => exact InstAt.of_news (by k_asm) (by k_mem) (by k_mem)); (case s => k_is); (case f => kernel_rfl); (case h => exact rfl); (case hl => exact rfl); (case kd => exact rfl); (case xl => intro _; exact rfl); (case xd => decide))))
local macro_rules | `(tactic| walk_at "call builtin:iter") => `(tactic| (k_here; k_dflt (refine' iter_tuple ?F ?N ?m ?_; (case F => k_asm); (case N => k_asm); (case m => k_mem)); intro it' h' F' N' l1))
local macro_rules | `(tactic| walk_at "RowBack") => `(tactic| (k_dflt (refine' row_back ?F ?N ?m ?l ?z ?_; (case F => k_asm); (case N => k_asm); (case m => k_mem); (case l => assumption); (case z => exact Nat.le_of_ble_eq_true rfl)); intro D' k' h' tk' F' N' o1'; clear o1'; (try dsimp only); (try k_fold)))
local macro_rules | `(tactic| walk_at "subscriptTail Name Slice ref ref") => `(tactic| (k_here; k_dflt (refine' sub_slice_own (K := Mine.K _) (C := 155) ?F ?N ?X ?I ?q ?s ?f ?g ?o ?_; (case F => k_asm); (case N => k_asm); (case X => k_asm); (case I => exact InstAt.of_news (by k_asm) (by k_mem) (by k_mem)); (case q => k_is); (case s => k_is); (case f => k_is); (case g => k_is); (case o => exact rfl)); intro S' h' F' N' l1; (try k_sweep)))
local macro_rules | `(tactic| walk_at "subscriptTail") => `(tactic| (k_here; (with_reducible show wpAny _ _ (subscriptTail _ (PySem.Expr.Name _ _) (Value.ref _) (Value.ref _)) _ _ _); k_dflt (refine' tup_cut1 ?F ?N ?t ?S ?a ?z ?e ?_; (case F => k_asm); (case N => k_asm); (case t => k_mem); (case S => k_mem); (case a => exact Nat.le_of_ble_eq_true rfl); (case z => exact Nat.le_of_ble_eq_true rfl); (case e => exact rfl)); intro D' h' F' N' l1; (try k_sweep)))
local macro_rules | `(tactic| walk_at "compareOp NotEq ref ref") => `(tactic| (k_here; (with_reducible show wpAny _ _ (compareOp CmpOp.NotEq (Value.ref _) (Value.ref _)) _ _ _); k_dflt (refine cmp_ofNotEq ?_; refine' cmp_K (K := Mine.K _) (C := 155) (tb := .type "tuple") ?u ?F ?X ?I ?b ?n ?s ?f ?_; (case u => first | exact Nat.le_of_ble_eq_true rfl | units_room | ktr_units); (case F => k_asm); (case X => k_asm); (case I => exact InstAt.of_news (by k_asm) (by k_mem) (by k_mem)); (case b => exact looks_tup (by k_asm) (by k_mem)); (case n => k_is); (case s => k_is); (case f => k_is))))
local macro_rules | `(tactic| walk_at "compareOp Eq ref ref") => `(tactic| (k_here; (with_reducible show wpAny _ _ (compareOp CmpOp.Eq (Value.ref _) (Value.ref _)) _ _ _); k_dflt (first
  | (refine' eq_tup3_yes ?N ?a ?b ?u ?e1 ?e2 ?_; (case N => k_asm); (case a => k_mem); (case b => k_mem); (case u => first | exact Nat.le_of_ble_eq_true rfl | units_room | ktr_units); (case e1 => omega); (case e2 => omega))
  | (refine' eq_tup3_no ?N ?a ?b ?u ?e1 ?_; (case N => k_asm); (case a => k_mem); (case b => k_mem); (case u => first | exact Nat.le_of_ble_eq_true rfl | units_room | ktr_units); (case e1 => omega))
  | (refine' eq_tup32 ?N ?a ?b ?u ?_; (case N => k_asm); (case a => k_mem); (case b => k_mem); (case u => first | exact Nat.le_of_ble_eq_true rfl | units_room | ktr_units))
  | (refine cmp_ofEq ?_; refine' cmp_K (K := Mine.K _) (C := 155) (tb := .type "tuple") ?u ?F ?X ?I ?b ?n ?s ?f ?_; (case u => first | exact Nat.le_of_ble_eq_true rfl | units_room | ktr_units); (case F => k_asm); (case X => k_asm); (case I => exact InstAt.of_news (by k_asm) (by k_mem) (by k_mem)); (case b => exact looks_tup (by k_asm) (by k_mem)); (case n => k_is); (case s => k_is); (case f => k_is)))))
local macro_rules | `(tactic| walk_at "call ref") => `(tactic| (k_here; (with_reducible show wpAny _ _ (call (Value.ref 152) [Value.ref _]) _ _ _); k_dflt (refine' tup_use ?a0 ?a1 ?a2 ?a3 ?a4 ?a5 ?a6 ?a7 ?a8 ?a9 ?_; (case a0 => k_asm); (case a1 => k_asm); (case a2 => k_asm); (case a3 => k_asm); (case a4 => k_asm); (case a5 => first | assumption | exact rfl); (case a6 => k_mem); (case a7 => k_mem); (case a8 => ktr_room); (case a9 => ktr_units)); intro t9 h9 tk9 l1 F9 N9; (try k_lt l1); (try k_sweep); (try dsimp only); (try k_fold)))
local macro_rules | `(tactic| walk_at "exec If") => `(tactic| (k_here; (first
  | (with_reducible show wpAny _ _ (exec (Stmt.If (PySem.Expr.BoolOp _ (PySem.Expr.Compare (PySem.Expr.Subscript _ _ _ _) _ _ _ :: _) _) _ _ _) _) _ _ _)
  | (with_reducible show wpAny _ _ (exec (Stmt.If (PySem.Expr.BoolOp _ (PySem.Expr.UnaryOp _ _ _ :: _) _) _ _ _) _) _ _ _)
  | (with_reducible show wpAny _ _ (exec (Stmt.If (PySem.Expr.BoolOp _ (PySem.Expr.Compare (PySem.Expr.Call _ [PySem.Expr.Name _ _] [] _) [CmpOp.IsNot] _ _ :: _) _) _ _ _) _) _ _ _)); (rename News _ _ _ _ => zN9); (with_reducible (replace zN9 := drop_ty zN9)); (repeat ((rename News _ _ _ _ => zN9); (with_reducible (replace zN9 := drop_ty zN9))))))
local macro_rules | `(tactic| walk_at "eval ListComp") => `(tactic| (k_here; k_dflt (refine LCg.ListComp_U (F₀ := by k_asm) (by rfl) (by decide) (by rfl) (by decide) (by rfl) ?_)))
local macro_rules | `(tactic| walk_at "CompSrc") => `(tactic| (k_here; k_dflt (refine LCg.CompSrc.range (by rfl) (by k_asm) (by k_asm) (by assumption) (by first | decide | rfl) (by first | rfl | decide) (by first | size_fits | exact Nat.le_of_ble_eq_true rfl) ?_; intro g'; lcg_lit)))
local macro_rules | `(tactic| walk_at "CompEnd") => `(tactic| (k_here; k_dflt (refine LCg.CompEnd.intro (by k_asm) (by k_asm) _ (fun _ hp => hp) (by assumption) trivial ?_)))
local macro_rules | `(tactic| walk_at "call ref") => `(tactic| (k_here; (with_reducible show wpAny _ _ (call (Value.ref 316) [_, _, _, _]) _ _ _); k_dflt (refine' kind_use ?b0 ?b1 ?a0 ?a1 ?a2 ?a3 ?a4 ?a5 ?a6 ?a7 ?c1 ?c2 ?c3 ?a8 ?a9 ?_; (case b0 => k_asm); (case b1 => k_asm); (case a0 => k_asm); (case a1 => k_asm); (case a2 => k_asm); (case a3 => k_asm); (case a4 => k_asm); (case a5 => first | assumption | exact rfl); (case a6 => k_mem); (case a7 => k_mem); (case c1 => (repeat (first | with_reducible assumption | refine List.mem_cons_of_mem _ ?_))); (case c2 => omega); (case c3 => omega); (case a8 => ktr_room); (case a9 => ktr_units)); intro t9 h9 tk9 F9 N9; (try k_sweep); (try dsimp only); (try k_fold)))
local macro_rules | `(tactic| walk_at "call ref") => `(tactic| (k_here; (with_reducible show wpAny _ _ (call (Value.ref 323) [_, _, _, _]) _ _ _); first
  | (k_dflt (refine' made_useR (c0 := _) ?b0 ?b1 ?a0 ?a1 ?a2 ?a3 ?a4 ?a5 ?a6 ?m1 ?m2 ?m3 ?m4 ?c1 ?c2 ?n1 ?n2 ?l1 ?l2 ?l3 ?o1 ?o2 ?o3 ?o4 ?o5 ?a8 ?a9 ?_; (case o5 => omega); (case b0 => k_asm); (case b1 => k_asm); (case a0 => k_asm); (case a1 => k_asm); (case a2 => k_asm); (case a3 => k_asm); (case a4 => k_asm); (case a5 => first | assumption | exact rfl); (case a6 => assumption); (case m1 => k_mem); (case m2 => k_mem); (case c1 => assumption); (case m3 => k_mem); (case m4 => k_mem); (case c2 => assumption); (case n1 => assumption); (case n2 => assumption); (case l1 => k_mem); (case l2 => assumption); (case l3 => assumption); (case o1 => omega); (case o2 => omega); (case o3 => omega); (case o4 => omega); (case a8 => ktr_room); (case a9 => ktr_units)); intro t9 h9 tk9 F9 N9; (try k_sweep); (try dsimp only); (try k_fold))
  | (k_dflt (refine' made_useV (c0 := _) ?b0 ?b1 ?a0 ?a1 ?a2 ?a3 ?a4 ?a5 ?a6 ?m1 ?m2 ?m3 ?m4 ?c1 ?c2 ?n1 ?n2 ?l1 ?l2 ?l3 ?o1 ?o2 ?o3 ?o4 ?o5 ?a8 ?a9 ?_; (case o5 => omega); (case b0 => k_asm); (case b1 => k_asm); (case a0 => k_asm); (case a1 => k_asm); (case a2 => k_asm); (case a3 => k_asm); (case a4 => k_asm); (case a5 => first | assumption | exact rfl); (case a6 => assumption); (case m1 => k_mem); (case m2 => k_mem); (case c1 => assumption); (case m3 => k_mem); (case m4 => k_mem); (case c2 => assumption); (case n1 => assumption); (case n2 => assumption); (case l1 => k_mem); (case l2 => assumption); (case l3 => assumption); (case o1 => omega); (case o2 => omega); (case o3 => omega); (case o4 => omega); (case a8 => ktr_room); (case a9 => ktr_units)); intro t9 h9 tk9 F9 N9; (try k_sweep); (try dsimp only); (try k_fold))
  | (with_reducible rename CodeOf _ _ _ => hNo; fail "made")
  | (refine stop9 ?_)))
local macro_rules | `(tactic| walk_at "call ref") => `(tactic| (k_here; (with_reducible show wpAny _ _ (call (Value.ref 165) [Value.ref _, Value.bytes _ _, Value.bytes _ _, Value.int _ _]) _ _ _); (rename HashSpec _ _ _ _ _ _ _ _ _ => hH9); k_dflt (refine' pbk_use hH9 ?k1 ?k2 ?k3 ?k4 ?k5 ?kK ?kn ?kx ?kdx ?b1 ?b2 ?b3 ?b4 ?b5 ?kd ?ku ?_; (case k1 => k_asm); (case k2 => k_asm); (case k3 => k_asm); (case k4 => k_asm); (case k5 => k_asm); (case kK => first | assumption | exact rfl); (case kn => exact (fun q9 hq9 => by repeat (first | exact hq9 | refine List.mem_cons_of_mem _ ?_))); (case kx => k_mem); (case kdx => k_mem); (case b1 => first | decide | ((try simp only [List.size_toArray, List.length_nil, List.length_cons]); omega)); (case b2 => omega); (case b3 => omega); (case b4 => omega); (case b5 => omega); (case kd => ktr_room); (case ku => ktr_units)); intro b9 t9 h9 tk9 hb9 hz9 F9 N9; (try dsimp only); (try k_fold)))
local macro_rules | `(tactic| walk_at "callWith ref") => `(tactic| (k_here; (with_reducible show wpAny _ _ (callWith _ (Value.ref _) _ (backTo _ (starEach [] _)) []) _ _ _); k_dflt (refine' callWith_K0 ?k1 ?k2 ?_; (case k1 => k_in); (case k2 => k_is); k_whole)))
local macro_rules | `(tactic| walk_at "subscriptTail") => `(tactic| (k_here; (with_reducible show wpAny _ _ (subscriptTail _ _ (Value.ref _) (Value.int _ _)) _ _ _); k_dflt (refine' sub_K (K := Mine.K _) (C := 155) ?F ?X ?I ?s ?f ?g ?_; (case F => k_asm); (case X => k_asm); (case I => exact InstAt.of_news (by k_asm) (by k_mem) (by k_mem)); (case s => k_is); (case f => k_is); (case g => k_is))))
local macro_rules | `(tactic| walk_at "callWith ref") => `(tactic| (k_here; (with_reducible show wpAny _ _ (callWith _ (Prod.fst _) _ _ _) _ _ _); dsimp only))
local macro_rules | `(tactic| walk_at "subscriptTail") => `(tactic| (k_here; (with_reducible show wpAny _ _ (subscriptTail _ _ (Value.ref _) (Value.int _ _)) _ _ _); k_dflt (refine' item_l ?N ?m ?a ?b ?c ?_; (case N => k_asm); (case m => k_mem); (case a => decide); (case b => decide); (case c => rfl))))
local macro_rules | `(tactic| k_in) => `(tactic| (refine' Frag.In.keeps ?x (Fr.keep ?f); (case f => k_asm); (case x => k_asm)))
local macro_rules | `(tactic| walk_at "binaryOp Mult ref int") => `(tactic| (k_here; (with_reducible show wpAny _ _ (binaryOp Operator.Mult (Value.ref _) (Value.int _ _)) _ _ _); k_dflt (refine' KMa.mul (vs := [Value.str _ _]) ?F ?N ?l ?lo ?hi ?z ?e ?_; (case F => k_asm); (case N => k_asm); (case l => exact News.isList (by k_asm) (by k_mem)); (case lo => decide); (case hi => decide); (case z => exact Nat.le_of_ble_eq_true rfl); (case e => exact rfl)); intro D' h' F' N' l1; (try k_lt l1); (try k_sweep)))

set_option maxRecDepth 100000 in
set_option maxHeartbeats 8000000 in
theorem walk01 : PySem.Challenge.rw_aj5026_01.Holds := Mine.hd (by
  intro w s₀ s₁ mg mb G Y fa o pm cd doc dV kV ho hd hcd hD hmg hg args vals as hpre hlay hrd hwl hlo
  have KX := pk_in k_alive k_part Y
  have hT8 := pk_tabs k_alive k_tabs Y
  have X := (Ground.X G).1
  have V := (Ground.X G).2
  refine Ground.open G ?_
  intro T B D TE TW
  try (refine guard_noD D (by decide +kernel) ?_; clear D)
  km_lay T hmg ho hd cd
  clear hmg
  wrow_args hpre hlay hrd hwl hlo
  all_goals (
    first | refine callC_kw (enter_call ?_) | refine enter_call ?_
    w_top on
    kn_posts
    w_call any ho hd hcd hD T F
    clear hd
    kn_ghosts F T
    k_drop
    skip)
  (all_goals try k_fold)
  repeat' (first | (k_unfold; (try dsimp only)) | walk1 | (dsimp only; walk1) | (leave1; try dsimp only) | fail "no step")
  apply Stop9.mk
  rename CarriedAll _ _ => hCA
  obtain ⟨na, nta, nb, ntb, nrest, nrs, hys, hlen, hstrs, hTame⟩ := carried_named hCA (by rw [rangeKs_length]; omega) (fun k hk => tame_name (mem_rangeKs hk).1 (by have hk2 := (mem_rangeKs hk).2; omega))
  have hnrest : nrest.length ≤ 10 := by rw [rangeKs_length] at hlen; omega
  subst hys
  clear hCA hlen hstrs
  k_dflt (refine' mk_use (pre := [_, _, _, _, _, _, _, _]) ?k1 ?k2 ?k3 ?k4 ?k5 ?kK ?kc ?kne ?b1 ?b2 ?kd ?ku ?_; (case k1 => k_asm); (case k2 => k_asm); (case k3 => k_asm); (case k4 => k_asm); (case k5 => k_asm); (case kK => exact rfl); (case kc => assumption); (case kne => k_all); (case b1 => omega); (case b2 => omega); (case kd => ktr_room); (case ku => ktr_units))
  intro fM needM tabM hM tkM hFirst hFn hOff hOff2 FM NM
  simp only [List.cons_append, List.nil_append] at NM hOff2
  simp only [List.map_cons, List.map_nil] at hOff2
  (try k_sweep)
  (try dsimp only)
  (try k_fold)
  repeat' (first | (k_unfold; (try dsimp only)) | walk1 | (dsimp only; walk1) | (leave1; try dsimp only) | fail "no step")
  apply Stop9.mk
  k_dflt (refine' info_use hFirst (pre := [_, _, _, _, _, _, _, _, _]) ?k1 ?k2 ?k3 ?k4 ?k5 ?kK ?ks hFn ?kn ?kr ?b1 ?b2 ?kd ?ku ?_; (case k1 => k_asm); (case k2 => k_asm); (case k3 => k_asm); (case k4 => k_asm); (case k5 => k_asm); (case kK => exact rfl); (case ks => exact hOff2); (case kn => exact .head _); (case kr => assumption); (case b1 => omega); (case b2 => omega); (case kd => ktr_room); (case ku => ktr_units))
  intro needN xN dxN alN e1 e2 e3 e4 e5 e6 y1 y2 y3 y4 y5 y6 ty tz hN tkN hNext lN1 lN2 lN3 hOffN hOffP FN NN
  simp only [List.cons_append, List.nil_append] at NN
  simp only [List.map_cons, List.map_nil] at hOffP
  (try dsimp only at hNext)
  obtain ⟨hHash, odF, fdF, slF, hfm⟩ := hNext
  simp only [AllLt, and_true] at lN1
  (try k_lt2 lN2)
  (try k_lt2 lN3)
  have zM1 := news_pick 10 NN rfl
  simp only [List.eraseIdx_cons_succ, List.eraseIdx_cons_zero] at zM1
  have h318 := addr_off zM1 (by (repeat (refine List.forall_mem_cons.mpr ⟨by k_ne, ?_⟩)); exact fun q hq => off_at hOffP (by repeat (first | with_reducible exact List.Mem.head _ | refine List.Mem.tail _ ?_)) q hq _ (.head _))
  clear zM1 hFirst hFn hOff hOff2
  (try k_sweep)
  (try dsimp only)
  (try k_fold)
  repeat' (first | (k_unfold; (try dsimp only)) | walk1 | (dsimp only; walk1) | (leave1; try dsimp only) | fail "no step")
  apply Stop9.mk
  (repeat ((rename News _ _ _ _ => zN9); (with_reducible (replace zN9 := drop_ty zN9))))
  rename News _ _ _ _ => zN9
  have zM9 := news_pick 10 zN9 rfl
  simp only [List.eraseIdx_cons_succ, List.eraseIdx_cons_zero] at zM9
  clear zN9
  k_dflt (refine' made_use0 ?b0 ?b1 ?a0 ?a1 ?a2 ?a3 ?a4 ?a5 ?a6 ?off ?l1 ?l2 ?l3 ?o1 ?o2 ?o3 ?o4 ?o5 ?a8 ?a9 ?_; (case b0 => k_asm); (case b1 => k_asm); (case a0 => k_asm); (case a1 => k_asm); (case a2 => k_asm); (case a3 => exact zM9); (case a4 => k_asm); (case a5 => exact rfl); (case a6 => assumption); (case off => exact off_map h318); (case l1 => k_mem); (case l2 => assumption); (case l3 => assumption); (case o1 => omega); (case o2 => omega); (case o3 => omega); (case o4 => omega); (case o5 => omega); (case a8 => ktr_room); (case a9 => ktr_units))
  intro c0M oc0M P0M d0M od0M R0M tM hM2 tkM2 hCM hDM hneM1 hneM2 FM2 NM2
  clear zM9
  (try k_sweep)
  (try dsimp only)
  (try k_fold)
  k_steps)
end Mine

end
set_option maxRecDepth 100000 in
theorem PySem.Challenge.cw_aj5026_01_holds : PySem.Challenge.rw_aj5026_01.Holds := by
  exact Mine.walk01
