import PyProof.Rows.All
import Wide.All
import OpenK.AllK
import Wide.FinOn
import Open.Tops
import PySem.Challenge.RW_aj5026_02
set_option Elab.async false
section
open PySem PySem.Spec PySem.Calls PySem.W PyProof.Rows
set_option Elab.async false
namespace Mine
/-- the objects at the marked places of a heap, read in one pass -/
def pickN : Nat → List Bool → List Obj → List (Addr × Obj)
  | _, [], _ => []
  | _, _ :: _, [] => []
  | n, true :: m, o :: l => (n, o) :: pickN (n + 1) m l
  | n, false :: m, _ :: l => pickN (n + 1) m l
theorem pickN_get : ∀ (m : List Bool) (l : List Obj) (n : Nat) (p : Addr × Obj), p ∈ pickN n m l → ∃ k, p.1 = n + k ∧ l[k]? = some p.2
  | [], _, _, p, h => by simp [pickN] at h
  | _ :: _, [], _, p, h => by simp [pickN] at h
  | true :: m, o :: l, n, p, h => by
    rcases List.mem_cons.mp h with rfl | h
    · exact ⟨0, rfl, rfl⟩
    · obtain ⟨k, e, g⟩ := pickN_get m l (n + 1) p h
      exact ⟨k + 1, by rw [e, Nat.add_assoc, Nat.add_comm 1 k], by simpa using g⟩
  | false :: m, o :: l, n, p, h => by
    obtain ⟨k, e, g⟩ := pickN_get m l (n + 1) p h
    exact ⟨k + 1, by rw [e, Nat.add_assoc, Nat.add_comm 1 k], by simpa using g⟩
def alive (K : List (Addr × Obj)) : Bool := K.all fun p => match p.2.data with | .freed => false | _ => true
theorem alive_get {h : Heap} {a : Addr} {o : Obj} (e : h.objs[a]? = some o) (q : (match o.data with | .freed => false | _ => true) = true) : h.get? a = some o := by
  unfold Heap.get?
  rw [e]
  obtain ⟨c, d, dt, sl⟩ := o
  cases dt <;> first | rfl | cases q
def isTab (o : Obj) : Bool := (match o.cls with | .none => true | _ => false) && o.dict.isNone && (match o.data with | .fields vs => vs.isEmpty | _ => false) && o.slots.isEmpty
theorem isTab_eq {o : Obj} (q : isTab o = true) : o = tabObj #[] := by
  obtain ⟨c, d, dt, sl⟩ := o
  unfold isTab at q
  simp only [Bool.and_eq_true] at q
  obtain ⟨⟨⟨q1, q2⟩, q3⟩, q4⟩ := q
  have e4 : sl = #[] := Array.isEmpty_iff.1 q4
  have e2 : d = none := Option.isNone_iff_eq_none.mp q2
  have e1 : c = .none := by cases c <;> first | rfl | cases q1
  cases dt <;> first | cases q3 | skip
  rename_i vs
  have e3 : vs = #[] := Array.isEmpty_iff.1 q3
  subst e1 e2 e3 e4
  rfl
/-- what the head looks at: the objects of the part K0 (its type names no Frag: so the kit's quick road turns it too) -/
def pkHook (mask : List Bool) (K0 : Params → List (Addr × Obj)) : Hook where
  α := List (Addr × Obj)
  obs := fun s => pickN 0 mask s.heap.objs.toList
  val := fun w => K0 w.params
  says := fun w h => ∀ p ∈ K0 w.params, (match p.2.data with | .freed => false | _ => true) = true → h.get? p.1 = some p.2
  of := fun w s x p hp q => by
    rw [← x] at hp
    obtain ⟨k, e, g⟩ := pickN_get _ _ _ _ hp
    rw [Nat.zero_add] at e
    rw [e]
    refine alive_get ?_ q
    rw [← Array.getElem?_toList]
    exact g
  keeps := fun w h h' x k p hp q => k _ _ (x p hp q)
section
variable {K : Params → Frag} {ts : List Addr} {mask : List Bool} {K0 : Params → List (Addr × Obj)} {w : World} {h : Heap}
theorem pk_in (ha : ∀ P, alive (K0 P) = true) (hs : ∀ P, K P = (K0 P).filter fun p => !ts.contains p.1) (Y : (pkHook mask K0).says w h) : (K w.params).In h := fun a o e => by
  have hm := mem_of_lookupK e
  rw [hs] at hm
  have hp := (List.mem_filter.mp hm).1
  exact Y _ hp (List.all_eq_true.mp (ha w.params) _ hp)
theorem pk_tabs (ha : ∀ P, alive (K0 P) = true) (ht : ∀ P, (ts.all fun t => (K0 P).any fun p => Nat.beq p.1 t && isTab p.2) = true) (Y : (pkHook mask K0).says w h) : ∀ P ∈ ts, h.get? P = some (tabObj #[]) := fun t htm => by
  obtain ⟨p, hp, q⟩ := List.any_eq_true.mp (List.all_eq_true.mp (ht w.params) t htm)
  rw [Bool.and_eq_true] at q
  have e1 : p.1 = t := Nat.eq_of_beq_eq_true q.1
  have g := Y p hp (List.all_eq_true.mp (ha w.params) _ hp)
  rw [e1, isTab_eq q.2] at g
  exact g
end
end Mine

end
section
open PySem PySem.W PyProof.Rows
set_option Elab.async false
namespace Mine
set_option maxRecDepth 100000 in
set_option maxHeartbeats 8000000 in
open_shared sh for PySem.Challenge.pw_aj5026_02 leaving 0
set_option maxRecDepth 100000 in
noncomputable def K0 (P : Params) : List (Addr × Obj) := (nat_lit 2, PySem.W.boot_o_2 P) :: (nat_lit 3, Mine.sh.o_370 P) :: (nat_lit 15, Mine.sh.o_7 P) :: (nat_lit 17, Mine.sh.o_9 P) :: (nat_lit 18, Mine.sh.o_10 P) :: (nat_lit 20, Mine.sh.o_12 P) :: (nat_lit 21, Mine.sh.o_13 P) :: (nat_lit 22, Mine.sh.o_14 P) :: (nat_lit 24, Mine.sh.o_16 P) :: (nat_lit 25, Mine.sh.o_17 P) :: (nat_lit 27, Mine.sh.o_19 P) :: (nat_lit 28, Mine.sh.o_20 P) :: (nat_lit 29, Mine.sh.o_21 P) :: (nat_lit 31, Mine.sh.o_23 P) :: (nat_lit 32, Mine.sh.o_24 P) :: (nat_lit 34, Mine.sh.o_26 P) :: (nat_lit 35, Mine.sh.o_27 P) :: (nat_lit 36, Mine.sh.o_28 P) :: (nat_lit 37, Mine.sh.o_32 P) :: (nat_lit 44, Mine.sh.o_39 P) :: (nat_lit 46, Mine.sh.o_41 P) :: (nat_lit 47, Mine.sh.o_42 P) :: (nat_lit 49, Mine.sh.o_44 P) :: (nat_lit 50, Mine.sh.o_45 P) :: (nat_lit 51, Mine.sh.o_46 P) :: (nat_lit 53, Mine.sh.o_48 P) :: (nat_lit 54, Mine.sh.o_49 P) :: (nat_lit 56, Mine.sh.o_51 P) :: (nat_lit 57, Mine.sh.o_52 P) :: (nat_lit 58, Mine.sh.o_53 P) :: (nat_lit 60, Mine.sh.o_55 P) :: (nat_lit 61, Mine.sh.o_56 P) :: (nat_lit 63, Mine.sh.o_58 P) :: (nat_lit 64, Mine.sh.o_59 P) :: (nat_lit 65, Mine.sh.o_60 P) :: (nat_lit 67, Mine.sh.o_62 P) :: (nat_lit 68, Mine.sh.o_63 P) :: (nat_lit 70, Mine.sh.o_65 P) :: (nat_lit 71, Mine.sh.o_66 P) :: (nat_lit 72, Mine.sh.o_67 P) :: (nat_lit 74, Mine.sh.o_69 P) :: (nat_lit 75, Mine.sh.o_70 P) :: (nat_lit 77, Mine.sh.o_72 P) :: (nat_lit 78, Mine.sh.o_73 P) :: (nat_lit 79, Mine.sh.o_74 P) :: (nat_lit 81, Mine.sh.o_76 P) :: (nat_lit 82, Mine.sh.o_77 P) :: (nat_lit 84, Mine.sh.o_79 P) :: (nat_lit 85, Mine.sh.o_80 P) :: (nat_lit 86, Mine.sh.o_81 P) :: (nat_lit 88, Mine.sh.o_83 P) :: (nat_lit 89, Mine.sh.o_84 P) :: (nat_lit 91, Mine.sh.o_86 P) :: (nat_lit 92, Mine.sh.o_87 P) :: (nat_lit 93, Mine.sh.o_88 P) :: (nat_lit 94, Mine.sh.o_89 P) :: (nat_lit 95, Mine.sh.o_124 P) :: (nat_lit 96, Mine.sh.o_91 P) :: (nat_lit 97, Mine.sh.o_92 P) :: (nat_lit 100, Mine.sh.o_98 P) :: (nat_lit 102, Mine.sh.o_100 P) :: (nat_lit 103, Mine.sh.o_101 P) :: (nat_lit 105, Mine.sh.o_103 P) :: (nat_lit 106, Mine.sh.o_104 P) :: (nat_lit 107, Mine.sh.o_105 P) :: (nat_lit 108, Mine.sh.o_106 P) :: (nat_lit 110, Mine.sh.o_108 P) :: (nat_lit 111, Mine.sh.o_109 P) :: (nat_lit 113, Mine.sh.o_111 P) :: (nat_lit 114, Mine.sh.o_112 P) :: (nat_lit 115, Mine.sh.o_113 P) :: (nat_lit 116, Mine.sh.o_114 P) :: (nat_lit 118, Mine.sh.o_116 P) :: (nat_lit 119, Mine.sh.o_117 P) :: (nat_lit 121, Mine.sh.o_119 P) :: (nat_lit 122, Mine.sh.o_120 P) :: (nat_lit 123, Mine.sh.o_125 P) :: (nat_lit 130, Mine.sh.o_132 P) :: (nat_lit 131, Mine.sh.o_133 P) :: (nat_lit 132, Mine.sh.o_134 P) :: (nat_lit 134, Mine.sh.o_136 P) :: (nat_lit 135, Mine.sh.o_137 P) :: (nat_lit 137, Mine.sh.o_139 P) :: (nat_lit 138, Mine.sh.o_140 P) :: (nat_lit 139, Mine.sh.o_141 P) :: (nat_lit 141, Mine.sh.o_143 P) :: (nat_lit 142, Mine.sh.o_144 P) :: (nat_lit 144, Mine.sh.o_146 P) :: (nat_lit 145, Mine.sh.o_147 P) :: (nat_lit 146, Mine.sh.o_148 P) :: (nat_lit 148, Mine.sh.o_150 P) :: (nat_lit 149, Mine.sh.o_151 P) :: (nat_lit 151, Mine.sh.o_153 P) :: (nat_lit 152, Mine.sh.o_154 P) :: (nat_lit 153, Mine.sh.o_155 P) :: (nat_lit 154, Mine.sh.o_156 P) :: (nat_lit 155, Mine.sh.o_157 P) :: (nat_lit 158, Mine.sh.o_163 P) :: (nat_lit 159, Mine.sh.o_164 P) :: (nat_lit 161, Mine.sh.o_166 P) :: (nat_lit 162, Mine.sh.o_167 P) :: (nat_lit 164, Mine.sh.o_169 P) :: (nat_lit 165, Mine.sh.o_170 P) :: (nat_lit 173, Mine.sh.o_178 P) :: (nat_lit 175, Mine.sh.o_180 P) :: (nat_lit 176, Mine.sh.o_181 P) :: (nat_lit 178, Mine.sh.o_183 P) :: (nat_lit 179, Mine.sh.o_184 P) :: (nat_lit 180, Mine.sh.o_185 P) :: (nat_lit 181, Mine.sh.o_186 P) :: (nat_lit 183, Mine.sh.o_188 P) :: (nat_lit 184, Mine.sh.o_189 P) :: (nat_lit 186, Mine.sh.o_191 P) :: (nat_lit 187, Mine.sh.o_192 P) :: (nat_lit 188, Mine.sh.o_193 P) :: (nat_lit 190, Mine.sh.o_195 P) :: (nat_lit 191, Mine.sh.o_196 P) :: (nat_lit 193, Mine.sh.o_198 P) :: (nat_lit 194, Mine.sh.o_199 P) :: (nat_lit 195, Mine.sh.o_200 P) :: (nat_lit 197, Mine.sh.o_202 P) :: (nat_lit 198, Mine.sh.o_203 P) :: (nat_lit 200, Mine.sh.o_205 P) :: (nat_lit 201, Mine.sh.o_206 P) :: (nat_lit 202, Mine.sh.o_207 P) :: (nat_lit 203, Mine.sh.o_208 P) :: (nat_lit 204, Mine.sh.o_209 P) :: (nat_lit 205, Mine.sh.o_210 P) :: (nat_lit 206, Mine.sh.o_211 P) :: (nat_lit 209, Mine.sh.o_217 P) :: (nat_lit 212, Mine.sh.o_220 P) :: (nat_lit 217, Mine.sh.o_225 P) :: (nat_lit 218, Mine.sh.o_226 P) :: (nat_lit 219, Mine.sh.o_227 P) :: (nat_lit 220, Mine.sh.o_228 P) :: (nat_lit 222, Mine.sh.o_230 P) :: (nat_lit 223, Mine.sh.o_231 P) :: (nat_lit 225, Mine.sh.o_233 P) :: (nat_lit 226, Mine.sh.o_234 P) :: (nat_lit 227, Mine.sh.o_235 P) :: (nat_lit 229, Mine.sh.o_237 P) :: (nat_lit 230, Mine.sh.o_238 P) :: (nat_lit 232, Mine.sh.o_240 P) :: (nat_lit 233, Mine.sh.o_241 P) :: (nat_lit 234, Mine.sh.o_242 P) :: (nat_lit 235, Mine.sh.o_243 P) :: (nat_lit 236, Mine.sh.o_244 P) :: (nat_lit 237, Mine.sh.o_245 P) :: (nat_lit 238, Mine.sh.o_246 P) :: (nat_lit 240, Mine.sh.o_248 P) :: (nat_lit 241, Mine.sh.o_249 P) :: (nat_lit 243, Mine.sh.o_251 P) :: (nat_lit 244, Mine.sh.o_252 P) :: (nat_lit 245, Mine.sh.o_253 P) :: (nat_lit 247, Mine.sh.o_255 P) :: (nat_lit 248, Mine.sh.o_256 P) :: (nat_lit 250, Mine.sh.o_258 P) :: (nat_lit 251, Mine.sh.o_259 P) :: (nat_lit 252, Mine.sh.o_260 P) :: (nat_lit 254, Mine.sh.o_262 P) :: (nat_lit 255, Mine.sh.o_263 P) :: (nat_lit 257, Mine.sh.o_265 P) :: (nat_lit 258, Mine.sh.o_266 P) :: (nat_lit 259, Mine.sh.o_267 P) :: (nat_lit 261, Mine.sh.o_269 P) :: (nat_lit 262, Mine.sh.o_270 P) :: (nat_lit 264, Mine.sh.o_272 P) :: (nat_lit 265, Mine.sh.o_273 P) :: (nat_lit 266, Mine.sh.o_274 P) :: (nat_lit 267, Mine.sh.o_275 P) :: (nat_lit 268, Mine.sh.o_276 P) :: (nat_lit 270, Mine.sh.o_278 P) :: (nat_lit 271, Mine.sh.o_279 P) :: (nat_lit 273, Mine.sh.o_281 P) :: (nat_lit 274, Mine.sh.o_282 P) :: (nat_lit 276, Mine.sh.o_284 P) :: (nat_lit 277, Mine.sh.o_285 P) :: (nat_lit 279, Mine.sh.o_287 P) :: (nat_lit 280, Mine.sh.o_288 P) :: (nat_lit 282, Mine.sh.o_290 P) :: (nat_lit 284, Mine.sh.o_292 P) :: (nat_lit 285, Mine.sh.o_293 P) :: (nat_lit 286, Mine.sh.o_294 P) :: (nat_lit 289, Mine.sh.o_372 P) :: (nat_lit 291, Mine.sh.o_374 P) :: (nat_lit 292, Mine.sh.o_375 P) :: (nat_lit 294, Mine.sh.o_377 P) :: (nat_lit 295, Mine.sh.o_378 P) :: (nat_lit 296, Mine.sh.o_379 P) :: (nat_lit 298, Mine.sh.o_381 P) :: (nat_lit 299, Mine.sh.o_382 P) :: (nat_lit 301, Mine.sh.o_384 P) :: (nat_lit 302, Mine.sh.o_385 P) :: (nat_lit 303, Mine.sh.o_386 P) :: (nat_lit 304, Mine.sh.o_387 P) :: (nat_lit 305, Mine.sh.o_388 P) :: (nat_lit 306, Mine.sh.o_389 P) :: (nat_lit 308, Mine.sh.o_391 P) :: (nat_lit 309, Mine.sh.o_392 P) :: (nat_lit 310, Mine.sh.o_393 P) :: (nat_lit 312, Mine.sh.o_395 P) :: (nat_lit 313, Mine.sh.o_396 P) :: (nat_lit 315, Mine.sh.o_398 P) :: (nat_lit 316, Mine.sh.o_399 P) :: (nat_lit 317, Mine.sh.o_400 P) :: (nat_lit 319, Mine.sh.o_402 P) :: (nat_lit 320, Mine.sh.o_403 P) :: (nat_lit 322, Mine.sh.o_405 P) :: (nat_lit 323, Mine.sh.o_406 P) :: (nat_lit 324, Mine.sh.o_407 P) :: (nat_lit 327, Mine.sh.o_410 P) :: (nat_lit 328, Mine.sh.o_411 P) :: []
set_option maxRecDepth 100000 in
noncomputable def K (P : Params) : Frag := (nat_lit 2, PySem.W.boot_o_2 P) :: (nat_lit 3, Mine.sh.o_370 P) :: (nat_lit 15, Mine.sh.o_7 P) :: (nat_lit 17, Mine.sh.o_9 P) :: (nat_lit 18, Mine.sh.o_10 P) :: (nat_lit 20, Mine.sh.o_12 P) :: (nat_lit 21, Mine.sh.o_13 P) :: (nat_lit 22, Mine.sh.o_14 P) :: (nat_lit 24, Mine.sh.o_16 P) :: (nat_lit 25, Mine.sh.o_17 P) :: (nat_lit 27, Mine.sh.o_19 P) :: (nat_lit 28, Mine.sh.o_20 P) :: (nat_lit 29, Mine.sh.o_21 P) :: (nat_lit 31, Mine.sh.o_23 P) :: (nat_lit 32, Mine.sh.o_24 P) :: (nat_lit 34, Mine.sh.o_26 P) :: (nat_lit 35, Mine.sh.o_27 P) :: (nat_lit 36, Mine.sh.o_28 P) :: (nat_lit 37, Mine.sh.o_32 P) :: (nat_lit 44, Mine.sh.o_39 P) :: (nat_lit 46, Mine.sh.o_41 P) :: (nat_lit 47, Mine.sh.o_42 P) :: (nat_lit 49, Mine.sh.o_44 P) :: (nat_lit 50, Mine.sh.o_45 P) :: (nat_lit 51, Mine.sh.o_46 P) :: (nat_lit 53, Mine.sh.o_48 P) :: (nat_lit 54, Mine.sh.o_49 P) :: (nat_lit 56, Mine.sh.o_51 P) :: (nat_lit 57, Mine.sh.o_52 P) :: (nat_lit 58, Mine.sh.o_53 P) :: (nat_lit 60, Mine.sh.o_55 P) :: (nat_lit 61, Mine.sh.o_56 P) :: (nat_lit 63, Mine.sh.o_58 P) :: (nat_lit 64, Mine.sh.o_59 P) :: (nat_lit 65, Mine.sh.o_60 P) :: (nat_lit 67, Mine.sh.o_62 P) :: (nat_lit 68, Mine.sh.o_63 P) :: (nat_lit 70, Mine.sh.o_65 P) :: (nat_lit 71, Mine.sh.o_66 P) :: (nat_lit 72, Mine.sh.o_67 P) :: (nat_lit 74, Mine.sh.o_69 P) :: (nat_lit 75, Mine.sh.o_70 P) :: (nat_lit 77, Mine.sh.o_72 P) :: (nat_lit 78, Mine.sh.o_73 P) :: (nat_lit 79, Mine.sh.o_74 P) :: (nat_lit 81, Mine.sh.o_76 P) :: (nat_lit 82, Mine.sh.o_77 P) :: (nat_lit 84, Mine.sh.o_79 P) :: (nat_lit 85, Mine.sh.o_80 P) :: (nat_lit 86, Mine.sh.o_81 P) :: (nat_lit 88, Mine.sh.o_83 P) :: (nat_lit 89, Mine.sh.o_84 P) :: (nat_lit 91, Mine.sh.o_86 P) :: (nat_lit 92, Mine.sh.o_87 P) :: (nat_lit 93, Mine.sh.o_88 P) :: (nat_lit 94, Mine.sh.o_89 P) :: (nat_lit 95, Mine.sh.o_124 P) :: (nat_lit 96, Mine.sh.o_91 P) :: (nat_lit 97, Mine.sh.o_92 P) :: (nat_lit 100, Mine.sh.o_98 P) :: (nat_lit 102, Mine.sh.o_100 P) :: (nat_lit 103, Mine.sh.o_101 P) :: (nat_lit 105, Mine.sh.o_103 P) :: (nat_lit 106, Mine.sh.o_104 P) :: (nat_lit 107, Mine.sh.o_105 P) :: (nat_lit 108, Mine.sh.o_106 P) :: (nat_lit 110, Mine.sh.o_108 P) :: (nat_lit 111, Mine.sh.o_109 P) :: (nat_lit 113, Mine.sh.o_111 P) :: (nat_lit 114, Mine.sh.o_112 P) :: (nat_lit 115, Mine.sh.o_113 P) :: (nat_lit 116, Mine.sh.o_114 P) :: (nat_lit 118, Mine.sh.o_116 P) :: (nat_lit 119, Mine.sh.o_117 P) :: (nat_lit 121, Mine.sh.o_119 P) :: (nat_lit 122, Mine.sh.o_120 P) :: (nat_lit 123, Mine.sh.o_125 P) :: (nat_lit 130, Mine.sh.o_132 P) :: (nat_lit 131, Mine.sh.o_133 P) :: (nat_lit 132, Mine.sh.o_134 P) :: (nat_lit 134, Mine.sh.o_136 P) :: (nat_lit 135, Mine.sh.o_137 P) :: (nat_lit 137, Mine.sh.o_139 P) :: (nat_lit 138, Mine.sh.o_140 P) :: (nat_lit 139, Mine.sh.o_141 P) :: (nat_lit 141, Mine.sh.o_143 P) :: (nat_lit 142, Mine.sh.o_144 P) :: (nat_lit 144, Mine.sh.o_146 P) :: (nat_lit 145, Mine.sh.o_147 P) :: (nat_lit 146, Mine.sh.o_148 P) :: (nat_lit 148, Mine.sh.o_150 P) :: (nat_lit 149, Mine.sh.o_151 P) :: (nat_lit 151, Mine.sh.o_153 P) :: (nat_lit 152, Mine.sh.o_154 P) :: (nat_lit 153, Mine.sh.o_155 P) :: (nat_lit 154, Mine.sh.o_156 P) :: (nat_lit 155, Mine.sh.o_157 P) :: (nat_lit 158, Mine.sh.o_163 P) :: (nat_lit 159, Mine.sh.o_164 P) :: (nat_lit 161, Mine.sh.o_166 P) :: (nat_lit 162, Mine.sh.o_167 P) :: (nat_lit 164, Mine.sh.o_169 P) :: (nat_lit 165, Mine.sh.o_170 P) :: (nat_lit 173, Mine.sh.o_178 P) :: (nat_lit 175, Mine.sh.o_180 P) :: (nat_lit 176, Mine.sh.o_181 P) :: (nat_lit 178, Mine.sh.o_183 P) :: (nat_lit 179, Mine.sh.o_184 P) :: (nat_lit 180, Mine.sh.o_185 P) :: (nat_lit 181, Mine.sh.o_186 P) :: (nat_lit 183, Mine.sh.o_188 P) :: (nat_lit 184, Mine.sh.o_189 P) :: (nat_lit 186, Mine.sh.o_191 P) :: (nat_lit 187, Mine.sh.o_192 P) :: (nat_lit 188, Mine.sh.o_193 P) :: (nat_lit 190, Mine.sh.o_195 P) :: (nat_lit 191, Mine.sh.o_196 P) :: (nat_lit 193, Mine.sh.o_198 P) :: (nat_lit 194, Mine.sh.o_199 P) :: (nat_lit 195, Mine.sh.o_200 P) :: (nat_lit 197, Mine.sh.o_202 P) :: (nat_lit 198, Mine.sh.o_203 P) :: (nat_lit 200, Mine.sh.o_205 P) :: (nat_lit 201, Mine.sh.o_206 P) :: (nat_lit 202, Mine.sh.o_207 P) :: (nat_lit 203, Mine.sh.o_208 P) :: (nat_lit 204, Mine.sh.o_209 P) :: (nat_lit 205, Mine.sh.o_210 P) :: (nat_lit 206, Mine.sh.o_211 P) :: (nat_lit 209, Mine.sh.o_217 P) :: (nat_lit 212, Mine.sh.o_220 P) :: (nat_lit 217, Mine.sh.o_225 P) :: (nat_lit 218, Mine.sh.o_226 P) :: (nat_lit 219, Mine.sh.o_227 P) :: (nat_lit 220, Mine.sh.o_228 P) :: (nat_lit 222, Mine.sh.o_230 P) :: (nat_lit 223, Mine.sh.o_231 P) :: (nat_lit 225, Mine.sh.o_233 P) :: (nat_lit 226, Mine.sh.o_234 P) :: (nat_lit 227, Mine.sh.o_235 P) :: (nat_lit 229, Mine.sh.o_237 P) :: (nat_lit 230, Mine.sh.o_238 P) :: (nat_lit 232, Mine.sh.o_240 P) :: (nat_lit 233, Mine.sh.o_241 P) :: (nat_lit 234, Mine.sh.o_242 P) :: (nat_lit 235, Mine.sh.o_243 P) :: (nat_lit 236, Mine.sh.o_244 P) :: (nat_lit 237, Mine.sh.o_245 P) :: (nat_lit 238, Mine.sh.o_246 P) :: (nat_lit 240, Mine.sh.o_248 P) :: (nat_lit 241, Mine.sh.o_249 P) :: (nat_lit 243, Mine.sh.o_251 P) :: (nat_lit 244, Mine.sh.o_252 P) :: (nat_lit 245, Mine.sh.o_253 P) :: (nat_lit 247, Mine.sh.o_255 P) :: (nat_lit 248, Mine.sh.o_256 P) :: (nat_lit 250, Mine.sh.o_258 P) :: (nat_lit 251, Mine.sh.o_259 P) :: (nat_lit 252, Mine.sh.o_260 P) :: (nat_lit 254, Mine.sh.o_262 P) :: (nat_lit 255, Mine.sh.o_263 P) :: (nat_lit 257, Mine.sh.o_265 P) :: (nat_lit 258, Mine.sh.o_266 P) :: (nat_lit 259, Mine.sh.o_267 P) :: (nat_lit 261, Mine.sh.o_269 P) :: (nat_lit 262, Mine.sh.o_270 P) :: (nat_lit 264, Mine.sh.o_272 P) :: (nat_lit 265, Mine.sh.o_273 P) :: (nat_lit 266, Mine.sh.o_274 P) :: (nat_lit 267, Mine.sh.o_275 P) :: (nat_lit 268, Mine.sh.o_276 P) :: (nat_lit 270, Mine.sh.o_278 P) :: (nat_lit 271, Mine.sh.o_279 P) :: (nat_lit 273, Mine.sh.o_281 P) :: (nat_lit 274, Mine.sh.o_282 P) :: (nat_lit 276, Mine.sh.o_284 P) :: (nat_lit 277, Mine.sh.o_285 P) :: (nat_lit 279, Mine.sh.o_287 P) :: (nat_lit 280, Mine.sh.o_288 P) :: (nat_lit 282, Mine.sh.o_290 P) :: (nat_lit 284, Mine.sh.o_292 P) :: (nat_lit 285, Mine.sh.o_293 P) :: (nat_lit 286, Mine.sh.o_294 P) :: (nat_lit 289, Mine.sh.o_372 P) :: (nat_lit 291, Mine.sh.o_374 P) :: (nat_lit 292, Mine.sh.o_375 P) :: (nat_lit 294, Mine.sh.o_377 P) :: (nat_lit 295, Mine.sh.o_378 P) :: (nat_lit 296, Mine.sh.o_379 P) :: (nat_lit 298, Mine.sh.o_381 P) :: (nat_lit 299, Mine.sh.o_382 P) :: (nat_lit 301, Mine.sh.o_384 P) :: (nat_lit 302, Mine.sh.o_385 P) :: (nat_lit 303, Mine.sh.o_386 P) :: (nat_lit 305, Mine.sh.o_388 P) :: (nat_lit 306, Mine.sh.o_389 P) :: (nat_lit 308, Mine.sh.o_391 P) :: (nat_lit 309, Mine.sh.o_392 P) :: (nat_lit 310, Mine.sh.o_393 P) :: (nat_lit 312, Mine.sh.o_395 P) :: (nat_lit 313, Mine.sh.o_396 P) :: (nat_lit 315, Mine.sh.o_398 P) :: (nat_lit 316, Mine.sh.o_399 P) :: (nat_lit 317, Mine.sh.o_400 P) :: (nat_lit 319, Mine.sh.o_402 P) :: (nat_lit 320, Mine.sh.o_403 P) :: (nat_lit 322, Mine.sh.o_405 P) :: (nat_lit 323, Mine.sh.o_406 P) :: (nat_lit 324, Mine.sh.o_407 P) :: (nat_lit 327, Mine.sh.o_410 P) :: (nat_lit 328, Mine.sh.o_411 P) :: []
def mask : List Bool := [false, false, true, true, false, false, false, false, false, false, false, false, false, false, false, true, false, true, true, false, true, true, true, false, true, true, false, true, true, true, false, true, true, false, true, true, true, true, false, false, false, false, false, false, true, false, true, true, false, true, true, true, false, true, true, false, true, true, true, false, true, true, false, true, true, true, false, true, true, false, true, true, true, false, true, true, false, true, true, true, false, true, true, false, true, true, true, false, true, true, false, true, true, true, true, true, true, true, false, false, true, false, true, true, false, true, true, true, true, false, true, true, false, true, true, true, true, false, true, true, false, true, true, true, false, false, false, false, false, false, true, true, true, false, true, true, false, true, true, true, false, true, true, false, true, true, true, false, true, true, false, true, true, true, true, true, false, false, true, true, false, true, true, false, true, true, false, false, false, false, false, false, false, true, false, true, true, false, true, true, true, true, false, true, true, false, true, true, true, false, true, true, false, true, true, true, false, true, true, false, true, true, true, true, true, true, true, false, false, true, false, false, true, false, false, false, false, true, true, true, true, false, true, true, false, true, true, true, false, true, true, false, true, true, true, true, true, true, true, false, true, true, false, true, true, true, false, true, true, false, true, true, true, false, true, true, false, true, true, true, false, true, true, false, true, true, true, true, true, false, true, true, false, true, true, false, true, true, false, true, true, false, true, false, true, true, true, false, false, true, false, true, true, false, true, true, true, false, true, true, false, true, true, true, true, true, true, false, true, true, true, false, true, true, false, true, true, true, false, true, true, false, true, true, true, false, false, true, true]
set_option maxRecDepth 100000 in
theorem k_alive (P : Params) : alive (K0 P) = true := by kernel_rfl
set_option maxRecDepth 100000 in
theorem k_part (P : Params) : K P = (K0 P).filter fun p => !([nat_lit 304] : List Addr).contains p.1 := by kernel_rfl
set_option maxRecDepth 100000 in
theorem k_tabs (P : Params) : (([nat_lit 304] : List Addr).all fun t => (K0 P).any fun p => Nat.beq p.1 t && isTab p.2) = true := by kernel_rfl
local macro_rules | `(tactic| k_head) => `(tactic| o_head (pkHook Mine.mask Mine.K0))
set_option maxRecDepth 100000 in
set_option maxHeartbeats 8000000 in
open_top hd for PySem.Challenge.rw_aj5026_02
end Mine

end
section
open PySem PySem.Spec PySem.Calls PySem.W PyProof.Rows Builtin Builtin.ObjectAttr
set_option Elab.async false
namespace Mine
set_option maxRecDepth 100000
set_option maxHeartbeats 4000000

/-- a class of the text's with a __new__ of its own (a plain def) over a built-in base, without an __init__ of its own -/
def newsIn (K : Frag) (C f : Addr) : Bool := match K.lookup C with
  | some ⟨_, _, .cls cd, sl⟩ => !cd.abstract && !cd.hasDel && (sl.toList[4]?).join == some .none && !cd.mro.isEmpty && cd.mro.contains (.ref C) && cd.mro.contains (.type "object") &&
      specialIn K (.ref C) "__call__" == some (some (.builtin "type.__call__")) && instIn K (.ref C) (.type "type") == some true &&
      findIn K (.ref C) "__init__" == some (some (.builtin "object.__init__")) && typeIn K (.ref f) == some (.type "function")
  | _ => false

def NewBack (K : Frag) (C : Addr) (R : Result → Shared → Prop) (r : Result) (s' : Shared) : Prop := match r with
  | .ok (.ret v) => ∃ x ox, v = .ref x ∧ s'.heap.get? x = some ox ∧ ox.cls = .ref C ∧ K.In s'.heap ∧ R (.ok (.ret (.ref x))) s'
  | .ok _ => False
  | .error e => R (.error e) s'

section
variable {prog : Program} {w : World} {A : Around} {K : Frag} {C f : Addr} {R : Result → Shared → Prop} {s : Shared}
theorem newsIn_made {M : Model} {h : Heap} (X : K.In h) (hm : newsIn K C f = true) : Looks M h (Bind.madeBy (.ref C)) none := by
  unfold newsIn at hm
  split at hm
  · rename_i oc od cd sl ho
    simp only [Bool.and_eq_true, Bool.not_eq_true', beq_iff_eq] at hm
    obtain ⟨⟨⟨⟨⟨⟨⟨⟨⟨e1, e2⟩, e3⟩, e4⟩, e5⟩, e6⟩, e7⟩, e8⟩, e9⟩, e10⟩ := hm
    have hc : clsIn K C = some cd := by unfold clsIn; rw [ho]
    have hmro : Looks M h (mroOf (.ref C)) cd.mro := (looks_clsIn X hc).andThen .now
    obtain ⟨c, l, hl⟩ : ∃ c l, cd.mro = c :: l := by cases q : cd.mro with | nil => rw [q] at e4; cases e4 | cons c l => exact ⟨c, l, rfl⟩
    intro A Q E s k q
    unfold Bind.madeBy
    refine wpAny_bind (hmro A _ E s k ?_)
    rw [hl, List.forIn_cons]
    refine wpAny_bind (wpAny_bind (wpAny_bind (wpAny_bind (wpAny_loadPart (k _ _ (X _ _ ho)) (wpAny_pure ?_)))))
    dsimp only
    rw [← Array.getElem?_toList, e3]
    exact wpAny_pure (wpAny_pure (wpAny_pure q))
  · cases hm
theorem newsIn_facts {h : Heap} (X : K.In h) (hm : newsIn K C f = true) : (∃ oc od cd sl, h.get? C = some ⟨oc, od, .cls cd, sl⟩ ∧ cd.mro.isEmpty = false ∧ ∀ M, Looks M h (mroOf (.ref C)) cd.mro) ∧
    (∀ M, Looks M h (isSubtype (.ref C) (.ref C)) true) ∧ (∀ M, Looks M h (isSubtype (.ref C) (.type "object")) true) ∧ (∀ M, Looks M h (specialOf (.ref C) "__call__") (some (.builtin "type.__call__"))) ∧
    (∀ M, Looks M h (isInstance (.ref C) (.type "type")) true) ∧ (∀ M, Looks M h (typeLookup (.ref C) "__init__") (some (.builtin "object.__init__"))) := by
  unfold newsIn at hm
  split at hm
  · rename_i oc od cd sl ho
    simp only [Bool.and_eq_true, Bool.not_eq_true', beq_iff_eq] at hm
    obtain ⟨⟨⟨⟨⟨⟨⟨⟨⟨e1, e2⟩, e3⟩, e4⟩, e5⟩, e6⟩, e7⟩, e8⟩, e9⟩, e10⟩ := hm
    have hc : clsIn K C = some cd := by unfold clsIn; rw [ho]
    refine ⟨⟨oc, od, cd, sl, X _ _ ho, e4, fun M => (looks_clsIn X hc).andThen .now⟩, fun M => looks_mroIn X ?_, fun M => looks_mroIn X ?_, fun M => looks_specialIn X e7, fun M => looks_instIn X e8, fun M => looks_findIn X e9⟩
    · unfold mroIn; rw [hc, Option.bind_some, if_neg (by rw [e4]; decide), e5]
    · unfold mroIn; rw [hc, Option.bind_some, if_neg (by rw [e4]; decide), e6]
  · cases hm

theorem oi_argsN (a : Value) (rest : List Value) : argsOk "object.__init__" ⟨a :: rest, []⟩ := by unfold argsOk; kernel_rfl
theorem oi_more {x : Addr} {ox : Obj} {a : Value} {r : List Value} {Q : Fin → Shared → Prop} {E : Value → Shared → Prop} {A : Around} {h : Heap} {g : Array GenState} {d : Drawn} {t : Nat} {os : OsState} (X : K.In h) (hm : newsIn K C f = true) (hx : h.get? x = some ox) (hc : ox.cls = .ref C)
    (q : Q (.done (.ret .none)) ⟨h, g, d, t, os⟩) : wpAny (model prog w) A (Builtin.«object.__init__» ⟨.ref x :: a :: r, []⟩) Q E ⟨h, g, d, t, os⟩ := by
  obtain ⟨-, L1, L2, L3, L4, L5⟩ := newsIn_facts X hm
  have M1 := newsIn_made (M := model prog w) X hm
  have l5 := L5 (model prog w)
  have t1 : Looks (model prog w) h (typeOf (.ref x)) (.ref C) := by rw [← hc]; exact (Looks.ld hx).andThen .now
  unfold Builtin.«object.__init__»
  simp only [List.isEmpty_cons, Bool.not_false, Bool.true_or, if_true]
  repeat (first | simp only [bne_self_eq_false, Bool.false_eq_true, if_false, Bool.false_or] | lk)
  exact q

theorem make_new {mc : Value} {p : Addr} {more : List Value} {a : Value} {args : List Value} {h₀ : Heap} {L : Addr} {m : Str → Option Value} (F : Fr h₀ L s.heap m) (X₀ : K.In h₀) (hm : newsIn K C f = true) (h0 : typeIn K (.ref C) = some mc) (hr : readsIn K C mc = true)
    (e : findCls K (.ref C) mc "__new__" = some (.get (.builtin "staticmethod.__get__") (.ref p) .none (.ref C))) (hp : recIn K p "staticmethod" = some (.ref f :: more)) (hv : handedIn (.ref f) = true)
    (hq : codeAny (model prog w) (A.under (.builtin "type.__call__" ⟨.ref C :: a :: args, []⟩)) (.call (.ref f) ⟨.ref C :: a :: args, []⟩) (NewBack K C R) { s with toks := s.toks + 1 }) :
    codeAny (model prog w) A (.call (.ref C) ⟨a :: args, []⟩) R s := by
  have X : K.In s.heap := X₀.keeps F.keep
  obtain ⟨⟨oc, od, cd, sl, hC, e4, hmro⟩, L1, L2, L3, L4, L5⟩ := newsIn_facts X hm
  have M1 := newsIn_made (M := model prog w) X hm
  have l3 := L3 (model prog w)
  have l4 := L4 (model prog w)
  have hmro' := hmro (model prog w)
  have gn : ∀ {A : Around} {Q : Value → Shared → Prop} {E : Value → Shared → Prop}, Q (.ref f) { s with toks := s.toks + 1 } → wpAny (model prog w) A (getAttr (.ref C) "__new__") Q E s := fun h => cls_sm F X₀ h0 hr e hp hv h
  obtain ⟨hh, g, d, t, os⟩ := s
  refine codeAny_of_tree ?_
  show wpAny _ _ (callAny (.ref C) _) _ _ _
  refine nd_load hC ?_
  show wpAny _ _ (callAny.viaDunder (.ref C) _) _ _ _
  unfold callAny.viaDunder
  refine wpAny_bind (l3.at ?_)
  dsimp only
  rw [tc_bind]
  refine wpAny_bind (wpAny_pure (wpAny_bind (wpAny_pure ?_)))
  refine wpAny_pure (a := Fin.again (.call (.builtin "type.__call__") ⟨.ref C :: a :: args, []⟩)) (And.intro rfl ?_)
  refine codeAny_call_builtin_at (Code.quiet_builtin _ (by decide +kernel)) entry_typeCall (check_slot tc_kind tc_split l4 (tc_args _ _ _) ?_)
  unfold Builtin.«type.__call__»
  repeat (first | simp only [e4, Bool.false_eq_true, if_false] | with_reducible refine gn ?_ | with_reducible refine wpAny_call ?_ | lk)
  refine codeAny_mono hq fun r s' z => ?_
  rcases r with e | (v | _ | _ | _) <;> first | exact z | exact z.elim | skip
  obtain ⟨x, ox, rfl, hx, hc, X', z⟩ := z
  obtain ⟨-, L1', L2', L3', L4', L5'⟩ := newsIn_facts X' hm
  have s1 := L1' (model prog w)
  have s2 := L2' (model prog w)
  have i1 := L5' (model prog w)
  obtain ⟨hh', g', d', t', os'⟩ := s'
  have t1 : Looks (model prog w) hh' (typeOf (.ref x)) (.ref C) := by rw [← hc]; exact (Looks.ld hx).andThen .now
  have b1 : Looks (model prog w) hh' (bindSpecial (.builtin "object.__init__") (.ref x)) (.builtin "object.__init__", [.ref x]) := Looks.of_pure (oi_bind _)
  have t2 : Looks (model prog w) hh' (isInstance (.ref x) (.type "object")) true := t1.andThen s2
  unfold isInstance callSpecial? specialOf
  repeat (first | simp only [Bool.false_eq_true, if_false, Bool.not_true] | with_reducible refine wpAny_call ?_ | lk)
  refine codeAny_call_builtin oi_plain entry_oi (@check_slot (model prog w) _ _ _ "object.__init__" "object" "__init__" (.ref x) (a :: args) [] _ oi_kind oi_split t2 (oi_argsN (.ref x) (a :: args)) ?_)
  refine oi_more X' hm hx hc ?_
  repeat (first | simp only [bne_self_eq_false, Bool.false_eq_true, if_false] | lk)
  exact z
end
end Mine

end
section
open PySem PySem.Spec PySem.Calls PySem.W PyProof.Rows Builtin Builtin.ObjectAttr
set_option Elab.async false
namespace Mine
set_option maxRecDepth 100000
set_option maxHeartbeats 4000000
theorem tup_mro : mroOf (.type "tuple") = pure [.type "tuple", .type "object"] := by rw [mroOf_type]; kernel_rfl
theorem tup_lookup : typeLookup (.type "tuple") "__new__" = pure (some (.builtin "tuple.__new__")) := by rw [typeLookup_type, builtinLookup_eq_fast]; kernel_rfl
theorem tup_made : Bind.madeBy (.type "tuple") = pure (some "tuple.__new__") := madeBy_type tup_mro tup_lookup (by decide +kernel)
theorem tup_base : Slots.bestBase [.type "tuple"] = pure (.type "tuple") := by kernel_rfl
theorem tup_split : splitId "tuple.__new__" = some ("tuple", "__new__") := by decide +kernel
theorem tup_kind : builtinKind "tuple.__new__" = some .builtinFn := by decide +kernel
theorem tup_entry : entryFor table "tuple.__new__" = some Builtin.«tuple.__new__» := entryFor_of_tree (by kernel_rfl)
theorem tup_args (a b : Value) : argsOk "tuple.__new__" ⟨[a, b], []⟩ := by unfold argsOk; kernel_rfl
theorem tup_quiet {as : Args} : (Code.builtin "tuple.__new__" as).quiet = true := Code.quiet_builtin _ (by decide +kernel)
/-- a class over tuple, nothing between -/
def tupIn (K : Frag) (C : Addr) : Bool := match K.lookup C with
  | some ⟨_, _, .cls cd, sl⟩ => !cd.hasDel && (sl.toList[4]?).join == some .none && cd.mro == [.ref C, .type "tuple", .type "object"] && cd.bases == [.type "tuple"] &&
      findIn K (.ref C) "__init__" == some (some (.builtin "object.__init__"))
  | _ => false
section
variable {prog : Program} {w : World} {A : Around} {K : Frag} {C : Addr} {R : Result → Shared → Prop} {s : Shared}
theorem tupIn_facts {M : Model} {h : Heap} (X : K.In h) (hm : tupIn K C = true) : (∃ oc od cd sl, h.get? C = some ⟨oc, od, .cls cd, sl⟩ ∧ cd.hasDel = false) ∧ Looks M h (isType (.ref C)) true ∧ Looks M h (isSubtype (.ref C) (.type "tuple")) true ∧
    Looks M h (Bind.staticBase (.ref C)) (.type "tuple") ∧ Looks M h (typeLookup (.ref C) "__init__") (some (.builtin "object.__init__")) := by
  unfold tupIn at hm
  split at hm
  · rename_i oc od cd sl ho
    simp only [Bool.and_eq_true, Bool.not_eq_true', beq_iff_eq] at hm
    obtain ⟨⟨⟨⟨e2, e3⟩, e4⟩, e5⟩, e9⟩ := hm
    have hc : clsIn K C = some cd := by unfold clsIn; rw [ho]
    have hmro : Looks M h (mroOf (.ref C)) cd.mro := (looks_clsIn X hc).andThen .now
    have hcd : Looks M h (classData C) cd := looks_clsIn X hc
    have made : Looks M h (Bind.madeBy (.ref C)) none := by
      intro A Q E s k q
      unfold Bind.madeBy
      refine wpAny_bind (hmro A _ E s k ?_)
      rw [e4, List.forIn_cons]
      refine wpAny_bind (wpAny_bind (wpAny_bind (wpAny_bind (wpAny_loadPart (k _ _ (X _ _ ho)) (wpAny_pure ?_)))))
      dsimp only
      rw [← Array.getElem?_toList, e3]
      exact wpAny_pure (wpAny_pure (wpAny_pure q))
    refine ⟨⟨oc, od, cd, sl, X _ _ ho, e2⟩, ?_, looks_mroIn X ?_, ?_, looks_findIn X e9⟩
    · intro A Q E s k q
      unfold isType loadHead
      exact wpAny_bind (wpAny_loadPart (k _ _ (X _ _ ho)) (wpAny_pure q))
    · unfold mroIn; rw [hc, Option.bind_some, e4]; rfl
    · intro A Q E s k q
      unfold Bind.staticBase
      refine wpAny_bind (hmro A _ E s k ?_)
      rw [e4, List.forIn_cons]
      refine wpAny_bind (wpAny_bind (wpAny_bind (made A _ E s k ?_)))
      have hcd' : Looks M h (classData C) cd := hcd
      simp only [Option.isSome_none, Bool.false_eq_true, if_false]
      refine wpAny_bind (hcd A _ E s k ?_)
      rw [e5, tup_base]
      refine wpAny_pure ?_
      dsimp only
      rw [List.forIn_cons, tup_made]
      refine wpAny_bind (wpAny_bind (wpAny_pure ?_))
      simp only [Option.isSome_some, if_true]
      refine wpAny_pure (wpAny_pure ?_)
      exact wpAny_pure q
  · cases hm

theorem tuple_new {tup : Addr} {vs : Array Value} {n : Nat} {oc : Obj} {Q : Value → Shared → Prop} {E : Value → Shared → Prop} {h₀ : Heap} {L : Addr} {m : Str → Option Value} {news : List (Addr × Obj)} (F : Fr h₀ L s.heap m) (N : News h₀ L s.heap news) (X₀ : K.In h₀) (hm : tupIn K C = true)
    (ht : s.heap.get? tup = some oc) (hc : oc.cls = .type "tuple") (hd : oc.data = .seq vs n) (hsz : vs.size ≤ 1000)
    (h : ∀ x dx h', Fr h₀ L h' m → News h₀ L h' ((x, { cls := .ref C, dict := some dx, data := .seq vs }) :: (dx, emptyDict) :: news) → (∀ p ∈ news, p.1 < dx) → @LT.lt Nat _ dx x → Q (.ref x) { s with heap := h' }) :
    wpAny (model prog w) A (call (.builtin "tuple.__new__") [.ref C, .ref tup]) Q E s := by
  have X : K.In s.heap := X₀.keeps F.keep
  obtain ⟨⟨od, odd, cd, sl, hC, hdel⟩, Y1, Y2, Y3, Y4⟩ := tupIn_facts (M := model prog w) X hm
  obtain ⟨hh, g, d, t, os⟩ := s
  dsimp only at ht X hC Y1 Y2 Y3 Y4 F N h
  have M2 : Looks (model prog w) hh (Bind.madeBy (.type "tuple")) (some "tuple.__new__") := Looks.of_pure tup_made
  have Y5 : Looks (model prog w) hh (Bind.madeHere "tuple.__new__" (.ref C)) () := Y3.andThen (M2.andThen (Looks.of_pure (by simp only [Option.map_some, bne_self_eq_false, Bool.false_eq_true, if_false])))
  refine wpAny_call (codeAny_call_builtin_code tup_quiet ?_)
  simp only [checkBuiltinCall, tup_kind, tup_split]
  have ha : (match Manifest.signature? "tuple.__new__" with
    | some sig => Bind.checkArgs "tuple.__new__" sig ⟨[.ref C, .ref tup], []⟩
    | none => pure ()) = (pure () : Sem Unit) := tup_args _ _
  repeat (first | simp only [bne_self_eq_false, Bool.false_eq_true, if_false] | lk)
  refine codeAny_builtin tup_entry ?_
  unfold Builtin.«tuple.__new__»
  have coll : ∀ {A : Around} {Q : List Value → Shared → Prop} {E : Value → Shared → Prop}, (∀ h', (∀ b o', hh.get? b = some o' → h'.get? b = some o') → Q vs.toList ⟨h', g, d, t, os⟩) → wpAny (model prog w) A (collect (.ref tup)) Q E ⟨hh, g, d, t, os⟩ :=
    fun k => wpAny_collect_seq tup (.inr rfl) ht hc hd k (by rw [sizeLine_eq]; omega)
  repeat (first | simp only [bne_self_eq_false, beq_self_eq_true, Bool.not_true, Bool.false_eq_true, if_false, if_true] | with_reducible refine coll ?_ | lk)
  intro h1 k1
  have hC1 := k1 _ _ hC
  repeat lk
  rw [if_neg (by rw [sizeLine_eq]; simp only [Array.toArray_toList]; omega)]
  simp only [Array.toArray_toList]
  unfold newObjAsIs classHasDel
  refine wpAny_bind (wpAny_alloc (wpAny_bind (wpAny_bind (wpAny_load (Heap.get?_push_of_some _ (Heap.get?_push_of_some _ hC1)) (wpAny_pure ?_)))))
  dsimp only
  rw [hdel]
  refine wpAny_pure (wpAny_pure ?_)
  have F1 := F.grownK k1
  have N1 := N.grown k1
  have F2 := F1.push emptyDict
  have N2 := N1.push F1 emptyDict
  have F3 := F2.push { cls := .ref C, dict := some h1.objs.size, data := .seq vs }
  have N3 := N2.push F2 { cls := .ref C, dict := some h1.objs.size, data := .seq vs }
  exact h _ h1.objs.size _ F3 N3 (fun p hp => Heap.lt_size (N1 p hp).1) (by rw [Heap.size_push]; exact Nat.lt_succ_self _)
end
end Mine

end
section
open PySem PySem.Spec PySem.Calls PySem.W PyProof.Rows Builtin Builtin.ObjectAttr
set_option Elab.async false
namespace Mine
set_option maxRecDepth 100000
set_option maxHeartbeats 4000000
theorem tg_entry : entryFor table "tuple.__getattribute__" = some Builtin.«object.__getattribute__» := am_entry_tuple_getattribute
theorem tg_kind : builtinKind "tuple.__getattribute__" = some .slot := by decide +kernel
theorem tg_split : splitId "tuple.__getattribute__" = some ("tuple", "__getattribute__") := by decide +kernel
theorem tg_plain : plainId "tuple.__getattribute__" = true := by decide +kernel
theorem tg_args (a b : Value) : argsOk "tuple.__getattribute__" ⟨[a, b], []⟩ := by unfold argsOk; kernel_rfl
theorem tg_slot : Slot "tuple" "__getattribute__" "tuple.__getattribute__" := .of (owner := "tuple") (n := "__getattribute__") (by rw [typeLookup_type, builtinLookup_eq_fast]; kernel_rfl) (by decide +kernel) (by decide +kernel) (by decide +kernel)
  (by first | exact .inl (by decide +kernel) | exact .inr (by decide +kernel)) (by rw [isSubtype_type]; kernel_rfl)
theorem tg_canon : (Manifest.canonical "tuple.__getattribute__" != "object.__getattribute__") = false := by decide +kernel
section
variable {prog : Program} {w : World} {A : Around} {K : Frag} {C x : Addr} {s : Shared} {ox : Obj} {od : Option Obj} {name : Str} {Q : Value → Shared → Prop} {E : Value → Shared → Prop} {expr : Bool}
theorem get_tup {g a : Value} (X : K.In s.heap) (I : InstAt s.heap x ox C od) (hga : findIn K (.ref C) "__getattribute__" = some (some (.builtin "tuple.__getattribute__")))
    (hs : subIn K (.ref C) (.type "tuple") = some true) (hf : findObj K C od name = some (.bind g a)) (hk : findIn K (.ref C) "__getattr__" = some none)
    (h : ∀ A' : Around, A'.frames = A.frames → A'.depth = A.depth → A'.units ≤ A.units + 3 → A'.handled = A.handled → wpAny (model prog w) A' (call g [a, .ref x, .ref C]) (fun v s' => handedIn v = true ∧ Q v s') (fun _ _ => False) { s with toks := s.toks + 1 }) :
    wpAny (model prog w) A (getAttr (.ref x) name expr) Q E s := by
  obtain ⟨hh, gg, d, t, os⟩ := s
  dsimp only at X I
  have L0 := I.type (M := model prog w)
  have L1 := looks_findIn (M := model prog w) X hga
  have L2 := looks_findIn (M := model prog w) X hk
  have L3 := looks_subIn (M := model prog w) X hs
  have L4 := looks_find (M := model prog w) X I hf
  have L5 : Looks (model prog w) hh (isInstance (.ref x) (.type "tuple")) true := L0.andThen L3
  have L6 : Looks (model prog w) hh (hookBefore (.ref C)) none := L2
  have b1 : Looks (model prog w) hh (bindSpecial (.builtin "tuple.__getattribute__") (.ref x)) (.builtin "tuple.__getattribute__", [.ref x]) := Looks.of_pure (tg_slot.bind _)
  unfold getAttr getAttrBy
  refine wpAny_bind (wpAny_mkText (wpAny_holding (wpAny_bind (L0.at (wpAny_bind (L1.at ?_))))))
  show wpAny _ _ (getAttrByItsOwn _ _ _ _ _ _) _ _ _
  unfold getAttrByItsOwn
  refine wpAny_bind (L6.at ?_)
  refine wpAny_bind (wpAny_attempt (wpAny_holding ?_))
  unfold callGetattribute
  rw [show (expr && onTheHeap (.builtin "tuple.__getattribute__")) = false from by cases expr <;> rfl]
  unfold boundAndCalled
  refine wpAny_bind (b1.at ?_)
  refine wpAny_call (codeAny_call_builtin tg_plain tg_entry (@check_slot (model prog w) _ _ _ "tuple.__getattribute__" "tuple" "__getattribute__" (.ref x) [.str name t] [] _ tg_kind tg_split L5 (tg_args (.ref x) (.str name t)) ?_))
  unfold Builtin.«object.__getattribute__»
  refine wpAny_bind (wpAny_pure (wpAny_bind (wpAny_pure (wpAny_bind (L0.at (wpAny_bind (L4.at ?_)))))))
  show wpAny _ _ (holding [a] (call g [a, .ref x, .ref C]) >>= ret) _ _ _
  refine wpAny_bind (wpAny_holding ?_)
  refine wpAny_mono (h A.in1 rfl rfl (by rw [units_in1]; omega) rfl) (fun v s' z => ?_) fun _ _ z => z.elim
  refine wpAny_pure ?_
  show wpAny _ _ (handedOut v) _ _ _
  rw [handedOut_of z.1]
  exact wpAny_pure z.2
theorem method_tup {g a ta : Value} {Q : Value × List Value → Shared → Prop} {pl : Sem Bool} (X : K.In s.heap) (I : InstAt s.heap x ox C od) (hga : findIn K (.ref C) "__getattribute__" = some (some (.builtin "tuple.__getattribute__")))
    (hs : subIn K (.ref C) (.type "tuple") = some true) (hf : findObj K C od name = some (.bind g a)) (hk : findIn K (.ref C) "__getattr__" = some none) (ha : findIn K (.ref C) name = some (some a)) (hta : typeIn K a = some ta)
    (hne : (ta != .type "function" && ta != .type "method_descriptor" && ta != .type "wrapper_descriptor") = true)
    (h : ∀ A' : Around, A'.frames = A.frames → A'.depth = A.depth → A'.units ≤ A.units + 3 → A'.handled = A.handled → wpAny (model prog w) A' (call g [a, .ref x, .ref C]) (fun v s' => handedIn v = true ∧ Q (v, []) s') (fun _ _ => False) { s with toks := s.toks + 1 }) :
    wpAny (model prog w) A (getMethod (.ref x) name pl) Q E s := by
  have L0 := I.type (M := model prog w)
  have L1 := looks_findIn (M := model prog w) X hga
  have L2 := looks_findIn (M := model prog w) X hk
  have L3 := looks_findIn (M := model prog w) X ha
  have L4 := looks_typeIn (M := model prog w) X hta
  unfold getMethod specialOf
  refine wpAny_bind (wpAny_bind (L0.here (L1.here ?_)))
  dsimp only
  rw [if_neg (by rw [tg_canon]; exact Bool.false_ne_true)]
  refine wpAny_bind (wpAny_bind (L0.here (L2.here ?_)))
  rw [if_neg (by exact Bool.false_ne_true)]
  refine wpAny_bind (wpAny_bind (L0.here (L3.here ?_)))
  dsimp only
  refine wpAny_bind (L4.here ?_)
  rw [if_pos hne]
  refine wpAny_bind (get_tup X I hga hs hf hk fun A' f1 f2 f3 f4 => ?_)
  exact wpAny_mono (h A' f1 f2 f3 f4) (fun v s' z => ⟨z.1, wpAny_pure z.2⟩) fun _ _ z => z
end
end Mine

end
section
open PySem PySem.Spec PySem.Calls PySem.W PyProof.Rows Builtin Builtin.ObjectAttr
set_option Elab.async false
namespace Mine
set_option maxRecDepth 100000
set_option maxHeartbeats 4000000
theorem is_entry : entryFor table "issubclass" = some Builtin.«issubclass» := entryFor_of_tree (by kernel_rfl)
theorem isn_entry : entryFor table "issubclass.nested" = some Builtin.«issubclass.nested» := entryFor_of_tree (by kernel_rfl)
theorem is_plain : plainId "issubclass" = true := by decide +kernel
theorem is_nquiet {as : Args} : (Code.builtin "issubclass.nested" as).quiet = true := Code.quiet_builtin _ (by decide +kernel)
theorem is_check (a b : Value) : checkBuiltinCall "issubclass" ⟨[a, b], []⟩ = pure () := by kernel_rfl
section
variable {prog : Program} {w : World} {A : Around} {K : Frag} {C x : Addr} {s : Shared} {Q : Value → Shared → Prop} {E : Value → Shared → Prop}
theorem issub_tuple (X : K.In s.heap) (hm : tupIn K C = true) (h : Q (.bool true) s) : wpAny (model prog w) A (call (.builtin "issubclass") [.ref C, .type "tuple"]) Q E s := by
  obtain ⟨⟨oc, od, cd, sl, hC, -⟩, Y1, Y2, -, -⟩ := tupIn_facts (M := model prog w) X hm
  obtain ⟨hh, g, d, t, os⟩ := s
  dsimp only at hC Y1 Y2
  have T1 : Looks (model prog w) hh (typeOf (.type "tuple")) (.type "type") := Looks.of_pure (by first | rfl | kernel_rfl)
  have T2 : Looks (model prog w) hh (isType (.type "tuple")) true := Looks.of_pure (by first | rfl | kernel_rfl | (unfold isType; rw [isSubtype_type]; kernel_rfl))
  refine wpAny_call (codeAny_of_tree ?_)
  show wpAny _ A.in1 (do checkBuiltinCall "issubclass" ⟨[.ref C, .type "tuple"], []⟩; again (.builtin "issubclass" ⟨[.ref C, .type "tuple"], []⟩)) _ _ _
  refine wpAny_bind (wpAny_of_eq (is_check _ _) (wpAny_pure ⟨plainId_quiet is_plain _, codeAny_builtin is_entry ?_⟩))
  unfold Builtin.«issubclass»
  refine wpAny_bind (wpAny_pure ?_)
  refine wpAny_pure (a := Fin.again (.builtin "issubclass.nested" ⟨[.ref C, .type "tuple", rawInt 0], []⟩)) ⟨is_nquiet, codeAny_builtin isn_entry ?_⟩
  unfold Builtin.«issubclass.nested»
  refine wpAny_bind (T1.at ?_)
  rw [if_pos (by decide)]
  k_delta "plainIsSubclass"
  repeat (first | simp only [Bool.and_self, if_true] | lk)
  exact h
theorem tgi_slot : Slot "tuple" "__getitem__" "tuple.__getitem__" := F.slot_tuple_getitem
theorem tgi_kind : builtinKind "tuple.__getitem__" = some .slot := by decide +kernel
theorem tgi_split : splitId "tuple.__getitem__" = some ("tuple", "__getitem__") := by decide +kernel
theorem tgi_run {l : Addr} {items : Array Value} {n : Nat} {c : Value} {dc : Option Addr} {sl : Array (Option Value)} {i : Int} {u : Tok} {k : Nat} {y : Value} (hlo : -2 ^ 63 ≤ i) (hhi : i < 2 ^ 63) (hk : seqIndex? i items.size = some k) (hy : items[k]? = some y) :
    Meets (Builtin.«tuple.__getitem__» ⟨[.ref l, .int i u], []⟩)
      (fun _ R s => s.heap.get? l = some { cls := c, dict := dc, data := .seq items n, slots := sl } ∧ R (.ok (.ret y)) s) :=
  .of_wp fun prog w A R s h => by
    obtain ⟨hp, g, d, tk, os⟩ := s; obtain ⟨hl, h⟩ := h
    have f1 := AutoSeq1.idx_int
    have hf : ¬ (decide (i < -2 ^ 63) || decide (i ≥ 2 ^ 63)) = true := by simp; omega
    wp_walk using AutoSeq1.wpAny_loadPart' hl
    simp only [hk, hy, Option.bind_some]
    refine wpAny_ite_false (by simp; omega) ?_
    wp_walk
    exact ⟨_, rfl, h⟩
theorem tgi_call {items : Array Value} {n : Nat} {c : Value} {dc : Option Addr} {sl : Array (Option Value)} {i : Int} {u : Tok} {k : Nat} {y : Value} (X : K.In s.heap) (hs : subIn K (.ref C) (.type "tuple") = some true)
    (hx : s.heap.get? x = some { cls := .ref C, dict := dc, data := .seq items n, slots := sl }) (hlo : -2 ^ 63 ≤ i) (hhi : i < 2 ^ 63) (hk : seqIndex? i items.size = some k) (hy : items[k]? = some y) (h : Q y s) :
    wpAny (model prog w) A (call (.builtin "tuple.__getitem__") [.ref x, .int i u]) Q E s := by
  have L0 : Looks (model prog w) s.heap (typeOf (.ref x)) (.ref C) := (Looks.ld hx).andThen .now
  have L1 : Looks (model prog w) s.heap (isInstance (.ref x) (.type "tuple")) true := L0.andThen (looks_subIn X hs)
  refine wpAny_call (codeAny_call_builtin tgi_slot.plain F.entry_tuple_getitem (@check_slot (model prog w) _ _ _ "tuple.__getitem__" "tuple" "__getitem__" (.ref x) [.int i u] [] _ tgi_kind tgi_split L1 (F.args_tuple_getitem_2 _ _) ?_))
  exact tgi_run hlo hhi hk hy _ _ _ (fun r s' => match r with | .ok (.ret v) => Q v s' | .ok _ => False | .error e => E e s') _ ⟨hx, h⟩
theorem inst_seq {h₀ h : Heap} {L x C dx : Addr} {news : List (Addr × Obj)} {od : Obj} {vs : Array Value} {n : Nat} {sl : Array (Option Value)} (N : News h₀ L h news) (h1 : (x, (⟨.ref C, some dx, .seq vs n, sl⟩ : Obj)) ∈ news) (h2 : (dx, od) ∈ news) :
    InstAt h x ⟨.ref C, some dx, .seq vs n, sl⟩ C (some od) := ⟨(N _ h1).1, rfl, rfl, (N _ h2).1⟩
end
end Mine

end
section
open PySem PySem.Spec PySem.Calls PySem.W PyProof.Rows
set_option Elab.async false
namespace Mine
set_option maxRecDepth 100000

structure InCallD (s₀ : Shared) (L : Addr) (m : Str → Option Value) (own : List (Str × Addr)) (s : Shared) : Prop where
  toInCall : InCall s₀ L m s
  cell : ∀ n c, (n, c) ∈ own → s.heap.IsCell c none
  above : ∀ n c, (n, c) ∈ own → L < c

def bindM : List (Str × Value) → (Str → Option Value) → Str → Option Value
  | [], m => m
  | (n, v) :: r, m => bindM r (fun y => if y = n then some v else m y)

section
variable {M : Model} {A : Around} {E : Value → Shared → Prop} {s₀ s : Shared} {m : Str → Option Value} {env : Env}
theorem stD {own : List (Str × Addr)} {n : Str} {v : Value} {Q : Unit → Shared → Prop} (x : InCallD s₀ env.locals m own s) (hk : env.scope.kind = .function) (hl : env.kindOf n = some .local)
    (h : ∀ s', InCallD s₀ env.locals (fun y => if y = n then some v else m y) own s' → Q () s') : wpAny M A (storeName env n v) Q E s := by
  refine wpAny_storeName_local hl x.toInCall.ns (fun h' hn' hs' => h _ ⟨⟨?_, hn', fun b o e => ?_, x.toInCall.fresh⟩, fun k c hc => ?_, x.above⟩) (by rw [hk]; rfl)
  · obtain ⟨h₁, tk, rfl⟩ := x.toInCall.same
    exact ⟨h', _, rfl⟩
  · exact hs'.extBut b o (Nat.ne_of_lt (Nat.lt_of_lt_of_le (Heap.lt_size e) x.toInCall.fresh)) (x.toInCall.keep b o e)
  · exact (x.cell k c hc).sameBut hs' (Nat.ne_of_gt (x.above k c hc))
theorem bindParamsD {own : List (Str × Addr)} (f : Str × Value → PUnit → Sem (ForInStep PUnit)) (hf : ∀ n v u, f (n, v) u = (do storeName env n v; pure (.yield ⟨⟩))) (hk : env.scope.kind = .function) :
    ∀ (binds : List (Str × Value)) (m : Str → Option Value) (s : Shared) (Q : PUnit → Shared → Prop), InCallD s₀ env.locals m own s →
      (∀ x ∈ binds, env.kindOf x.1 = some .local) → (∀ s', InCallD s₀ env.locals (bindM binds m) own s' → Q ⟨⟩ s') → wpAny M A (forIn binds ⟨⟩ f) Q E s
  | [], m, s, Q, x, _, h => by rw [List.forIn_nil]; exact wpAny_pure (h s x)
  | (n, v) :: r, m, s, Q, x, hkind, h => by
    rw [List.forIn_cons, hf]
    exact wpAny_bind (wpAny_bind (stD x hk (hkind (n, v) List.mem_cons_self) fun s' x' => wpAny_pure (bindParamsD f hf hk r _ s' Q x' (fun y hy => hkind y (List.mem_cons_of_mem _ hy)) fun s'' x'' => h s'' x'')))
theorem newEnvD {scope : Scope} {globals : Addr} {cl : List (Str × Addr)} {binds : List (Str × Value)} {qual : Str} {func : Option Addr} {code : Value} {builtins : Addr} {Q : Env → Shared → Prop}
    (hk : scope.kind = .function) (hloc : ∀ x ∈ binds, scope.names.lookup x.1 = some .local)
    (hQ : ∀ s', InCallD s s.heap.objs.size (bindM binds fun _ => none) (cellsFrom (s.heap.objs.size + 1) scope.names []) s' →
      Q (newEnv scope s.heap.objs.size globals (cellsFrom (s.heap.objs.size + 1) scope.names cl) qual func code none builtins) s') :
    wpAny M A (newFunctionEnv scope globals cl binds qual func code none builtins) Q E s := by
  simp only [newFunctionEnv, Option.isSome_none, Bool.false_eq_true, if_false]
  refine wpAny_bind (wpAny_alloc ?_)
  refine wpAny_bind (wpAny_layCells _ (fun name kind cells => by cases kind == NameKind.cell <;> simp) _ _ _ _ ?_)
  have ok := cellsFrom_ok scope.names (s.heap.push { cls := .type "frame", data := .dict #[] }) (s.heap.objs.size + 1) [] ⟨fun _ _ hm => (nomatch hm), List.Pairwise.nil⟩ (by rw [Heap.size_push]; exact Nat.le_refl _)
  rw [Heap.size_push] at ok
  rw [show ({ s with heap := s.heap.push { cls := .type "frame", data := .dict #[] } } : Shared).heap.objs.size = s.heap.objs.size + 1 from Heap.size_push ..]
  refine wpAny_bind (bindParamsD (s₀ := s) (own := cellsFrom (s.heap.objs.size + 1) scope.names []) (env := newEnv scope s.heap.objs.size globals (cellsFrom (s.heap.objs.size + 1) scope.names cl) qual func code none builtins)
    _ (fun _ _ _ => rfl) hk binds (fun _ => none) _ _
    ⟨⟨⟨_, _, rfl⟩, (Heap.Ns.new s.heap (.type "frame")).keeps (pushCells_keeps _ _), fun b o e => pushCells_keeps _ _ b o (Heap.get?_push_of_some _ e), Nat.le_refl _⟩,
      fun n c hc => (ok.empty n c hc).1, fun n c hm => (ok.empty n c hm).2⟩
    hloc fun s' x => wpAny_pure (hQ s' x))
end

section
variable {prog : Program} {w : World} {A₀ A : Around} {s : Shared} {base h₀ : Heap} {outer : List Env} {L : Addr} {m : Str → Option Value} {env : Env} {news : List (Addr × Obj)}
  {R : Result → Shared → Prop} {name qual : Str} {params : Arguments} {body : List Stmt} {scope : Scope} {cl : List (Str × Addr)} {dV kV doc pm cdv ct : Value} {an : Option Addr} {fo : Obj} {f : Addr} {args : Args} {binds : List (Str × Value)}

/-- a def is entered: what it closes over, its own cells (all empty yet), its parameters all plain locals -/
theorem callX_own (B : Below A₀ base outer h₀) (F : Fr h₀ L s.heap m) (N : News h₀ L s.heap news) (hlim : h₀.NoLimit) (hA : A.frames = some (env :: outer)) (hf : env.frame = some L) (hke : env.scope.kind = .function)
    (ho : s.heap.get? f = some fo) (hd : fo.data = .func (fnX name qual params body scope cl dV kV doc pm an cdv ct)) (hcd : s.heap.CodeRec cdv qual) (hroom : A.depth < recursionLimit)
    (hbind : BindsTo s (fnX name qual params body scope cl dV kV doc pm an cdv ct) args binds) (hloc : ∀ y ∈ binds, scope.names.lookup y.1 = some .local)
    (h : ∀ g L' h₁ tk cells, Fr h₀ L g m → Fr g L' h₁ (bindM binds fun _ => none) → News g L' h₁ (cells ++ news) →
      CellsAre (fun _ => none) (cellsFrom (L' + 1) scope.names []) cells → Below A base (env :: outer) g → h₀.StaysIn g → (∀ p ∈ news, p.1 < L') →
      wpAny (model prog w) (A.deeper (envX qual scope L' f cdv (cellsFrom (L' + 1) scope.names cl))) (execs body (envX qual scope L' f cdv (cellsFrom (L' + 1) scope.names cl)))
        (fun fl s' => LeaveK h₀ L m g R (match fl with | .ret v => v | _ => .none) s')
        (fun e s' => wpAny (model prog w) (A.deeper (envX qual scope L' f cdv (cellsFrom (L' + 1) scope.names cl))) («leaving» (envX qual scope L' f cdv (cellsFrom (L' + 1) scope.names cl)) e) (fun _ s'' => R (.error e) s'') (fun e' s'' => R (.error e') s'') s')
        { s with heap := h₁, toks := tk })
    (hco : scope.isCoroutine = false := by rfl) (hgen : scope.isGenerator = false := by rfl) (hk : scope.kind = .function := by rfl) : codeAny (model prog w) A (.call (.ref f) args) R s := by
  obtain ⟨FG, BG, st, lv⟩ := groundX (R := R) B F N hA hf hke
  refine codeAny_call_function hroom ho hd hco hgen rfl hcd (hbind _ _ _ _ ?_)
  refine newEnvD hk hloc fun s' x => ?_
  refine ⟨(hlim.keeps F.keep).keeps x.toInCall.keep, codeAny_func ?_⟩
  obtain ⟨h₁, tk, rfl, _⟩ := x.toInCall.done
  have hk₁ := x.toInCall.keep
  obtain ⟨cells, NC, Y⟩ := Cl.news (cm := fun _ => none) (cs := cellsFrom (s.heap.objs.size + 1) scope.names []) (h₀ := s.heap) (Nat.le_refl s.heap.objs.size) fun n c hm => ⟨x.cell n c hm, x.above n c hm⟩
  refine wpAny_mono (h _ s.heap.objs.size h₁ tk cells FG ⟨x.toInCall.ns, fun b o e => hk₁ b o (of_hideAll _ e), Nat.le_of_eq (hideAll_size _ _)⟩ (fun p hp => ?_) Y BG st (fun p hp => Heap.lt_size (N p hp).1)) (fun fl s' hl => lv _ _ hl) fun _ _ y => y
  rcases List.mem_append.mp hp with hp | hp
  · refine ⟨(NC p hp).1, (NC p hp).2.1, ?_⟩
    cases q : (hideAll s.heap (news.map (·.1))).get? p.1 with
    | none => rfl
    | some o => have := of_hideAll _ q; rw [(NC p hp).2.2] at this; cases this
  · exact ⟨hk₁ _ _ (N p hp).1, Nat.ne_of_lt (Heap.lt_size (N p hp).1), hideAll_none _ (List.mem_map_of_mem hp)⟩
end

/-- a code object with a table of its own for the defs within -/
def CodeOf (oc : Obj) (P : Addr) (qual : Str) : Prop :=
  ∃ vs file tf flags tg inF text tt t, oc.cls = .type "code" ∧ oc.data = .fields vs ∧ vs[11]? = some (.ref P) ∧ vs.getD 11 .none = .ref P ∧ vs.getD 18 .none = .str file tf ∧
    vs.getD 7 .none = .int flags tg ∧ vs.getD 9 .none = .bool inF ∧ vs.getD 10 .none = .int text tt ∧ vs[1]? = some (.str qual t)
theorem CodeOf.hd {h₀ h : Heap} {L c P : Addr} {oc : Obj} {qual : Str} {news : List (Addr × Obj)} (C : CodeOf oc P qual) (N : News h₀ L h news) (hm : (c, oc) ∈ news) (hne : @Ne Nat c P) : CodeHd h c P := by
  obtain ⟨vs, file, tf, flags, tg, inF, text, tt, t, e2, e3, e4, e5, e6, e7, e8, e9, _⟩ := C
  exact ⟨oc, vs, file, tf, flags, tg, inF, text, tt, (N _ hm).1, e2, e3, e4, e5, e6, e7, e8, e9, hne⟩
theorem CodeOf.rec {h₀ h : Heap} {L c P : Addr} {oc : Obj} {qual : Str} {news : List (Addr × Obj)} (C : CodeOf oc P qual) (N : News h₀ L h news) (hm : (c, oc) ∈ news) : h.CodeRec (.ref c) qual := by
  obtain ⟨vs, file, tf, flags, tg, inF, text, tt, t, e2, e3, e4, e5, e6, e7, e8, e9, e10⟩ := C
  exact ⟨c, oc, vs, t, rfl, (N _ hm).1, e3, e10⟩
theorem codeOf_made {h : Heap} {c P : Addr} {qual : Str} (a : h.IsCode c P #[]) (b : h.TableAt c P #[]) (r : h.CodeRec (.ref c) qual) : ∃ oc, h.get? c = some oc ∧ CodeOf oc P qual ∧ h.get? P = some (tabObj #[]) ∧ @Ne Nat c P := by
  obtain ⟨o, vs, file, tf, flags, tg, inF, text, tt, op, g1, g2, g3, g4, g5, g6, g7, _, _, _, g11⟩ := a
  obtain ⟨⟨o', vs', k1, k2, k3, k4⟩, k5⟩ := b
  obtain ⟨c', o'', vs'', t, l0, l1, l2, l3⟩ := r
  cases l0
  rw [g1] at k1 l1
  cases k1
  cases l1
  rw [g2] at k3 l2
  cases k3
  cases l2
  exact ⟨o, g1, ⟨vs, file, tf, flags, tg, inF, text, tt, t, k2, g2, k4, g3, g4, g5, g6, g7, l3⟩, k5, g11⟩

abbrev fnMadeD (name qual : Str) (params : Arguments) (body : List Stmt) (scope : Scope) (clos : List (Str × Addr)) (dV doc pm : Value) (c' : Addr) (ctv : Value) : Obj :=
  { cls := .type "function", data := .func (fnX name qual params body scope clos dV .none doc pm none (.ref c') ctv) }
section
variable {M : Model} {A : Around} {E : Value → Shared → Prop} {s : Shared} {name qual : Str} {params : Arguments} {body : List Stmt} {scope : Scope} {env : Env} {c P : Addr} {ps : Array Value} {pos : Pos} {firstLine : Nat} {mg : Str → Option Value}
  {clos : List (Str × Addr)} {Q : Value → Shared → Prop} {dV : Value}
theorem makeTail_miss (hcl : closureFor scope env = pure clos) (hge0 : env.globals = mainGlobals) (hg : s.heap.Ns mainGlobals mg) (hcode : env.code = .ref c) (C : CodeHd s.heap c P) (hP : s.heap.get? P = some (tabObj ps)) (ht : TriplesOk ps.toList)
    (hnf : codeAmong pos ps.toList = none) (hgP : mainGlobals ≠ P) (hb : s.heap.BuiltinsAt mg P)
    (h : ∀ c' P' ctv doc h' tk, Heap.ExtBut P s.heap h' → s.heap.objs.size ≤ c' → c' < h'.objs.size → s.heap.objs.size ≤ P' → h'.CodeRec (.ref c') qual → h'.IsCode c' P' #[] → h'.TableAt c' P' #[] →
      h'.get? P = some (tabObj (ps ++ #[rawInt pos.line, rawInt pos.col, .ref c'])) →
      Q (.ref h'.objs.size) { s with heap := h'.push (fnMadeD name qual params body scope clos dV doc ((mg "__name__").getD .none) c' ctv), toks := tk }) :
    wpAny M A (makeTail name qual params (.stmts body) scope env dV .none none pos firstLine) Q E s := by
  obtain ⟨bm, ob, hbm, hne0, _, hneP, hbo, hcls, hdict, hdata⟩ := hb
  unfold makeTail
  rw [hcl, hge0]
  refine wpAny_bind (wpAny_pure ?_)
  cases clos with
  | nil =>
    simp only [List.isEmpty_nil, if_true]
    refine wpAny_bind (wpAny_pure ?_)
    refine wpAny_bind (wpAny_functionCodeX hcode (C.code hP ht) (C.tab hP) hnf fun c' h' tk hx hge hlt _ hrec htb hnew => ?_)
    obtain ⟨P', hP1, hP2, hP3⟩ := hnew
    have hg' := hg.extBut hx hgP
    refine wpAny_bind (wpAny_builtinsFor hg' hbm hne0 (hx _ _ hneP hbo) hcls hdict hdata ?_)
    refine wpAny_bind (wpAny_nsGet hg' ?_)
    cases hdoc : docOf body with
    | none => exact wpAny_bind (wpAny_pure (wpAny_newObj_type (h c' P' .none .none h' tk hx hge hlt hP1 hrec hP2 hP3 htb.2) (by size_fits)))
    | some t => exact wpAny_bind (wpAny_mkText (wpAny_newObj_type (h c' P' .none _ h' _ hx hge hlt hP1 hrec hP2 hP3 htb.2) (by size_fits)))
  | cons q r =>
    simp only [List.isEmpty_cons, Bool.false_eq_true, if_false]
    refine wpAny_bind (wpAny_newTextTuple ?_)
    refine wpAny_bind (wpAny_functionCodeX hcode ((C.keeps fun b o e => Heap.get?_push_of_some _ e).code (Heap.get?_push_of_some _ hP) ht) ((C.keeps fun b o e => Heap.get?_push_of_some _ e).tab (Heap.get?_push_of_some _ hP)) hnf fun c' h' tk hx hge hlt _ hrec htb hnew => ?_)
    obtain ⟨P', hP1, hP2, hP3⟩ := hnew
    have hg' := (hg.push _).extBut hx hgP
    have hx' : Heap.ExtBut P s.heap h' := fun b o hb' e => hx b o hb' (Heap.get?_push_of_some _ e)
    have up : s.heap.objs.size ≤ (s.heap.push { cls := .type "tuple", data := .seq (List.map (fun x => Value.ref x.2) ((q :: r).mergeSort fun a b => decide (a.1.cps.toList ≤ b.1.cps.toList))).toArray }).objs.size := by rw [Heap.size_push]; omega
    have hge' : s.heap.objs.size ≤ c' := Nat.le_trans up hge
    have hP1' : s.heap.objs.size ≤ P' := Nat.le_trans up hP1
    refine wpAny_bind (wpAny_builtinsFor hg' hbm hne0 (hx' _ _ hneP hbo) hcls hdict hdata ?_)
    refine wpAny_bind (wpAny_nsGet hg' ?_)
    cases hdoc : docOf body with
    | none => exact wpAny_bind (wpAny_pure (wpAny_newObj_type (h c' P' _ .none h' tk hx' hge' hlt hP1' hrec hP2 hP3 htb.2) (by size_fits)))
    | some t => exact wpAny_bind (wpAny_mkText (wpAny_newObj_type (h c' P' _ _ h' _ hx' hge' hlt hP1' hrec hP2 hP3 htb.2) (by size_fits)))
theorem makeTail_hitD {cv : Value} (hcl : closureFor scope env = pure clos) (hge0 : env.globals = mainGlobals) (hg : s.heap.Ns mainGlobals mg) (hcode : env.code = .ref c) (C : CodeHd s.heap c P) (hP : s.heap.get? P = some (tabObj ps)) (ht : TriplesOk ps.toList)
    (hf : codeAmong pos ps.toList = some cv) (hb : s.heap.BuiltinsAt mg P)
    (h : ∀ (ctv doc : Value) (h' : Heap) (tk : Tok), (∀ b o, s.heap.get? b = some o → h'.get? b = some o) → s.heap.objs.size ≤ h'.objs.size →
      Q (.ref h'.objs.size) { s with heap := h'.push { cls := .type "function", data := .func (fnX name qual params body scope clos dV .none doc ((mg "__name__").getD .none) none cv ctv) }, toks := tk }) :
    wpAny M A (makeTail name qual params (.stmts body) scope env dV .none none pos firstLine) Q E s := by
  obtain ⟨bm, ob, hbm, hne0, _, hneP, hbo, hcls, hdict, hdata⟩ := hb
  unfold makeTail
  rw [hcl, hge0]
  refine wpAny_bind (wpAny_pure ?_)
  cases clos with
  | nil =>
    simp only [List.isEmpty_nil, if_true]
    refine wpAny_bind (wpAny_pure ?_)
    refine wpAny_bind (wpAny_functionCode_hit hcode (C.code hP ht) hf ?_)
    refine wpAny_bind (wpAny_builtinsFor hg hbm hne0 hbo hcls hdict hdata ?_)
    refine wpAny_bind (wpAny_nsGet hg ?_)
    cases hdoc : docOf body with
    | none => exact wpAny_bind (wpAny_pure (wpAny_newObj_type (h .none .none s.heap s.toks (fun _ _ e => e) (Nat.le_refl _)) (by size_fits)))
    | some t => exact wpAny_bind (wpAny_mkText (wpAny_newObj_type (h .none _ s.heap _ (fun _ _ e => e) (Nat.le_refl _)) (by size_fits)))
  | cons q r =>
    simp only [List.isEmpty_cons, Bool.false_eq_true, if_false]
    refine wpAny_bind (wpAny_newTextTuple ?_)
    refine wpAny_bind (wpAny_functionCode_hit hcode ((C.keeps fun b o e => Heap.get?_push_of_some _ e).code (Heap.get?_push_of_some _ hP) ht) hf ?_)
    refine wpAny_bind (wpAny_builtinsFor (hg.push _) hbm hne0 (Heap.get?_push_of_some _ hbo) hcls hdict hdata ?_)
    refine wpAny_bind (wpAny_nsGet (hg.push _) ?_)
    have hsz : ∀ oT : Obj, s.heap.objs.size ≤ (s.heap.push oT).objs.size := fun oT => by rw [Heap.size_push]; omega
    cases hdoc : docOf body with
    | none => exact wpAny_bind (wpAny_pure (wpAny_newObj_type (h _ .none _ s.toks (fun b o e => Heap.get?_push_of_some _ e) (hsz _)) (by size_fits)))
    | some t => exact wpAny_bind (wpAny_mkText (wpAny_newObj_type (h _ _ _ _ (fun b o e => Heap.get?_push_of_some _ e) (hsz _)) (by size_fits)))
end
section
variable {M : Model} {A : Around} {E : Value → Shared → Prop} {s : Shared} {h₀ : Heap} {L a c P : Addr} {m mg mb : Str → Option Value} {cn : Str} {cs : Scope} {ccd : Value} {cl : List (Str × Addr)} {news : List (Addr × Obj)} {g : Obj → List (Addr × Obj)}
  {p : Program} {loose : List Str} {mean : ExcName → Option Value} {name qual : Str} {params : Arguments} {body : List Stmt} {scope : Scope} {ps : Array Value} {pos : Pos} {firstLine : Nat} {clos : List (Str × Addr)} {dV : Value}
theorem tail_miss {Q : Value → Shared → Prop} (F : Fr h₀ L s.heap m) (N : News h₀ L s.heap news) (T : Top p loose mean mg mb h₀) (C : CodeHd s.heap c P) (hcd : ccd = .ref c) (U : UpdF P (tabObj ps) news g) (ht : TriplesOk ps.toList) (hnf : codeAmong pos ps.toList = none)
    (hcl : closureFor scope (envX cn cs L a ccd cl) = pure clos)
    (h : ∀ f c' P' oc ctv doc h' tk, Fr h₀ L h' m →
      News h₀ L h' ((f, fnMadeD name qual params body scope clos dV doc ((mg "__name__").getD .none) c' ctv) :: (c', oc) :: (P', tabObj #[]) :: g (tabObj (ps ++ #[rawInt pos.line, rawInt pos.col, .ref c']))) →
      CodeOf oc P' qual → (∀ q ∈ news, q.1 < c') → (∀ q ∈ news, q.1 < P') → @Ne Nat c' P' → @LT.lt Nat _ c' f → @LT.lt Nat _ P' f → Q (.ref f) { s with heap := h', toks := tk }) :
    wpAny M A (makeTail name qual params (.stmts body) scope (envX cn cs L a ccd cl) dV .none none pos firstLine) Q E s := by
  obtain ⟨own, rest, rfl, hgr, h1, h2⟩ := U.split
  have hm := N (P, tabObj ps) (List.mem_append_right _ (.head _))
  have hgs := T.g.keeps F.keep
  obtain ⟨bm, ob, b1, b2, b3, b4, b5, b6⟩ := T.bmain
  have hgP : mainGlobals ≠ P := fun q => by
    obtain ⟨o, es, ep, e, hd, _⟩ := hgs
    rw [q, hm.1] at e; cases e; cases hd
  have hbP : bm ≠ P := fun q => by
    have e := F.keep _ _ b3
    rw [q, hm.1] at e; cases e; cases b4
  have hbG : bm ≠ mainGlobals := fun q => by
    obtain ⟨o, es, ep, e, hd, _⟩ := T.g
    rw [q, e] at b3; cases b3; rw [hd] at b6; cases b6
  refine makeTail_miss (mg := mg) hcl rfl hgs hcd C hm.1 ht hnf hgP ⟨bm, ob, b1, b2, hbG, hbP, F.keep _ _ b3, b4, b5, b6⟩ fun c' P' ctv doc h' tk hx hge hlt hgP' hrec hic hta htb => ?_
  obtain ⟨oc, hoc, hC, hT, hcP⟩ := codeOf_made hic hta hrec
  have hLs : L < s.heap.objs.size := F.ns.lt
  have hLc : L < c' := Nat.lt_of_lt_of_le hLs hge
  have hLP : L < P' := Nat.lt_of_lt_of_le hLs hgP'
  have hltP : P' < h'.objs.size := Heap.lt_size hT
  have old : ∀ b o, h₀.get? b = some o → h'.get? b = some o := fun b o e => hx b o (fun q => by rw [q, hm.2.2] at e; cases e) (F.keep b o e)
  have fresh : ∀ b, L < b → h₀.get? b = none := fun b hb => Heap.get?_none_of_le (Nat.le_trans F.above (Nat.le_of_lt hb))
  refine h h'.objs.size c' P' oc ctv doc _ tk ⟨(F.ns.extBut hx hm.2.1.symm).push _, fun b o e => Heap.get?_push_of_some _ (old b o e), F.above⟩ (fun q hq => ?_) hC
    (fun q hq => Nat.lt_of_lt_of_le (Heap.lt_size (N q hq).1) hge) (fun q hq => Nat.lt_of_lt_of_le (Heap.lt_size (N q hq).1) hgP') hcP hlt hltP
  rcases List.mem_cons.mp hq with rfl | hq
  · exact ⟨Heap.get?_push_size _ rfl, Nat.ne_of_gt (Nat.lt_trans hLc hlt), fresh _ (Nat.lt_trans hLc hlt)⟩
  · rcases List.mem_cons.mp hq with rfl | hq
    · exact ⟨Heap.get?_push_of_some _ hoc, Nat.ne_of_gt hLc, fresh _ hLc⟩
    · rcases List.mem_cons.mp hq with rfl | hq
      · exact ⟨Heap.get?_push_of_some _ hT, Nat.ne_of_gt hLP, fresh _ hLP⟩
      · rw [hgr] at hq
        rcases List.mem_append.mp hq with hq | hq
        · have n := N q (List.mem_append_left _ hq)
          exact ⟨Heap.get?_push_of_some _ (hx _ _ (h1 q hq) n.1), n.2⟩
        · rcases List.mem_cons.mp hq with rfl | hq
          · exact ⟨Heap.get?_push_of_some _ htb, hm.2⟩
          · have n := N q (List.mem_append_right _ (.tail _ hq))
            exact ⟨Heap.get?_push_of_some _ (hx _ _ (h2 q hq) n.1), n.2⟩
theorem tail_hit {Q : Value → Shared → Prop} {c' : Addr} (F : Fr h₀ L s.heap m) (N : News h₀ L s.heap news) (T : Top p loose mean mg mb h₀) (C : CodeHd s.heap c P) (hcd : ccd = .ref c) (hmem : (P, tabObj ps) ∈ news) (ht : TriplesOk ps.toList) (hf : codeAmong pos ps.toList = some (.ref c'))
    (hcl : closureFor scope (envX cn cs L a ccd cl) = pure clos)
    (h : ∀ f ctv doc h' tk, Fr h₀ L h' m → News h₀ L h' ((f, fnMadeD name qual params body scope clos dV doc ((mg "__name__").getD .none) c' ctv) :: news) → (∀ q ∈ news, q.1 < f) → Q (.ref f) { s with heap := h', toks := tk }) :
    wpAny M A (makeTail name qual params (.stmts body) scope (envX cn cs L a ccd cl) dV .none none pos firstLine) Q E s := by
  have hm := N (P, tabObj ps) hmem
  have hgs := T.g.keeps F.keep
  obtain ⟨bm, ob, b1, b2, b3, b4, b5, b6⟩ := T.bmain
  have hbP : bm ≠ P := fun q => by
    have e := F.keep _ _ b3
    rw [q, hm.1] at e; cases e; cases b4
  have hbG : bm ≠ mainGlobals := fun q => by
    obtain ⟨o, es, ep, e, hd, _⟩ := T.g
    rw [q, e] at b3; cases b3; rw [hd] at b6; cases b6
  refine makeTail_hitD (mg := mg) hcl rfl hgs hcd C hm.1 ht hf ⟨bm, ob, b1, b2, hbG, hbP, F.keep _ _ b3, b4, b5, b6⟩ fun ctv doc h' tk hk hsz => ?_
  have hLs : L < h'.objs.size := Nat.lt_of_lt_of_le F.ns.lt hsz
  have fresh : ∀ b, L < b → h₀.get? b = none := fun b hb => Heap.get?_none_of_le (Nat.le_trans F.above (Nat.le_of_lt hb))
  refine h h'.objs.size ctv doc _ tk ⟨(F.ns.keeps hk).push _, fun b o e => Heap.get?_push_of_some _ (hk b o (F.keep b o e)), F.above⟩ (fun q hq => ?_) (fun q hq => Nat.lt_of_lt_of_le (Heap.lt_size (N q hq).1) hsz)
  rcases List.mem_cons.mp hq with rfl | hq
  · exact ⟨Heap.get?_push_size _ rfl, Nat.ne_of_gt hLs, fresh _ hLs⟩
  · exact ⟨Heap.get?_push_of_some _ (hk _ _ (N q hq).1), (N q hq).2⟩
end
section
variable {M : Model} {A : Around} {E : Value → Shared → Prop} {s : Shared} {name qual : Str} {params : Arguments} {body : List Stmt} {scope : Scope} {env : Env} {pos : Pos}
/-- a def in a body, no default -/
theorem def_plain {Q : Flow → Shared → Prop} (hd0 : params.defaults = []) (hk0 : params.kw_defaults = []) (ha : annTrees params none env = [])
    (h : wpAny M A (makeTail name (qualnameIn env name name) params (.stmts body) scope env .none .none none pos pos.line) (fun v s' => wpAny M A (storeName env name v) (fun _ s'' => Q .next s'') E s') E s) :
    wpAny M A (exec (.FunctionDef name params body [] none [] scope none name pos) env) Q E s := by
  refine nestDef_K hd0 hk0 ha ?_
  rw [makeFunction_eq]
  simp only [List.zip_nil_right, List.filterMap_nil, List.isEmpty_nil, if_true, pure_bind]
  exact h
/-- a def in a body, one default: a written octets' string -/
theorem def_bytes {Q : Flow → Shared → Prop} {bs : List UInt8} {k : Nat} {cp : Pos} (hd0 : params.defaults = [.Constant (.bytes bs) k cp]) (hk0 : params.kw_defaults = []) (ha : annTrees params none env = [])
    (h : ∀ t tk, wpAny M A (makeTail name (qualnameIn env name name) params (.stmts body) scope env (.ref s.heap.objs.size) .none none pos pos.line) (fun v s' => wpAny M A (storeName env name v) (fun _ s'' => Q .next s'') E s') E
      { s with heap := s.heap.push { cls := .type "tuple", data := .seq [Value.bytes bs.toArray t].toArray }, toks := tk }) :
    wpAny M A (exec (.FunctionDef name params body [] none [] scope none name pos) env) Q E s := by
  rw [exec_def]
  refine wpAny_bind (wpAny_standAt (wpAny_bind (wpAny_holding ?_)))
  rw [defaultsOf_eq, hd0, hk0, ha]
  refine wpAny_bind (wpAny_evalAll_consts _ _ _ (fun e he => by cases he with | head => rfl | tail _ h => cases h) fun vs tk hv => ?_)
  match vs, hv with
  | [], hv => exact hv.elim
  | [v], hv =>
    obtain ⟨⟨t, rfl⟩, _⟩ := hv
    refine wpAny_bind (wpAny_holding (wpAny_pure ?_))
    refine wpAny_holding (wpAny_bind (wpAny_pure ?_))
    rw [makeFunction_eq]
    simp only [List.zip_nil_right, List.filterMap_nil, List.isEmpty_nil, List.isEmpty_cons, Bool.false_eq_true, if_false, if_true, pure_bind]
    refine wpAny_bind (wpAny_newTextTuple ?_)
    exact wpAny_mono (h t tk) (fun v s' h' => wpAny_bind (wpAny_standAt (wpAny_bind (wpAny_bindName (wpAny_mono h' (fun _ _ h'' => wpAny_pure h'') fun _ _ x => x))))) fun _ _ x => x
  | _ :: _ :: _, hv => exact hv.2.elim
end

section
variable {M : Model} {A : Around} {E : Value → Shared → Prop} {s : Shared} {name qual : Str} {params : Arguments} {body : List Stmt} {scope : Scope} {env : Env} {pos : Pos} {h₀ : Heap} {L : Addr} {m : Str → Option Value} {news : List (Addr × Obj)}
theorem def_bytes_K {Q : Flow → Shared → Prop} {bs : List UInt8} {k : Nat} {cp : Pos} (F : Fr h₀ L s.heap m) (N : News h₀ L s.heap news) (hd0 : params.defaults = [.Constant (.bytes bs) k cp]) (hk0 : params.kw_defaults = []) (ha : annTrees params none env = [])
    (h : ∀ d t h' tk, Fr h₀ L h' m → News h₀ L h' ((d, { cls := .type "tuple", data := .seq #[Value.bytes bs.toArray t] }) :: news) → (∀ q ∈ news, q.1 < d) →
      wpAny M A (makeTail name (qualnameIn env name name) params (.stmts body) scope env (.ref d) .none none pos pos.line) (fun v s' => wpAny M A (storeName env name v) (fun _ s'' => Q .next s'') E s') E { s with heap := h', toks := tk }) :
    wpAny M A (exec (.FunctionDef name params body [] none [] scope none name pos) env) Q E s :=
  def_bytes hd0 hk0 ha fun t tk => h _ t _ tk (F.push _) (N.push F _) fun q hq => Heap.lt_size (N q hq).1
end
section
variable {prog : Program} {w : World} {A A₀ : Around} {s : Shared} {K : Frag} {L : Addr} {h₀ base : Heap} {m mg mb : Str → Option Value} {news : List (Addr × Obj)} {p : Program} {loose : List Str} {mean : ExcName → Option Value}
  {env : Env} {outer : List Env} {R : Result → Shared → Prop} {name qual : Str} {params : Arguments} {body : List Stmt} {scope : Scope} {cl : List (Str × Addr)} {dV doc pm ctv : Value} {c' P' : Addr} {oc : Obj} {f : Addr} {args : Args} {binds : List (Str × Value)}
/-- a def of the ledger is entered: no cells of its own -/
theorem code_own0 (B : Below A₀ base outer h₀) (F : Fr h₀ L s.heap m) (X₀ : K.In h₀) (N : News h₀ L s.heap news) (T : Top p loose mean mg mb h₀) (hA : A.frames = some (env :: outer)) (hf : env.frame = some L) (hke : env.scope.kind = .function)
    (ho : (f, fnMadeD name qual params body scope cl dV doc pm c' ctv) ∈ news) (hoc : (c', oc) ∈ news) (hcd : CodeOf oc P' qual) (hroom : A.depth < recursionLimit)
    (hbind : BindsTo s (fnX name qual params body scope cl dV .none doc pm none (.ref c') ctv) args binds) (hloc : ∀ y ∈ binds, scope.names.lookup y.1 = some .local)
    (h : ∀ g L' h₁, Fr h₀ L g m → Fr g L' h₁ (fun y => binds.reverse.lookup y) → News g L' h₁ news → Below A base (env :: outer) g → K.In g → Top p loose mean mg mb g → (∀ p ∈ news, p.1 < L') →
      wpAny (model prog w) (A.deeper (envX qual scope L' f (.ref c') cl)) (execs body (envX qual scope L' f (.ref c') cl))
        (fun fl s' => LeaveK h₀ L m g R (match fl with | .ret v => v | _ => .none) s')
        (fun e s' => wpAny (model prog w) (A.deeper (envX qual scope L' f (.ref c') cl)) («leaving» (envX qual scope L' f (.ref c') cl) e) (fun _ s'' => R (.error e) s'') (fun e' s'' => R (.error e') s'') s')
        { s with heap := h₁, toks := s.toks + binds.length })
    (hco : scope.isCoroutine = false) (hgen : scope.isGenerator = false) (hk : scope.kind = .function)
    (hcell : ∀ x ∈ scope.names, x.2 ≠ .cell) : codeAny (model prog w) A (.call (.ref f) args) R s :=
  callX_plain (cl := cl) B F N T.nolimit hA hf hke (N _ ho).1 rfl (hcd.rec N hoc) hroom hbind hloc (fun g L' h₁ FG F' N' B' st l => h g L' h₁ FG F' N' B' (X₀.keeps st) (T.keeps st) l) hcell hco hgen hk
/-- the same, with cells of its own -/
theorem code_own (B : Below A₀ base outer h₀) (F : Fr h₀ L s.heap m) (X₀ : K.In h₀) (N : News h₀ L s.heap news) (T : Top p loose mean mg mb h₀) (hA : A.frames = some (env :: outer)) (hf : env.frame = some L) (hke : env.scope.kind = .function)
    (ho : (f, fnMadeD name qual params body scope cl dV doc pm c' ctv) ∈ news) (hoc : (c', oc) ∈ news) (hcd : CodeOf oc P' qual) (hroom : A.depth < recursionLimit)
    (hbind : BindsTo s (fnX name qual params body scope cl dV .none doc pm none (.ref c') ctv) args binds) (hloc : ∀ y ∈ binds, scope.names.lookup y.1 = some .local)
    (h : ∀ g L' h₁ tk cells, Fr h₀ L g m → Fr g L' h₁ (bindM binds fun _ => none) → News g L' h₁ (cells ++ news) → CellsAre (fun _ => none) (cellsFrom (L' + 1) scope.names []) cells →
      Below A base (env :: outer) g → K.In g → Top p loose mean mg mb g → (∀ p ∈ news, p.1 < L') →
      wpAny (model prog w) (A.deeper (envX qual scope L' f (.ref c') (cellsFrom (L' + 1) scope.names cl))) (execs body (envX qual scope L' f (.ref c') (cellsFrom (L' + 1) scope.names cl)))
        (fun fl s' => LeaveK h₀ L m g R (match fl with | .ret v => v | _ => .none) s')
        (fun e s' => wpAny (model prog w) (A.deeper (envX qual scope L' f (.ref c') (cellsFrom (L' + 1) scope.names cl))) («leaving» (envX qual scope L' f (.ref c') (cellsFrom (L' + 1) scope.names cl)) e) (fun _ s'' => R (.error e) s'') (fun e' s'' => R (.error e') s'') s')
        { s with heap := h₁, toks := tk })
    (hco : scope.isCoroutine = false) (hgen : scope.isGenerator = false) (hk : scope.kind = .function) : codeAny (model prog w) A (.call (.ref f) args) R s :=
  callX_own (cl := cl) B F N T.nolimit hA hf hke (N _ ho).1 rfl (hcd.rec N hoc) hroom hbind hloc (fun g L' h₁ tk cells FG F' N' Y B' st l => h g L' h₁ tk cells FG F' N' Y B' (X₀.keeps st) (T.keeps st) l) hco hgen hk
theorem binds_news {fd : FuncData} {T : Addr} {o : Obj} {items : Array Value} {n : Nat} {k : Option (Array Value) → Sem (List (Str × Value))} (N : News h₀ L s.heap news) (hm : (T, o) ∈ news) (hd : fd.defaults = .ref T) (hs : o.data = .seq items n)
    (h₁ : bindArgs fd args = seqItems? fd.defaults >>= k) (h₂ : k (some items) = pure binds) : BindsTo s fd args binds := BindsTo.of_defaults hd (N _ hm).1 hs h₁ h₂
end
end Mine

end
section
open PySem PySem.Spec PySem.Calls PySem.W PyProof.Rows
set_option Elab.async false
namespace Mine
theorem fillUp : (fun (_ : OpenLaw) (_ : Params → Frag) => True) PySem.Challenge.rw_aj5026_02 Mine.K := by
  k_fill
  trivial
abbrev handObj (u d c sz bl : Value) (dx : Addr) : Obj := { cls := .ref 285, dict := some dx, data := .seq #[u, d, c, sz, bl] }
def GetTells (w : World) (p : Program) (loose : List Str) (mean : ExcName → Option Value) (mg mb : Str → Option Value) (ds : Addr) (pick : Value → Value → Value → Value → Value → Value) : Prop :=
  ∀ (dp un : Nat) (gd : Option (List Code)) (cn : Str) (cs : Scope) (a : Addr) (ccd : Value) (cl : List (Str × Addr)) (outer : List Env) (A₀ : Around) (base h₀ : Heap) (L : Addr) (m : Str → Option Value) (news : List (Addr × Obj)) (s : Shared) (x dx : Addr) (u d c sz bl : Value)
    (Q E : Value → Shared → Prop),
    Below A₀ base outer h₀ → Fr h₀ L s.heap m → (Mine.K w.params).In h₀ → News h₀ L s.heap news → Top p loose mean mg mb h₀ → cs.kind = .function → (x, handObj u d c sz bl dx) ∈ news → (dx, emptyDict) ∈ news → dp + 1 < recursionLimit → un + 8 < cLine →
    (∀ h' tk', Fr h₀ L h' m → News h₀ L h' news → Q (pick u d c sz bl) { s with heap := h', toks := tk' }) →
    wpAny (model PySem.Challenge.pw_aj5026_02 w) (ktrTop dp un gd cn cs L a ccd cl outer) (call (.ref 187) [.ref ds, .ref x, .ref 285]) Q E s
local macro_rules | `(tactic| walk_at "getMethod type:tuple") => `(tactic| (k_here; refine' method_type ?F ?X ?m (by decide +kernel) ?e ?h ?_; (case F => k_asm); (case X => k_asm); (case m => first | rfl | kernel_rfl); (case e => k_dflt k_is); (case h => k_handed)))
local macro_rules | `(tactic| cell_enter) => `(tactic| (refine' code_def ?k1 ?k2 ?k3 ?k4 ?k5 ?kA ?kF ?kK ?k6 ?k7 ?k8 ?k9 ?kB ?_ ?c2 ?c3 ?c4 ?c5; (case kA => exact rfl); (case kF => exact rfl); (case kK => first | assumption | exact rfl); (case k1 => k_asm); (case k2 => k_asm); (case k3 => k_asm); (case k4 => k_asm); (case k5 => k_asm); (case k6 => k_is); (case k7 => k_is); (case k8 => ktr_room); (case k9 => first | exact BindsTo.of_eq rfl | exact binds_K (by k_in) rfl (by k_is) rfl rfl rfl); (case c5 => decide); (case kB => exact locs rfl); (case c2 => exact rfl); (case c3 => exact rfl); (case c4 => exact rfl); k_whole; intro g' L' h' FG' F' N' B' X' T'; (try dsimp only); (try k_lift B'); (try k_fold)))
local macro_rules | `(tactic| walk_at "call type:type") => `(tactic| (k_here; k_dflt (refine kto_own (inst_seq (by k_asm) (by k_mem) (by k_mem)) ?_)))
local macro_rules | `(tactic| walk_at "call builtin:issubclass") => `(tactic| (k_here; k_dflt (refine issub_tuple (K := Mine.K _) (C := 285) (by k_in) (by kernel_rfl) ?_)))
local macro_rules | `(tactic| walk_at "call builtin:tuple.__getitem__") => `(tactic| (k_here; k_dflt (refine' tgi_call (K := Mine.K _) (C := 285) ?a ?b ?c ?d ?e ?f ?g ?_; (case a => k_in); (case b => kernel_rfl); (case c => exact News.get (by k_asm) (by k_mem)); (case d => decide); (case e => decide); (case f => rfl); (case g => rfl))))
set_option maxRecDepth 100000 in
set_option maxHeartbeats 8000000 in
theorem get_digest {w : World} {p : Program} {loose : List Str} {mean : ExcName → Option Value} {mg mb : Str → Option Value} : GetTells w p loose mean mg mb 271 (fun _ d _ _ _ => d) := by
  unfold GetTells
  intro dp un gd cn cs a ccd cl outer A₀ base h₀ L m news s x dx u d c sz bl Q E B F X N T hk hx hdx hd hu hret
  refine wpAny_call ?_
  k_dflt cell_enter
  k_steps
  all_goals (try k_data)
  all_goals exact hret _ _ (by k_asm) (by k_asm)
set_option maxRecDepth 100000 in
set_option maxHeartbeats 8000000 in
theorem get_size {w : World} {p : Program} {loose : List Str} {mean : ExcName → Option Value} {mg mb : Str → Option Value} : GetTells w p loose mean mg mb 277 (fun _ _ _ sz _ => sz) := by
  unfold GetTells
  intro dp un gd cn cs a ccd cl outer A₀ base h₀ L m news s x dx u d c sz bl Q E B F X N T hk hx hdx hd hu hret
  refine wpAny_call ?_
  k_dflt cell_enter
  k_steps
  all_goals (try k_data)
  all_goals exact hret _ _ (by k_asm) (by k_asm)
set_option maxRecDepth 100000 in
set_option maxHeartbeats 8000000 in
theorem get_block {w : World} {p : Program} {loose : List Str} {mean : ExcName → Option Value} {mg mb : Str → Option Value} : GetTells w p loose mean mg mb 280 (fun _ _ _ _ bl => bl) := by
  unfold GetTells
  intro dp un gd cn cs a ccd cl outer A₀ base h₀ L m news s x dx u d c sz bl Q E B F X N T hk hx hdx hd hu hret
  refine wpAny_call ?_
  k_dflt cell_enter
  k_steps
  all_goals (try k_data)
  all_goals exact hret _ _ (by k_asm) (by k_asm)
end Mine

end
section
open PySem PySem.Spec PySem.Calls PySem.W PyProof.Rows
set_option Elab.async false
namespace Mine

section
variable {prog : Program} {w : World} {M : Model} {A : Around} {E : Value → Shared → Prop} {s : Shared}

theorem grown {n k : Nat} {Q : Value → Shared → Prop} (hk : k ≤ 100000) (hn : n < 2 ^ k) (h : Q (.int (n : Int) s.toks) { s with toks := s.toks + 1 }) : wpAny M A (mkIntGrown (n : Int)) Q E s := by
  unfold mkIntGrown
  have hl : ¬ ((n : Int).natAbs.log2 ≥ bitsLine) := by
    rw [Int.natAbs_natCast]
    have hb : bitsLine = 134217728 := by first | rfl | decide
    by_cases hz : n = 0
    · subst hz
      rw [hb]
      decide
    · have h1 := (Nat.log2_lt hz).mpr hn
      omega
  rw [if_neg hl]
  exact wpAny_mkInt h

theorem tree_big {b : Array UInt8} {t u : Tok} {P : Fin → Shared → Prop} (hl : b.size ≤ 1000) (h : P (.done (.ret (.int (KFB.value (KBw.bInts b)) s.toks))) { s with toks := s.toks + 1 }) :
    wpAny M A (Builtin.«int.from_bytes» ⟨[.type "int", .bytes b t, .str (PySem.Str.ofString "big") u], []⟩) P E s := by
  have hv : ((b.toList.foldl (fun (acc : Nat) (b : UInt8) => acc * 256 + b.toNat) 0 : Nat) : Int) = KFB.value (KBw.bInts b) := KFB.fold_cast b.toList 0
  have hn : b.toList.foldl (fun (acc : Nat) (b : UInt8) => acc * 256 + b.toNat) 0 < 2 ^ (8 * b.size) := by
    have h1 := KFB.fold_lt b.toList 0
    rw [Nat.zero_add, Nat.one_mul, Array.length_toList] at h1
    have e2 : (2 : Nat) ^ 8 = 256 := by decide
    rw [Nat.pow_mul, e2]
    exact h1
  unfold Builtin.«int.from_bytes»
  refine wpAny_bind (wpAny_of_eq (a := true) KFB.type_int ?_)
  refine KFB.if_not rfl ?_
  refine wpAny_bind (wpAny_of_eq (a := true) F.conv_sub_int ?_)
  refine KFB.if_not rfl ?_
  refine wpAny_bind (wpAny_of_eq (a := [some (.bytes b t), some (.str (PySem.Str.ofString "big") u), none]) (by kernel_rfl) ?_)
  refine wpAny_bind (wpAny_of_eq (a := PySem.Str.ofString "big") (by kernel_rfl) ?_)
  refine wpAny_bind (wpAny_of_eq (a := false) rfl ?_)
  refine wpAny_bind (wpAny_of_eq (a := false) (by kernel_rfl) ?_)
  refine wpAny_bind (wpAny_of_eq (a := b) rfl ?_)
  show wpAny _ _ (mkIntGrown (b.toList.foldl (fun (acc : Int) (b : UInt8) => acc * 256 + (b.toNat : Int)) ((0 : Nat) : Int)) >>= fun v => _) _ _ _
  rw [KFB.foldI_eq]
  refine wpAny_bind (grown (k := 8 * b.size) (by omega) hn ?_)
  rw [hv]
  refine KFB.if_so (by decide +kernel) ?_
  exact wpAny_bind (wpAny_pure (wpAny_pure h))

theorem call_big {h₀ : Heap} {L : Addr} {news : List (Addr × Obj)} {x : Addr} {b : Array UInt8} {t u : Tok} {Q : Value → Shared → Prop} (N : News h₀ L s.heap news) (hm : (x, KFB.bound) ∈ news) (hl : b.size ≤ 1000)
    (h : ∀ t' k, Q (.int (KFB.value (KBw.bInts b)) t') { s with toks := k }) : wpAny (model prog w) A (call (.ref x) [.bytes b t, .str (PySem.Str.ofString "big") u]) Q E s :=
  KFB.call_of (KFB.at_of N hm) (fun z => tree_big hl z) (h _ _)

theorem tb_big {x : Int} {k : Nat} {t u v : Tok} {Q : Value → Shared → Prop} (hk : k ≤ 1000) (h0 : 0 ≤ x) (h1 : x < (256 : Int) ^ k) (h : ∀ t' k', Q (.bytes (KTBy.low x k).reverse.toArray t') { s with toks := k' }) :
    wpAny (model prog w) A (call (.builtin "int.to_bytes") [.int x t, .int (k : Int) u, .str (PySem.Str.ofString "big") v]) Q E s := by
  refine wpAny_call_entry KTBy.slot (typeIs_int s x t) KTBy.entry ?_ (KTBy.args _ _ _)
  have hb := KTBy.bits_le (k := k) rfl h0 h1
  show wpAny _ _ (Builtin.Int.intOfSelf (.int x t) >>= fun y => _) _ _ s
  refine wpAny_bind (wpAny_of_eq (a := x) rfl ?_)
  show wpAny _ _ (Builtin.Int.intBindNamed "to_bytes" ["length", "byteorder", "signed"] 0 2 [.int (k : Int) u, .str (PySem.Str.ofString "big") v] [] >>= fun l => _) _ _ s
  refine wpAny_bind (wpAny_of_eq (a := [some (.int (k : Int) u), some (.str (PySem.Str.ofString "big") v), none]) (by kernel_rfl) ?_)
  show wpAny _ _ (Builtin.Int.intIndex "int.to_bytes" (.int (k : Int) u) >>= fun n => _) _ _ s
  refine wpAny_bind (wpAny_of_eq (a := (k : Int)) rfl ?_)
  refine KTBy.if_not (by show (decide ((k : Int) < -(2 ^ 63 : Int)) || decide ((k : Int) ≥ 2 ^ 63)) = false; rw [decide_eq_false (show ¬ ((k : Int) < -(2 ^ 63 : Int)) by omega), decide_eq_false (show ¬ ((k : Int) ≥ 2 ^ 63) by omega)]; rfl) ?_
  refine wpAny_bind (wpAny_of_eq (a := PySem.Str.ofString "big") (by kernel_rfl) ?_)
  refine wpAny_bind (wpAny_of_eq (a := false) rfl ?_)
  refine wpAny_bind (wpAny_of_eq (a := false) (by kernel_rfl) ?_)
  refine wpAny_ite_false (decide_eq_false (show ¬ ((k : Int) < 0) by omega)) ?_
  refine wpAny_ite_false (decide_eq_false (show ¬ ((k : Int) > 2 ^ 63 - 1 - 33) by omega)) ?_
  refine wpAny_ite_false (decide_eq_false (show ¬ ((k : Int) > (sizeLine : Int)) by rw [sizeLine_eq]; omega)) ?_
  refine KTBy.if_not (by show (decide (x < 0) && !false) = false; rw [decide_eq_false (show ¬ x < 0 by omega)]; rfl) ?_
  refine KTBy.if_not (by show (_ && decide ((Builtin.Int.intBits x : Int) > 8 * (k : Int))) = false; rw [decide_eq_false (show ¬ ((Builtin.Int.intBits x : Int) > 8 * (k : Int)) by omega), Bool.and_false]) ?_
  refine wpAny_bind (wpAny_mkBytes (wpAny_pure ⟨_, rfl, h _ _⟩) (by show (List.reverse (KTBy.low x (Int.toNat (k : Int)))).length ≤ sizeLine; rw [List.length_reverse, KTBy.low_length, Int.toNat_natCast, sizeLine_eq]; omega))
end

/-- what a hash of one number is reckoned from -/
def lawN (b : Array UInt8) : Int := KFB.value (KBw.bInts (#[1] ++ b)) * 210306068529402873165736369884012333109 + b.size
def lawM (k : Nat) : Int := (256 : Int) ^ k - 59
@[irreducible] def lawSum (b : Array UInt8) (k : Nat) : Array UInt8 := (KTBy.low ((lawN b).fmod (lawM k)) k).reverse.toArray
theorem lawSum_eq (b : Array UInt8) (k : Nat) : lawSum b k = (KTBy.low ((lawN b).fmod (lawM k)) k).reverse.toArray := by unfold lawSum; rfl
theorem lawSum_size (b : Array UInt8) (k : Nat) : (lawSum b k).size = k := by
  unfold lawSum
  rw [List.size_toArray, List.length_reverse, KTBy.low_length]


theorem value_bits {b : Array UInt8} (_h : b.size ≤ 1000) : Builtin.Int.intBits (KFB.value (KBw.bInts b)) ≤ 8 * b.size := by
  have hv : KFB.value (KBw.bInts b) = ((b.toList.foldl (fun (acc : Nat) (b : UInt8) => acc * 256 + b.toNat) 0 : Nat) : Int) := (KFB.fold_cast b.toList 0).symm
  have h1 := KFB.fold_lt b.toList 0
  rw [Nat.zero_add, Nat.one_mul, Array.length_toList] at h1
  have e2 : (2 : Nat) ^ 8 = 256 := by decide
  refine intBits_le_iff.mpr ?_
  rw [hv, Nat.pow_mul, e2, Int.natAbs_natCast]
  exact h1
theorem mul_ok_value {b : Array UInt8} (h : b.size ≤ 1000) : IntMulOk (KFB.value (KBw.bInts b)) 210306068529402873165736369884012333109 :=
  mulOk_of_bits (value_bits h) (intBits_le_iff.mpr (show (210306068529402873165736369884012333109 : Int).natAbs < 2 ^ 128 by decide)) (by omega)
theorem lawM_pos {k : Nat} (h : 1 ≤ k) : 0 < (256 : Int) ^ k - 59 := by
  obtain ⟨j, rfl⟩ : ∃ j, k = j + 1 := ⟨k - 1, by omega⟩
  have h1 : (1 : Int) ≤ 256 ^ j := Int.pow_pos (by decide)
  rw [Int.pow_succ]
  omega
theorem lawM_ne {n : Int} (h : 1 ≤ n) : (256 : Int) ^ n.toNat - 59 ≠ 0 := by
  have := lawM_pos (k := n.toNat) (by omega)
  omega
section
variable {prog : Program} {w : World} {M : Model} {A : Around} {E : Value → Shared → Prop} {s : Shared}
theorem tb_law {b : Array UInt8} {n : Int} {t u v : Tok} {Q : Value → Shared → Prop} (h1 : 1 ≤ n) (h2 : n ≤ 1000) (h : ∀ t' k', Q (.bytes (lawSum b n.toNat) t') { s with toks := k' }) :
    wpAny (model prog w) A (call (.builtin "int.to_bytes") [.int ((KFB.value (KBw.bInts (#[1] ++ b)) * 210306068529402873165736369884012333109 + (b.size : Int)).fmod ((256 : Int) ^ n.toNat - 59)) t, .int n u, .str (PySem.Str.ofString "big") v]) Q E s := by
  obtain ⟨k, rfl⟩ := Int.eq_ofNat_of_zero_le (show (0 : Int) ≤ n by omega)
  have hp := lawM_pos (k := k) (by omega)
  have f := (fdiv_fmod_facts (KFB.value (KBw.bInts (#[1] ++ b)) * 210306068529402873165736369884012333109 + (b.size : Int)) ((256 : Int) ^ k - 59)).2.2.1 hp
  refine tb_big (k := k) (by omega) f.1 ?_ (fun t' k' => ?_)
  · have := f.2
    show (KFB.value (KBw.bInts (#[1] ++ b)) * 210306068529402873165736369884012333109 + (b.size : Int)).fmod ((256 : Int) ^ k - 59) < (256 : Int) ^ k
    omega
  · have h' := h t' k'
    rw [lawSum_eq] at h'
    exact h'
end
end Mine
namespace Mine
theorem fillUp0 : (fun (_ : OpenLaw) (_ : Params → Frag) => True) PySem.Challenge.rw_aj5026_02 Mine.K := by
  k_fill
  trivial

def SumTells (prog : Program) (w : World) (p : Program) (loose : List Str) (mean : ExcName → Option Value) (mg mb : Str → Option Value) : Prop :=
  ∀ (dp un : Nat) (gd : Option (List Code)) (cn : Str) (cs : Scope) (a : Addr) (ccd : Value) (cl : List (Str × Addr)) (outer : List Env) (A₀ : Around) (base h₀ : Heap) (L : Addr) (m : Str → Option Value) (news : List (Addr × Obj)) (s : Shared) (b : Array UInt8) (tb : Tok) (n : Int) (tn : Tok)
    (Q E : Value → Shared → Prop),
    Below A₀ base outer h₀ → Fr h₀ L s.heap m → (Mine.K w.params).In h₀ → News h₀ L s.heap news → Top p loose mean mg mb h₀ → cs.kind = .function → b.size ≤ 64 → 1 ≤ n → n ≤ 41 → dp + 1 < recursionLimit → un + 8 < cLine →
    (∀ t h' tk', Fr h₀ L h' m → News h₀ L h' news → Q (.bytes (lawSum b n.toNat) t) { s with heap := h', toks := tk' }) →
    wpAny (model prog w) (ktrTop dp un gd cn cs L a ccd cl outer) (call (.ref 302) [.bytes b tb, .int n tn]) Q E s
local macro_rules | `(tactic| walk_at "binaryOp Add bytes bytes") => `(tactic| (k_here; refine KBy.add_bytes ?sz ?_; (case sz => (show (1 : Nat) + _ ≤ _); omega); intro _ _))
local macro_rules | `(tactic| walk_at "call ref") => `(tactic| (k_here; (with_reducible show wpAny _ _ (call (Value.ref _) [Value.bytes _ _, Value.str _ _]) _ _ _); refine call_big (by k_asm) (by k_mem) (by (simp only [Array.size_append, List.size_toArray, List.length_cons, List.length_nil]); omega) ?_; intro _ _))
local macro_rules | `(tactic| walk_at "binaryOp Mult int int") => `(tactic| (k_here; refine mul_int ?_ (mul_ok_value (by (simp only [Array.size_append, List.size_toArray, List.length_cons, List.length_nil]); omega))))
local macro_rules | `(tactic| walk_at "binaryOp Mod int int") => `(tactic| (k_here; refine mod_int' (lawM_ne (by assumption)) ?_))
local macro_rules | `(tactic| walk_at "call builtin:int.to_bytes") => `(tactic| (k_here; refine tb_law (by assumption) (by omega) ?_; intro _ _))
set_option maxRecDepth 100000 in
set_option maxHeartbeats 8000000 in
theorem sumTells {w : World} {p : Program} {loose : List Str} {mean : ExcName → Option Value} {mg mb : Str → Option Value} : SumTells PySem.Challenge.pw_aj5026_02 w p loose mean mg mb := by
  unfold SumTells
  intro dp un gd cn cs a ccd cl outer A₀ base h₀ L m news s b tb n tn Q E B F X N T hk hb hn0 hn1 hd hu hret
  refine wpAny_call ?_
  k_dflt cell_enter
  k_steps
  all_goals (rename News _ _ _ _ => nE; exact hret _ _ _ (by k_asm) (fun p hp => nE p (List.mem_cons_of_mem _ hp)))
theorem sum_use {w : World} {p : Program} {loose : List Str} {mean : ExcName → Option Value} {mg mb : Str → Option Value} {dp un : Nat} {gd : Option (List Code)} {cn : Str} {cs : Scope} {a : Addr} {ccd : Value} {cl : List (Str × Addr)} {outer : List Env} {A₀ : Around} {base h₀ : Heap} {L : Addr} {m : Str → Option Value} {news : List (Addr × Obj)} {s : Shared} {b : Array UInt8} {tb : Tok} {n : Int} {tn : Tok}
    {Q E : Value → Shared → Prop} (B : Below A₀ base outer h₀) (F : Fr h₀ L s.heap m) (X : (Mine.K w.params).In h₀) (N : News h₀ L s.heap news) (T : Top p loose mean mg mb h₀) (hk : cs.kind = .function) (hb : b.size ≤ 64) (h0 : 1 ≤ n) (h1 : n ≤ 41) (hd : dp + 1 < recursionLimit) (hu : un + 8 < cLine)
    (ret : ∀ b' t h' tk', b' = lawSum b n.toNat → (b'.size : Int) = n → Fr h₀ L h' m → News h₀ L h' news → Q (.bytes b' t) { s with heap := h', toks := tk' }) :
    wpAny (model PySem.Challenge.pw_aj5026_02 w) (ktrTop dp un gd cn cs L a ccd cl outer) (call (.ref 302) [.bytes b tb, .int n tn]) Q E s :=
  sumTells _ _ _ _ _ _ _ _ _ _ _ _ _ _ _ _ _ _ _ _ _ _ B F X N T hk hb h0 h1 hd hu fun t h' tk' => ret _ t h' tk' rfl (by rw [lawSum_size]; omega)
end Mine

end
section
open PySem PySem.Spec PySem.Calls PySem.W PyProof.Rows
set_option Elab.async false
namespace Mine
theorem fillUp2 : (fun (_ : OpenLaw) (_ : Params → Frag) => True) PySem.Challenge.rw_aj5026_02 Mine.K := by
  k_fill
  trivial
theorem drop3 {α : Type} {p a b c : α} {l : List α} (h : p ∈ a :: b :: l) : p ∈ a :: b :: c :: l := by
  simp only [List.mem_cons] at h ⊢
  rcases h with h | h | h
  · exact .inl h
  · exact .inr (.inl h)
  · exact .inr (.inr (.inr h))
def HandTells (w : World) (p : Program) (loose : List Str) (mean : ExcName → Option Value) (mg mb : Str → Option Value) : Prop :=
  ∀ (dp un : Nat) (gd : Option (List Code)) (cn : Str) (cs : Scope) (a : Addr) (ccd : Value) (cl : List (Str × Addr)) (outer : List Env) (A₀ : Around) (base h₀ : Heap) (L : Addr) (m : Str → Option Value) (news : List (Addr × Obj)) (s : Shared) (u d c sz bl : Value)
    (Q E : Value → Shared → Prop),
    Below A₀ base outer h₀ → Fr h₀ L s.heap m → (Mine.K w.params).In h₀ → News h₀ L s.heap news → Top p loose mean mg mb h₀ → cs.kind = .function → dp + 1 < recursionLimit → un + 20 < cLine →
    (∀ x dx h' tk', Fr h₀ L h' m → News h₀ L h' ((x, handObj u d c sz bl dx) :: (dx, emptyDict) :: news) → (∀ q ∈ news, q.1 < dx) → @LT.lt Nat _ dx x → Q (.ref x) { s with heap := h', toks := tk' }) →
    wpAny (model PySem.Challenge.pw_aj5026_02 w) (ktrTop dp un gd cn cs L a ccd cl outer) (call (.ref 285) [u, d, c, sz, bl]) Q E s
local macro_rules | `(tactic| walk_at "getMethod type:tuple") => `(tactic| (k_here; refine' method_type ?F ?X ?m (by decide +kernel) ?e ?h ?_; (case F => k_asm); (case X => k_asm); (case m => first | rfl | kernel_rfl); (case e => k_dflt k_is); (case h => k_handed)))
local macro_rules | `(tactic| cell_enter) => `(tactic| (refine' code_def ?k1 ?k2 ?k3 ?k4 ?k5 ?kA ?kF ?kK ?k6 ?k7 ?k8 ?k9 ?kB ?_ ?c2 ?c3 ?c4 ?c5; (case kA => exact rfl); (case kF => exact rfl); (case kK => first | assumption | exact rfl); (case k1 => k_asm); (case k2 => k_asm); (case k3 => k_asm); (case k4 => k_asm); (case k5 => k_asm); (case k6 => k_is); (case k7 => k_is); (case k8 => ktr_room); (case k9 => first | exact BindsTo.of_eq rfl | exact binds_K (by k_in) rfl (by k_is) rfl rfl rfl); (case c5 => decide); (case kB => exact locs rfl); (case c2 => exact rfl); (case c3 => exact rfl); (case c4 => exact rfl); k_whole; intro g' L' h' FG' F' N' B' X' T'; (try dsimp only); (try k_lift B'); (try k_fold)))
local macro_rules | `(tactic| walk_at "call builtin:tuple.__new__") => `(tactic| (k_here; k_dflt (refine' tuple_new (K := Mine.K _) (C := 285) ?F ?N ?X ?m ?t ?c ?d ?z ?_; (case F => k_asm); (case N => k_asm); (case X => k_asm); (case m => kernel_rfl); (case t => exact News.get (by k_asm) (by k_mem)); (case c => rfl); (case d => rfl); (case z => exact Nat.le_of_ble_eq_true rfl)); intro x' dx' h' F' N' l1 l2; (try k_lt l1); (try k_lt2 l2)))
set_option maxRecDepth 100000 in
set_option maxHeartbeats 8000000 in
theorem hand_made {w : World} {p : Program} {loose : List Str} {mean : ExcName → Option Value} {mg mb : Str → Option Value} : HandTells w p loose mean mg mb := by
  unfold HandTells
  intro dp un gd cn cs a ccd cl outer A₀ base h₀ L m news s u d c sz bl Q E B F X N T hk hd hu hret
  refine wpAny_call ?_
  k_dflt (refine' make_new (K := Mine.K w.params) (C := 285) (f := 226) (p := 286) F X (by kernel_rfl) ?a ?b ?c ?d (by k_handed) ?_; (case a => k_is); (case b => k_is); (case c => k_is); (case d => k_is))
  k_dflt cell_enter
  k_steps
  all_goals (
    rename News _ _ _ _ => nE
    rename _ ∧ AllLt _ _ => lE
    exact ⟨_, _, rfl, (nE _ (.head _)).1, rfl, Frag.In.keeps (by k_asm) (Fr.keep (by k_asm)), hret _ _ _ _ (by k_asm) (fun p hp => nE p (drop3 hp)) (kst_ltOf lE.2) (by assumption)⟩)

set_option maxRecDepth 100000 in
theorem hand_digest {w : World} {p : Program} {loose : List Str} {mean : ExcName → Option Value} {mg mb : Str → Option Value} {dp un : Nat} {gd : Option (List Code)} {cn : Str} {cs : Scope} {a : Addr} {ccd : Value} {cl : List (Str × Addr)} {outer : List Env} {A₀ : Around} {base h₀ : Heap} {L : Addr} {m : Str → Option Value} {news : List (Addr × Obj)} {s : Shared} {x dx : Addr} {u d c sz bl : Value} {pl : Sem Bool} {Q : Value × List Value → Shared → Prop} {E : Value → Shared → Prop} (B : Below A₀ base outer h₀) (F : Fr h₀ L s.heap m) (X : (Mine.K w.params).In h₀) (N : News h₀ L s.heap news) (T : Top p loose mean mg mb h₀) (hk : cs.kind = .function) (hx : (x, handObj u d c sz bl dx) ∈ news) (hdx : (dx, emptyDict) ∈ news) (hd : dp + 1 < recursionLimit) (hu : un + 20 < cLine) (hh : handedIn d = true)
    (ret : ∀ h' tk', Fr h₀ L h' m → News h₀ L h' news → Q (d, []) { s with heap := h', toks := tk' }) :
    wpAny (model PySem.Challenge.pw_aj5026_02 w) (ktrTop dp un gd cn cs L a ccd cl outer) (getMethod (.ref x) (PySem.Str.ofString "digest") pl) Q E s := by
  k_dflt (refine' method_tup (K := Mine.K w.params) (C := 285) (X.keeps F.keep) (inst_seq N hx hdx) ?fg ?fs ?ff ?fk ?fa ?ft ?fn ?_)
  case fg => k_is
  case fs => kernel_rfl
  case ff => exact findObj_data (K := Mine.K w.params) (C := 285) (by kernel_rfl) (by k_is) (by k_is) (by k_is)
  case fk => k_is
  case fa => k_is
  case ft => k_is
  case fn => decide
  intro A' f1 f2 f3 f4
  obtain ⟨ha', da', fa', ga', ua'⟩ := A'
  dsimp only [ktrTop] at f1 f2 f3 f4
  subst f1 f2 f4
  exact get_digest _ _ _ _ _ _ _ _ _ _ _ _ _ _ _ _ _ _ _ _ _ _ _ _ _ B F X N T hk hx hdx hd (by omega) fun h' tk' F' N' => ⟨hh, ret h' tk' F' N'⟩

set_option maxRecDepth 100000 in
theorem hand_size {w : World} {p : Program} {loose : List Str} {mean : ExcName → Option Value} {mg mb : Str → Option Value} {dp un : Nat} {gd : Option (List Code)} {cn : Str} {cs : Scope} {a : Addr} {ccd : Value} {cl : List (Str × Addr)} {outer : List Env} {A₀ : Around} {base h₀ : Heap} {L : Addr} {m : Str → Option Value} {news : List (Addr × Obj)} {s : Shared} {x dx : Addr} {u d c sz bl : Value} {expr : Bool} {Q : Value → Shared → Prop} {E : Value → Shared → Prop} (B : Below A₀ base outer h₀) (F : Fr h₀ L s.heap m) (X : (Mine.K w.params).In h₀) (N : News h₀ L s.heap news) (T : Top p loose mean mg mb h₀) (hk : cs.kind = .function) (hx : (x, handObj u d c sz bl dx) ∈ news) (hdx : (dx, emptyDict) ∈ news) (hd : dp + 1 < recursionLimit) (hu : un + 20 < cLine) (hh : handedIn sz = true)
    (ret : ∀ h' tk', Fr h₀ L h' m → News h₀ L h' news → Q sz { s with heap := h', toks := tk' }) :
    wpAny (model PySem.Challenge.pw_aj5026_02 w) (ktrTop dp un gd cn cs L a ccd cl outer) (getAttr (.ref x) (PySem.Str.ofString "digest_size") expr) Q E s := by
  k_dflt (refine' get_tup (K := Mine.K w.params) (C := 285) (X.keeps F.keep) (inst_seq N hx hdx) ?fg ?fs ?ff ?fk ?_)
  case fg => k_is
  case fs => kernel_rfl
  case ff => exact findObj_data (K := Mine.K w.params) (C := 285) (by kernel_rfl) (by k_is) (by k_is) (by k_is)
  case fk => k_is
  skip
  intro A' f1 f2 f3 f4
  obtain ⟨ha', da', fa', ga', ua'⟩ := A'
  dsimp only [ktrTop] at f1 f2 f3 f4
  subst f1 f2 f4
  exact get_size _ _ _ _ _ _ _ _ _ _ _ _ _ _ _ _ _ _ _ _ _ _ _ _ _ B F X N T hk hx hdx hd (by omega) fun h' tk' F' N' => ⟨hh, ret h' tk' F' N'⟩

set_option maxRecDepth 100000 in
theorem hand_block {w : World} {p : Program} {loose : List Str} {mean : ExcName → Option Value} {mg mb : Str → Option Value} {dp un : Nat} {gd : Option (List Code)} {cn : Str} {cs : Scope} {a : Addr} {ccd : Value} {cl : List (Str × Addr)} {outer : List Env} {A₀ : Around} {base h₀ : Heap} {L : Addr} {m : Str → Option Value} {news : List (Addr × Obj)} {s : Shared} {x dx : Addr} {u d c sz bl : Value} {expr : Bool} {Q : Value → Shared → Prop} {E : Value → Shared → Prop} (B : Below A₀ base outer h₀) (F : Fr h₀ L s.heap m) (X : (Mine.K w.params).In h₀) (N : News h₀ L s.heap news) (T : Top p loose mean mg mb h₀) (hk : cs.kind = .function) (hx : (x, handObj u d c sz bl dx) ∈ news) (hdx : (dx, emptyDict) ∈ news) (hd : dp + 1 < recursionLimit) (hu : un + 20 < cLine) (hh : handedIn bl = true)
    (ret : ∀ h' tk', Fr h₀ L h' m → News h₀ L h' news → Q bl { s with heap := h', toks := tk' }) :
    wpAny (model PySem.Challenge.pw_aj5026_02 w) (ktrTop dp un gd cn cs L a ccd cl outer) (getAttr (.ref x) (PySem.Str.ofString "block_size") expr) Q E s := by
  k_dflt (refine' get_tup (K := Mine.K w.params) (C := 285) (X.keeps F.keep) (inst_seq N hx hdx) ?fg ?fs ?ff ?fk ?_)
  case fg => k_is
  case fs => kernel_rfl
  case ff => exact findObj_data (K := Mine.K w.params) (C := 285) (by kernel_rfl) (by k_is) (by k_is) (by k_is)
  case fk => k_is
  skip
  intro A' f1 f2 f3 f4
  obtain ⟨ha', da', fa', ga', ua'⟩ := A'
  dsimp only [ktrTop] at f1 f2 f3 f4
  subst f1 f2 f4
  exact get_block _ _ _ _ _ _ _ _ _ _ _ _ _ _ _ _ _ _ _ _ _ _ _ _ _ B F X N T hk hx hdx hd (by omega) fun h' tk' F' N' => ⟨hh, ret h' tk' F' N'⟩

theorem hand_use {w : World} {p : Program} {loose : List Str} {mean : ExcName → Option Value} {mg mb : Str → Option Value} {dp un : Nat} {gd : Option (List Code)} {cn : Str} {cs : Scope} {a : Addr} {ccd : Value} {cl : List (Str × Addr)} {outer : List Env} {A₀ : Around} {base h₀ : Heap} {L : Addr} {m : Str → Option Value} {news : List (Addr × Obj)} {s : Shared} {u d c sz bl : Value} {Q E : Value → Shared → Prop} (B : Below A₀ base outer h₀) (F : Fr h₀ L s.heap m) (X : (Mine.K w.params).In h₀) (N : News h₀ L s.heap news) (T : Top p loose mean mg mb h₀) (hk : cs.kind = .function) (hd : dp + 1 < recursionLimit) (hu : un + 20 < cLine)
    (ret : ∀ x dx h' tk', Fr h₀ L h' m → News h₀ L h' ((x, handObj u d c sz bl dx) :: (dx, emptyDict) :: news) → (∀ q ∈ news, q.1 < dx) → @LT.lt Nat _ dx x → Q (.ref x) { s with heap := h', toks := tk' }) :
    wpAny (model PySem.Challenge.pw_aj5026_02 w) (ktrTop dp un gd cn cs L a ccd cl outer) (call (.ref 285) [u, d, c, sz, bl]) Q E s :=
  hand_made _ _ _ _ _ _ _ _ _ _ _ _ _ _ _ _ _ _ _ _ _ _ _ B F X N T hk hd hu ret
end Mine

end
section
open PySem PySem.Spec PySem.Calls PySem.W PyProof.Rows
set_option Elab.async false
namespace Mine
theorem fillUp3 : (fun (_ : OpenLaw) (_ : Params → Frag) => True) PySem.Challenge.rw_aj5026_02 Mine.K := by
  k_fill
  trivial
def SizesTells (w : World) (p : Program) (loose : List Str) (mean : ExcName → Option Value) (mg mb : Str → Option Value) : Prop :=
  ∀ (dp un : Nat) (gd : Option (List Code)) (cn : Str) (cs : Scope) (a : Addr) (ccd : Value) (cl : List (Str × Addr)) (outer : List Env) (A₀ : Around) (base h₀ : Heap) (L : Addr) (m : Str → Option Value) (news : List (Addr × Obj)) (s : Shared) (i : Int) (ti : Tok)
    (Q E : Value → Shared → Prop),
    Below A₀ base outer h₀ → Fr h₀ L s.heap m → (Mine.K w.params).In h₀ → News h₀ L s.heap news → Top p loose mean mg mb h₀ → cs.kind = .function → dp + 1 < recursionLimit → un + 8 < cLine →
    (∀ x n bl t1 t2 h' tk', Fr h₀ L h' m → News h₀ L h' ((x, { cls := .type "tuple", data := .seq #[.int n t1, .int bl t2] }) :: news) → (∀ q ∈ news, q.1 < x) → 5 ≤ n → n ≤ 20 → Q (.ref x) { s with heap := h', toks := tk' }) →
    wpAny (model PySem.Challenge.pw_aj5026_02 w) (ktrTop dp un gd cn cs L a ccd cl outer) (call (.ref 316) [.int i ti]) Q E s
theorem item4 {prog : Program} {w : World} {A : Around} {E : Value → Shared → Prop} {s : Shared} {value slice : PySem.Expr} {l : Addr} {x0 x1 x2 x3 : Value} {c : Nat} {i : Int} {u : Tok} {Q : Value → Shared → Prop} {h₀ : Heap} {L : Addr} {news : List (Addr × Obj)}
    (N : News h₀ L s.heap news) (hm : (l, W.listOf #[x0, x1, x2, x3] c) ∈ news) (h : ∀ v, v = x0 ∨ v = x1 ∨ v = x2 ∨ v = x3 → Q v s)
    (hs : subscripted slice false (.ref l) (.int (i.fmod 4) u) = operate [.ref l, .int (i.fmod 4) u] (getItem (.ref l) (.int (i.fmod 4) u)) := by with_unfolding_all rfl) :
    wpAny (model prog w) A (subscriptTail value slice (.ref l) (.int (i.fmod 4) u)) Q E s := by
  have f := (fdiv_fmod_facts i 4).2.2.1 (by decide)
  have hl : s.heap.IsList l #[x0, x1, x2, x3] := ⟨_, (N _ hm).1, rfl, c, rfl⟩
  have go : ∀ (j : Nat) (v : Value), i.fmod 4 = (j : Int) → (#[x0, x1, x2, x3] : Array Value)[(i.fmod 4).toNat]? = some v → (v = x0 ∨ v = x1 ∨ v = x2 ∨ v = x3) → wpAny (model prog w) A (subscriptTail value slice (.ref l) (.int (i.fmod 4) u)) Q E s := fun j v ej hx hv =>
    tail_any hl.typeIs slot_list_getitem.lookup (wpAny_getItem_list hl (by omega) (by omega) (by simpa using hx) (h v hv)) hs
  have : i.fmod 4 = 0 ∨ i.fmod 4 = 1 ∨ i.fmod 4 = 2 ∨ i.fmod 4 = 3 := by omega
  rcases this with e | e | e | e
  · exact go 0 x0 (by omega) (by rw [e]; rfl) (.inl rfl)
  · exact go 1 x1 (by omega) (by rw [e]; rfl) (.inr (.inl rfl))
  · exact go 2 x2 (by omega) (by rw [e]; rfl) (.inr (.inr (.inl rfl)))
  · exact go 3 x3 (by omega) (by rw [e]; rfl) (.inr (.inr (.inr rfl)))
local macro_rules | `(tactic| walk_at "subscriptTail") => `(tactic| (k_here; k_dflt (refine' item4 ?N ?m ?_; (case N => k_asm); (case m => k_mem)); intro v9 hv9))
set_option maxRecDepth 100000 in
set_option maxHeartbeats 8000000 in
theorem sizes_tells {w : World} {p : Program} {loose : List Str} {mean : ExcName → Option Value} {mg mb : Str → Option Value} : SizesTells w p loose mean mg mb := by
  unfold SizesTells
  intro dp un gd cn cs a ccd cl outer A₀ base h₀ L m news s i ti Q E B F X N T hk hd hu hret
  refine wpAny_call ?_
  k_dflt cell_enter
  k_steps
  all_goals (
    rename News _ _ _ _ => nE
    rename _ ∨ _ => hv
    rcases hv with rfl | rfl | rfl | rfl
    all_goals exact hret _ _ _ _ _ _ _ (by k_asm) (cb_drop nE (by kcj_all)) (by repeat (first | assumption | exact kst_ltOf (by assumption) | (rename _ ∧ _ => hA; obtain ⟨hA1, hA2⟩ := hA))) (by decide) (by decide))
theorem sizes_use {w : World} {p : Program} {loose : List Str} {mean : ExcName → Option Value} {mg mb : Str → Option Value} {dp un : Nat} {gd : Option (List Code)} {cn : Str} {cs : Scope} {a : Addr} {ccd : Value} {cl : List (Str × Addr)} {outer : List Env} {A₀ : Around} {base h₀ : Heap} {L : Addr} {m : Str → Option Value} {news : List (Addr × Obj)} {s : Shared} {i : Int} {ti : Tok} {Q E : Value → Shared → Prop} (B : Below A₀ base outer h₀) (F : Fr h₀ L s.heap m) (X : (Mine.K w.params).In h₀) (N : News h₀ L s.heap news) (T : Top p loose mean mg mb h₀) (hk : cs.kind = .function) (hd : dp + 1 < recursionLimit) (hu : un + 8 < cLine)
    (ret : ∀ x n bl t1 t2 h' tk', Fr h₀ L h' m → News h₀ L h' ((x, { cls := .type "tuple", data := .seq #[.int n t1, .int bl t2] }) :: news) → (∀ q ∈ news, q.1 < x) → 5 ≤ n → n ≤ 20 → Q (.ref x) { s with heap := h', toks := tk' }) :
    wpAny (model PySem.Challenge.pw_aj5026_02 w) (ktrTop dp un gd cn cs L a ccd cl outer) (call (.ref 316) [.int i ti]) Q E s :=
  sizes_tells _ _ _ _ _ _ _ _ _ _ _ _ _ _ _ _ _ _ _ _ B F X N T hk hd hu ret
section
variable {prog : Program} {w : World} {A : Around} {E : Value → Shared → Prop} {s : Shared} {h₀ : Heap} {L : Addr} {m : Str → Option Value} {news : List (Addr × Obj)}
theorem slice_tuple2 {value slice : PySem.Expr} {t : Addr} {items : Array Value} {n : Nat} {u : Tok} {Q : Value → Shared → Prop} {zs : List Value}
    (F : Fr h₀ L s.heap m) (N : News h₀ L s.heap news) (ht : (t, { cls := .type "tuple", data := .seq items n }) ∈ news) (ha : 2 ≤ items.size) (hz : items.size ≤ 1000) (e : items.toList.drop 2 = zs)
    (h : ∀ D h', Fr h₀ L h' m → News h₀ L h' ((D, { cls := .type "tuple", data := .seq zs.toArray }) :: news) → (∀ p ∈ news, p.1 < D) → Q (.ref D) { s with heap := h' })
    (hs : subscripted slice false (.ref t) (.ref s.heap.objs.size) = operate [.ref s.heap.objs.size, .ref t] (getItem (.ref t) (.ref s.heap.objs.size)))
    (hg : ∀ r, letTemporaryGo value (.ref t) r = pure ()) :
    wpAny (model prog w) A (subscriptTail value slice (.ref t) (.ref s.heap.objs.size)) Q E { s with heap := s.heap.push { cls := .type "slice", data := .fields #[.int 2 u, .none, .none] } } := by
  refine slice_tuple_from (a := 2) F N ⟨_, (N _ ht).1, rfl, n, rfl⟩ (by decide) ha (fun h' F' N' => ?_) hs hg (by rw [sizeLine_eq]; omega)
  rw [e] at N'
  exact h _ h' F' N' fun p hp => Nat.lt_succ_of_lt (Heap.lt_size (N p hp).1)
end
end Mine

end
section
open PySem PySem.Spec PySem.Calls PySem.W PyProof.Rows
set_option Elab.async false
namespace Mine
set_option maxRecDepth 100000
theorem tit_next : typeLookup (.type "tuple_iterator") "__next__" = pure (some (.builtin "tuple_iterator.__next__")) := by rw [typeLookup_type, builtinLookup_eq_fast]; kernel_rfl
section
variable {prog : Program} {w : World} {A : Around} {E : Value → Shared → Prop} {s : Shared}
theorem draw_tuple {it t : Addr} {items : Array Value} (hne : t ≠ it) : ∀ (n i : Nat) (s : Shared) (Q : List Value → Shared → Prop), s.heap.IsTupleIter it t i → s.heap.IsTuple t items → i + n ≤ items.size →
    (∀ h', h'.IsTupleIter it t (i + n) → Heap.SameBut it s.heap h' → Q ((items.toList.drop i).take n) { s with heap := h' }) → wpAny (model prog w) A (draw (.ref it) n) Q E s
  | 0, i, s, Q, hit, _, _, hQ => by
    show wpAny _ _ (pure []) Q E s
    exact wpAny_pure (by simpa using hQ s.heap hit (Heap.SameBut.refl ..))
  | n + 1, i, s, Q, hit, hl, hle, hQ => by
    have hlt : i < items.size := by omega
    show wpAny _ _ (pyNext (.ref it) >>= _) Q E s
    refine wpAny_bind (wpAny_pyNext_tuple_item hit hl (x := items[i]) (by simp [hlt]) fun h₁ hit₁ hs₁ => ?_)
    have hl1 : h₁.IsTuple t items := by
      obtain ⟨o, ho, r⟩ := hl
      exact ⟨o, (hs₁.2 t hne).trans ho, r⟩
    refine wpAny_bind (wpAny_holding (draw_tuple hne n (i + 1) _ _ hit₁ hl1 (by omega) fun h₂ hit₂ hs₂ => wpAny_pure ?_))
    have hd : items.toList.drop i = items[i] :: items.toList.drop (i + 1) := by simp [List.drop_eq_getElem_cons, hlt]
    have := hQ h₂ (by rw [show i + (n + 1) = i + 1 + n by omega]; exact hit₂) (hs₁.trans hs₂)
    rw [hd, List.take_succ_cons] at this
    exact this
/-- what the own __iter__ must hand back: a fresh iterator over a tuple of so many items -/
def IterBack (n : Nat) (Q : List Value → Shared → Prop) (v : Value) (s : Shared) : Prop :=
  ∃ it t items, v = .ref it ∧ t ≠ it ∧ s.heap.IsTupleIter it t 0 ∧ s.heap.IsTuple t items ∧ items.size = n ∧ ∀ h', Heap.ExtBut it s.heap h' → Q items.toList { s with heap := h' }
theorem unpack_own {K : Frag} {h₀ : Heap} {L x C f : Addr} {m : Str → Option Value} {ox : Obj} {od : Option Obj} {n : Nat} {Q : List Value → Shared → Prop} (F : Fr h₀ L s.heap m) (X₀ : K.In h₀) (I : InstAt s.heap x ox C od) (hs : findIn K (.ref C) "__iter__" = some (some (.ref f))) (hf : isFn K (.ref f) = true) (hh : A.handled = none)
    (h : wpAny (model prog w) A (call (.ref f) [.ref x]) (IterBack n Q) E s) : wpAny (model prog w) A (unpackItems (.ref x) n none) Q E s := by
  have X := X₀.keeps F.keep
  unfold unpackItems
  refine wpAny_bind ?_
  unfold notIterableAtAll
  refine wpAny_bind (wpAny_bind (I.type.here ((looks_findIn X hs).here ?_)))
  refine wpAny_pure ?_
  simp only [Bool.false_eq_true, if_false]
  refine wpAny_bind (wpAny_holding (owit_iter F X₀ I hs hf (wpAny_mono h (fun v s' hv => ?_) fun _ _ z => z)))
  obtain ⟨it, t, items, rfl, hne, hit, ht, hn, hq⟩ := hv
  unfold OwitIt
  refine wpAny_bind (wpAny_typeOf hit.typeIs (wpAny_of_eq tit_next ?_))
  refine wpAny_bind (wpAny_holding (draw_tuple hne n 0 _ _ hit ht (by omega) fun h₁ hit₁ hs₁ => ?_))
  have hall : List.take n (List.drop 0 items.toList) = items.toList := by
    rw [List.drop_zero]; exact List.take_of_length_le (by simp; omega)
  rw [hall]
  rw [if_neg (by simp; omega)]
  have hl₁ : h₁.IsTuple t items := by
    obtain ⟨o, ho, r⟩ := ht
    exact ⟨o, (hs₁.2 t hne).trans ho, r⟩
  refine wpAny_bind (wpAny_holding (wpAny_pyNext_tuple_end hh hit₁ hl₁ (by simp; omega) fun h₂ he₂ => ?_))
  simp only [Option.isSome_none, Bool.false_eq_true, if_false]
  exact wpAny_pure (hq h₂ fun b o hb e => he₂ b o hb (hs₁.extBut b o hb e))
theorem assign_own {K : Frag} {h₀ : Heap} {L x C f : Addr} {m : Str → Option Value} {ox : Obj} {od : Option Obj} {n k : Nat} {elts : List PySem.Expr} {pos : Pos} {env : Env} {Q : Unit → Shared → Prop} (F : Fr h₀ L s.heap m) (X₀ : K.In h₀) (I : InstAt s.heap x ox C od) (hs : findIn K (.ref C) "__iter__" = some (some (.ref f))) (hf : isFn K (.ref f) = true) (hh : A.handled = none)
    (hn : (assignEach elts env).length = n) (hstar : (assignEach elts env).findIdx? (·.1) = none)
    (h : wpAny (model prog w) A (call (.ref f) [.ref x]) (IterBack n fun items s' => wpAny (model prog w) A (assignInOrder ((assignEach elts env).map (·.2)) items) Q E s') E s) :
    wpAny (model prog w) A (assign (.Tuple elts k pos) env (.ref x)) Q E s := by
  rw [assign_Tuple]
  refine wpAny_bind (wpAny_standAt ?_)
  unfold unpack
  rw [hn, hstar]
  exact wpAny_bind (wpAny_holding (unpack_own F X₀ I hs hf hh h))
theorem iter_back {h₀ : Heap} {L it t : Addr} {m : Str → Option Value} {news : List (Addr × Obj)} {vs : Array Value} {c n : Nat} {Q : List Value → Shared → Prop} {s' : Shared} (F : Fr h₀ L s'.heap m) (N : News h₀ L s'.heap ((it, { cls := .type "tuple_iterator", data := .fields #[.ref t, .int 0 0] }) :: news))
    (hm : (t, { cls := .type "tuple", data := .seq vs c }) ∈ news) (hlt : ∀ q ∈ news, q.1 < it) (hn : vs.size = n) (h : ∀ h', Fr h₀ L h' m → News h₀ L h' news → Q vs.toList { s' with heap := h' }) : IterBack n Q (.ref it) s' := by
  have hi := N _ (.head _)
  refine ⟨it, t, vs, rfl, Nat.ne_of_lt (hlt _ hm), ⟨_, hi.1, rfl, rfl⟩, ⟨_, (N _ (.tail _ hm)).1, rfl, c, rfl⟩, hn, fun h' he => h h' ?_ fun q hq => ?_⟩
  · exact ⟨F.ns.extBut he (Ne.symm hi.2.1), fun b o e => he b o (fun z => by rw [z, hi.2.2] at e; cases e) (F.keep b o e), F.above⟩
  · have n := N q (.tail _ hq)
    exact ⟨he _ _ (Nat.ne_of_lt (hlt q hq)) n.1, n.2⟩
theorem iter_tuple {h₀ : Heap} {L t : Addr} {m : Str → Option Value} {news : List (Addr × Obj)} {vs : Array Value} {c : Nat} {Q : Value → Shared → Prop} (F : Fr h₀ L s.heap m) (N : News h₀ L s.heap news) (hm : (t, { cls := .type "tuple", data := .seq vs c }) ∈ news)
    (h : ∀ it h', Fr h₀ L h' m → News h₀ L h' ((it, { cls := .type "tuple_iterator", data := .fields #[.ref t, .int 0 0] }) :: news) → (∀ q ∈ news, q.1 < it) → Q (.ref it) { s with heap := h' }) :
    wpAny (model prog w) A (call (.builtin "iter") [.ref t]) Q E s := by
  refine call_function_entry (by decide +kernel) (by decide +kernel) kdk_entry_iter (kdk_args_iter _) ?_
  unfold Builtin.«iter»
  refine wpAny_bind (wpAny_pure ?_)
  refine wpAny_bind (wpAny_pyIter_tuple ⟨_, (N _ hm).1, rfl, c, rfl⟩ ?_)
  exact wpAny_pure ⟨_, rfl, h _ _ (F.push _) (News.push F N _ rfl) fun q hq => Heap.lt_size (N q hq).1⟩
end
end Mine

end
section
open PySem PySem.Spec PySem.Calls PySem.W PyProof.Rows
set_option Elab.async false
namespace Mine
def lawIter (k : Nat) : Nat → Array UInt8 → Array UInt8
  | 0, b => b
  | r + 1, b => lawSum (lawIter k r b) k
abbrev blockName : Str := PySem.Str.ofString "block"
section
variable {prog : Program} {w : World} {A : Around} {E : Value → Shared → Prop} {s : Shared} {env : Env} {h₀ : Heap} {x : Str} {body : List Stmt} {Q : Flow → Shared → Prop}
theorem kstB_one (g : Str → Option Value → Option Value) (m : Str → Option Value) (l : Str) (v : Value) : (fun y => g y (kstB m [(l, v)] y)) = fun y => g y (if y = l then some v else m y) := by
  funext y
  congr 1
theorem rounds_loop {l : Str} {kk : Nat} {b0 : Array UInt8} {t0 : Tok} {r : Addr} {R : Int} {t₀ u₀ v₀ : Tok} {m₀ : Str → Option Value} {news : List (Addr × Obj)}
    (hh : A.handled = none) (hr : IsRange s.heap r 0 R 1 t₀ u₀ v₀) (h1 : 1 ≤ R) (h2 : R ≤ 12) (F : Fr h₀ env.locals s.heap m₀) (N : News h₀ env.locals s.heap news) (hm : m₀ l = some (.bytes b0 t0)) (hb : b0.size ≤ 64)
    (turn : ∀ (b : Array UInt8) (tb : Tok) (pre : List Int) (k : Int) (t : Tok) (u : Str → Option Value) h tk own, b = lawIter kk pre.length b0 → b.size ≤ 64 → OwnOff own (news.map (·.1)) →
      Fr h₀ env.locals h (fun y => if y = x then some (.int k t) else if y = l then some (.bytes b tb) else m₀ y) → News h₀ env.locals h (news ++ own) →
      wpAny (model prog w) A (execs body env) (InvPostN h₀ env.locals (KstS (σ := Array UInt8 × Nat) (fun _ => news) (fun c => [(l, .bytes c.1 c.2)]) (fun _ => True) x [] m₀ (fun pre c => c.1 = lawIter kk pre.length b0 ∧ c.1.size ≤ 64) (pre ++ [k])) own (news.map (·.1)) { s with heap := h, toks := tk } Q) E { s with heap := h, toks := tk })
    (done : ∀ (b : Array UInt8) (tb : Tok) (u : Str → Option Value) h tk, b = lawIter kk R.toNat b0 → b.size ≤ 64 → Fr h₀ env.locals h (fun y => if y = x then u y else if y = l then some (.bytes b tb) else m₀ y) → News h₀ env.locals h news → Q .next { s with heap := h, toks := tk }) :
    wpAny (model prog w) A (pyIter (.ref r)) (fun it s₂ => LoopAtV prog w A h₀ env x body Q E it s₂) E s := by
  refine kst_range (σ := Array UInt8 × Nat) (n := R.toNat) (fun _ => news) (fun c => [(l, .bytes c.1 c.2)]) (fun _ => True) [] (fun pre c => c.1 = lawIter kk pre.length b0 ∧ c.1.size ≤ 64) (b0, t0) hh hr
    (small_one (by omega) (by omega) (by omega) (by omega)) ?_ F N trivial ?_ ⟨rfl, hb⟩ ?_ ?_
  · have e : R = 0 + ((R.toNat : Nat) : Int) := by omega
    have := rangeSize_nat 0 R
    simpa using this
  · intro p hp
    cases hp with
    | head => exact hm
    | tail _ h => cases h
  · rintro ⟨b, tb⟩ pre k t u h tk own _ _ hoff _ ⟨hp1, hp2⟩ F1 N1
    exact turn b tb pre k t u h tk own hp1 hp2 hoff (kstB_one (fun z r => if z = x then some (.int k t) else r) _ _ _ ▸ F1) N1
  · rintro ⟨b, tb⟩ u h tk _ ⟨hp1, hp2⟩ F1 N1
    rw [rangeKs_length] at hp1
    exact done b tb u h tk hp1 hp2 (kstB_one (fun z r => if z = x then u z else r) _ _ _ ▸ F1) N1
/-- a turn's end -/
theorem rounds_end {l : Str} {kk : Nat} {b0 b : Array UInt8} {tb : Tok} {m₀ m' : Str → Option Value} {news news' own : List (Addr × Obj)} {pre : List Int} {k : Int} {L : Addr} {s₁ : Shared} {h' : Heap} {tk : Nat}
    (F : Fr h₀ L h' m') (N : News h₀ L h' news') (hn : ∀ p ∈ news, p ∈ news') (ho : ∀ p ∈ own, p ∈ news') (hk : m' l = some (.bytes b tb)) (hr : ∀ z, z ≠ x → z ≠ l → m' z = m₀ z) (hp : b = lawSum (lawIter kk pre.length b0) kk) (hs : b.size ≤ 64) :
    InvEndN h₀ L (KstS (σ := Array UInt8 × Nat) (fun _ => news) (fun c => [(l, .bytes c.1 c.2)]) (fun _ => True) x [] m₀ (fun pre c => c.1 = lawIter kk pre.length b0 ∧ c.1.size ≤ 64) (pre ++ [k])) own (news.map (·.1)) s₁ { s₁ with heap := h', toks := tk } := by
  refine kst_end (b, tb) F N hn ho rfl trivial ?_ (fun z h1 h2 _ => hr z h1 (h2 _ (.head _))) ⟨?_, hs⟩
  · intro p hp
    cases hp with
    | head => exact hk
    | tail _ h => cases h
  · show b = lawIter kk (pre ++ [k]).length b0
    rw [List.length_append]
    exact hp
end
end Mine

end
section
open PySem PySem.Spec PySem.Calls PySem.W PyProof.Rows
set_option Elab.async false
namespace Mine
section
variable {prog : Program} {w : World} {A : Around} {E : Value → Shared → Prop} {s : Shared} {value slice : PySem.Expr} {b : Array UInt8} {t : Tok} {h₀ : Heap} {L : Addr} {m : PySem.Str → Option Value} {news : List (Addr × Obj)} {l u : Value} {lo hi : Option Int} {Q : Value → Shared → Prop}
/-- a cut of bytes, as a fresh value with its equation -/
theorem slice_b (hF : Fr h₀ L s.heap m) (hN : News h₀ L s.heap news) (hl : IsPart l lo) (hu : IsPart u hi) (hz : b.size ≤ 64)
    (h : ∀ h' d t' k, d = KBy.picked b lo hi → Fr h₀ L h' m → News h₀ L h' news → Q (.bytes d t') { s with heap := h', toks := k })
    (hs : subscripted slice false (.bytes b t) (.ref s.heap.objs.size) = operate [.ref s.heap.objs.size, .bytes b t] (getItem (.bytes b t) (.ref s.heap.objs.size)))
    (ht : ∀ r, letTemporaryGo value (.bytes b t) r = pure ()) :
    wpAny (model prog w) A (subscriptTail value slice (.bytes b t) (.ref s.heap.objs.size)) Q E { s with heap := s.heap.push { cls := .type "slice", data := .fields #[l, u, .none] } } :=
  KBc.slice_K hF hN rfl hl hu (by rw [KBw.ints_length]; omega) (fun h' t' k F N _ => h h' _ t' k rfl F N) hs ht
end
/-- the first k bytes -/
theorem picked_to (b : Array UInt8) {k : Int} (h0 : 0 ≤ k) : KBy.picked b none (some k) = (b.toList.take k.toNat).toArray := by
  obtain ⟨n, rfl⟩ := Int.eq_ofNat_of_zero_le h0
  rw [KBc.picked_eq]
  simp only [Option.elim, clipAt_nat, List.drop_zero, Nat.sub_zero, Int.toNat_natCast]
  congr 1
  rw [List.take_eq_take_iff]
  simp
theorem picked_from (b : Array UInt8) {k : Int} (h0 : 0 ≤ k) : KBy.picked b (some k) none = (b.toList.drop k.toNat).toArray := by
  obtain ⟨n, rfl⟩ := Int.eq_ofNat_of_zero_le h0
  rw [KBc.picked_eq]
  simp only [Option.elim, clipAt_nat, Int.toNat_natCast]
  congr 1
  rw [List.take_of_length_le (by simp)]
  by_cases hn : n ≤ b.size
  · rw [Nat.min_eq_left hn]
  · rw [Nat.min_eq_right (by omega), List.drop_of_length_le (by simp), List.drop_of_length_le (by simp; omega)]
end Mine

end
section
open PySem PySem.Spec PySem.Calls PySem.W PyProof.Rows
set_option Elab.async false
namespace Mine
theorem methodCall_at {M : Model} {A : Around} {E : Value → Shared → Prop} {s : Shared} {Q : Value → Shared → Prop} {x : PySem.Expr} {n name : Str} {p1 p3 p4 p5 : Pos} {env : Env} {pl : Sem Bool} (hp : (p4.endLine == p5.line) = true)
    (h : wpAny M A (eval (.Call (.Name n p1) [x] [] p3) env) (fun ov s₁ => wpAny M A (getMethod ov name pl) (fun fx s₂ => wpAny M A (callWith p5 fx.1 fx.2 (backTo p5 (starEach [] env)) []) Q E s₂) E s₁) E s)
    (hpl : pl = (do return (← importBound (.Call (.Name n p1) [x] [] p3) env).getD true)) : wpAny M A (eval (.Call (.Attribute (.Call (.Name n p1) [x] [] p3) name p4) [] [] p5) env) Q E s := by
  refine MethodCall_ h ?_
  have e1 : methodCallPos true (.Call (.Name n p1) [x] [] p3) env p4 p5 = pure p5 := by
    unfold methodCallPos
    rw [hp]
    rfl
  subst hpl
  show (eval (.Call (.Name n p1) [x] [] p3) env >>= fun ov => standAt p4.atName >>= fun _ => (holding [ov] (getMethod ov name (do return (← importBound (.Call (.Name n p1) [x] [] p3) env).getD true)) >>= fun y => methodCallPos true (.Call (.Name n p1) [x] [] p3) env p4 p5 >>= fun cp => callWith cp y.1 y.2 (backTo p5 (starEach [] env)) [])) = _
  rw [e1]
  simp only [pure_bind]
end Mine

end
section
open PySem PySem.Spec PySem.Calls PySem.W PyProof.Rows
set_option Elab.async false
namespace Mine
theorem fillUp5 : (fun (_ : OpenLaw) (_ : Params → Frag) => True) PySem.Challenge.rw_aj5026_02 Mine.K := by
  k_fill
  trivial
theorem lawIter_zero (k : Nat) (b : Array UInt8) : lawIter k 0 b = b := rfl
theorem lawIter_succ (k r : Nat) (b : Array UInt8) : lawIter k (r + 1) b = lawSum (lawIter k r b) k := rfl
theorem lawIter_add (k r : Nat) (b : Array UInt8) : ∀ q, lawIter k (r + q) b = lawIter k q (lawIter k r b)
  | 0 => by rw [Nat.add_zero, lawIter_zero]
  | q + 1 => by rw [← Nat.add_assoc, lawIter_succ, lawIter_succ, lawIter_add k r b q]
theorem lawIter_size (k r : Nat) (b : Array UInt8) (h : 1 ≤ r) : (lawIter k r b).size = k := by
  obtain ⟨q, rfl⟩ : ∃ q, r = q + 1 := ⟨r - 1, by omega⟩
  rw [lawIter_succ, lawSum_size]

/-- what «const(block).digest()» gives, in a frame whose names const and block are plain locals, over any ledger that has the entries -/
def HashSpec (w : World) (p : Program) (loose : List Str) (mean : ExcName → Option Value) (mg mb : Str → Option Value) (need : List (Addr × Obj)) (f : Addr) (n : Int) : Prop :=
  ∀ (dp un : Nat) (gd : Option (List Code)) (cn : Str) (cs : Scope) (a : Addr) (ccd : Value) (cl : List (Str × Addr)) (outer : List Env) (A₀ : Around) (base h₀ : Heap) (L : Addr) (m : Str → Option Value) (news : List (Addr × Obj)) (s : Shared) (b : Array UInt8) (t : Tok) (p1 p2 p3 p4 p5 : Pos)
    (Q E : Value → Shared → Prop),
    Below A₀ base outer h₀ → Fr h₀ L s.heap m → (Mine.K w.params).In h₀ → News h₀ L s.heap news → Top p loose mean mg mb h₀ → cs.kind = .function → (∀ q ∈ need, q ∈ news) → b.size ≤ 64 → dp + 4 < recursionLimit → un + 40 < cLine →
    (p4.endLine == p5.line) = true → (envX cn cs L a ccd cl).kindOf (PySem.Str.ofString "const") = some .local → (envX cn cs L a ccd cl).kindOf (PySem.Str.ofString "block") = some .local → m (PySem.Str.ofString "const") = some (.ref f) → m (PySem.Str.ofString "block") = some (.bytes b t) →
    (∀ b' t h' tk', b' = lawSum b n.toNat → (b'.size : Int) = n → Fr h₀ L h' m → News h₀ L h' news → Q (.bytes b' t) { s with heap := h', toks := tk' }) →
    wpAny (model PySem.Challenge.pw_aj5026_02 w) (ktrTop dp un gd cn cs L a ccd cl outer)
      (eval (PySem.Expr.Call (PySem.Expr.Attribute (PySem.Expr.Call (PySem.Expr.Name (PySem.Str.ofString "const") p1) [PySem.Expr.Name (PySem.Str.ofString "block") p2] [] p3) (PySem.Str.ofString "digest") p4) [] [] p5) (envX cn cs L a ccd cl)) Q E s

abbrev infoObj (h1 h2 h3 h4 h5 h6 : Int) (t1 t2 t3 t4 t5 t6 : Tok) (v1 v2 v3 : Value) (f : Addr) (n bl : Int) (tn tb : Tok) : Obj :=
  dictOf [⟨h1, .str (PySem.Str.ofString "name") t1, v1⟩, ⟨h2, .str (PySem.Str.ofString "iana_name") t2, v2⟩, ⟨h3, .str (PySem.Str.ofString "aliases") t3, v3⟩, ⟨h4, .str (PySem.Str.ofString "const") t4, .ref f⟩, ⟨h5, .str (PySem.Str.ofString "digest_size") t5, .int n tn⟩, ⟨h6, .str (PySem.Str.ofString "block_size") t6, .int bl tb⟩] 6

def PbkTells (w : World) (p : Program) (loose : List Str) (mean : ExcName → Option Value) (mg mb : Str → Option Value) (need : List (Addr × Obj)) (f : Addr) (n : Int) : Prop :=
  ∀ (dp un : Nat) (gd : Option (List Code)) (cn : Str) (cs : Scope) (a : Addr) (ccd : Value) (cl : List (Str × Addr)) (outer : List Env) (A₀ : Around) (base h₀ : Heap) (L : Addr) (m : Str → Option Value) (news : List (Addr × Obj)) (s : Shared)
    (ix dx : Addr) (h1 h2 h3 h4 h5 h6 : Int) (t1 t2 t3 t4 t5 t6 : Tok) (v1 v2 v3 : Value) (bl : Int) (tn tb : Tok) (b1 b2 : Array UInt8) (u1 u2 : Tok) (r : Int) (tr : Tok)
    (Q E : Value → Shared → Prop),
    Below A₀ base outer h₀ → Fr h₀ L s.heap m → (Mine.K w.params).In h₀ → News h₀ L s.heap news → Top p loose mean mg mb h₀ → cs.kind = .function → (∀ q ∈ need, q ∈ news) → (ix, instObj 155 dx) ∈ news → (dx, infoObj h1 h2 h3 h4 h5 h6 t1 t2 t3 t4 t5 t6 v1 v2 v3 f n bl tn tb) ∈ news →
    b1.size + b2.size ≤ 40 → 1 ≤ r → r ≤ 12 → 5 ≤ n → n ≤ 20 → dp + 10 < recursionLimit → un + 80 < cLine →
    (∀ b' t h' tk', b' = lawIter n.toNat r.toNat (b1 ++ b2) → (b'.size : Int) = n → Fr h₀ L h' m → News h₀ L h' news → Q (.bytes b' t) { s with heap := h', toks := tk' }) →
    wpAny (model PySem.Challenge.pw_aj5026_02 w) (ktrTop dp un gd cn cs L a ccd cl outer) (call (.ref 165) [.ref ix, .bytes b1 u1, .bytes b2 u2, .int r tr]) Q E s
local macro_rules | `(tactic| cell_enter) => `(tactic| (refine' code_def ?k1 ?k2 ?k3 ?k4 ?k5 ?kA ?kF ?kK ?k6 ?k7 ?k8 ?k9 ?kB ?_ ?c2 ?c3 ?c4 ?c5; (case kA => exact rfl); (case kF => exact rfl); (case kK => first | assumption | exact rfl); (case k1 => k_asm); (case k2 => k_asm); (case k3 => k_asm); (case k4 => k_asm); (case k5 => k_asm); (case k6 => k_is); (case k7 => k_is); (case k8 => ktr_room); (case k9 => first | exact BindsTo.of_eq rfl | exact binds_K (by k_in) rfl (by k_is) rfl rfl rfl); (case c5 => decide); (case kB => exact locs rfl); (case c2 => exact rfl); (case c3 => exact rfl); (case c4 => exact rfl); k_whole; intro g' L' h' FG' F' N' B' X' T'; (try dsimp only); (try k_lift B'); (try k_fold)))
local macro_rules | `(tactic| ktr_units) => `(tactic| ((have hcL9 := cLine_is); (try simp only [units_under_make, units_in1, units_deeper, Around.mark_units, units_caller]); (try dsimp only [ktrTop]); omega))
local macro_rules | `(tactic| walk_at "assign Tuple cons ref") => `(tactic| (k_here; k_dflt (refine' assign_own (K := Mine.K _) (C := 155) ?F ?X ?I ?s ?f ?h ?n ?t ?_; (case F => k_asm); (case X => k_asm); (case I => exact InstAt.of_news (by k_asm) (by k_mem) (by k_mem)); (case s => k_is); (case f => kernel_rfl); (case h => exact rfl); (case n => exact rfl); (case t => exact rfl))))
local macro_rules | `(tactic| walk_at "call builtin:iter") => `(tactic| (k_here; k_dflt (refine' iter_tuple ?F ?N ?m ?_; (case F => k_asm); (case N => k_asm); (case m => k_mem)); intro it' h' F' N' l1; (try k_lt l1)))
local macro_rules | `(tactic| walk_at "IterBack") => `(tactic| (k_dflt (refine' iter_back ?F ?N ?m ?l ?n ?_; (case F => k_asm); (case N => k_asm); (case m => k_mem); (case l => (repeat (first | assumption | exact kst_ltOf (by assumption) | k_all))); (case n => exact rfl)); intro h' F' N'; (try dsimp only)))
theorem add_b {prog : Program} {w : World} {A : Around} {E : Value → Shared → Prop} {s : Shared} {b c : Array UInt8} {t u : Tok} {Q : Value → Shared → Prop} (hsz : b.size + c.size ≤ 40) (h : ∀ d t' k, d = b ++ c → d.size = b.size + c.size → Q (.bytes d t') { s with toks := k }) : wpAny (model prog w) A (binaryOp .Add (.bytes b t) (.bytes c u)) Q E s :=
  KBy.add_bytes (by omega) fun t' k => h _ t' k rfl Array.size_append
local macro_rules | `(tactic| walk_at "binaryOp Add bytes bytes") => `(tactic| (k_here; refine add_b (by first | assumption | omega) ?_; intro d9 t9 k9 hd9 hz9))
local macro_rules | `(tactic| walk_at "exec For Name Call cons nil") => `(tactic| (k_here; (rename Fr _ _ _ _ => lF'); (with_unfolding_all refine' For_invVF lF' ?k1 ?k2 ?_; (case k1 => exact rfl); (case k2 => exact rfl); k_whole)))
local macro_rules | `(tactic| k_room) => `(tactic| ktr_room)
local macro_rules | `(tactic| k_units) => `(tactic| ktr_units)

abbrev kkOf {w : World} {p : Program} {loose : List Str} {mean : ExcName → Option Value} {mg mb : Str → Option Value} {need : List (Addr × Obj)} {f : Addr} {n : Int} (_ : HashSpec w p loose mean mg mb need f n) : Nat := n.toNat
theorem rounds_step {k l : Nat} {b b' b0 : Array UInt8} (h1 : b' = lawSum b k) (h2 : b = lawIter k l b0) : b' = lawSum (lawIter k l b0) k := by rw [h1, h2]
def NeedIn (need news : List (Addr × Obj)) : Prop := ∀ q ∈ need, q ∈ news
local macro_rules | `(tactic| walk_at "subscriptTail") => `(tactic| (k_here; (try dsimp only); (with_reducible show wpAny _ _ (subscriptTail _ (PySem.Expr.Slice _ _ none _) (Value.bytes _ _) (Value.ref _)) _ _ _); (rename Fr _ _ _ _ => F'); (rename News _ _ _ _ => N'); (refine slice_b (s := ⟨_, _, _, _, _⟩) F' N' (by constructor) (by constructor) (by first | assumption | omega) ?_ (by with_unfolding_all rfl) (by intro _; with_unfolding_all rfl)); intro h9 d9 t9 k9 hd9 F9 N9))
local macro_rules | `(tactic| walk_at "pyIter ref") => `(tactic| ((with_reducible show wpAny _ _ (pyIter (Value.ref _)) (fun it s₂ => LoopAtV _ _ _ _ _ _ _ _ _ it s₂) _ _); k_here; k_dflt ((rename Fr _ _ _ _ => lF'); (rename News _ _ _ _ => lN'); (rename IsRange _ _ _ _ _ _ _ _ => rgX); (rename HashSpec _ _ _ _ _ _ _ _ _ => hH9); (with_unfolding_all refine' rounds_loop (l := PySem.Str.ofString "block") (kk := kkOf hH9) ?hh rgX ?h1 ?h2 lF' lN' ?hm ?hb ?turn ?done); (case hh => rfl); (case h1 => omega); (case h2 => omega); (case hm => exact if_pos rfl); (case hb => omega); (case' turn => ((try clear lF' lN'); intro b8 tb8 pre8 k8 t8 u8 h8 tk8 own8 hb8 hs8 ho8 F8 N8; (try k_fold))); (case' done => ((try clear lF' lN'); intro b8 tb8 u8 h8 tk8 hb8 hs8 F8 N8; (try k_fold))))))
local macro_rules | `(tactic| walk_at "eval Call Attribute") => `(tactic| ((with_reducible show wpAny _ _ (eval (PySem.Expr.Call (PySem.Expr.Attribute (PySem.Expr.Call (PySem.Expr.Name _ _) _ _ _) _ _) _ _ _) _) _ _ _); k_here; k_dflt ((rename Fr _ _ _ _ => lF'); (rename HashSpec _ _ _ _ _ _ _ _ _ => hH9); (with_unfolding_all refine' hH9 _ _ _ _ _ _ _ _ _ _ _ _ _ _ _ _ _ _ _ _ _ _ _ _ _ ?B lF' ?X ?N ?T ?k ?need ?bs ?d ?u ?pp ?k1 ?k2 ?m1 ((if_neg (show ¬ (PySem.Str.ofString "block" = PySem.Str.ofString "_") by decide)).trans (if_pos rfl)) ?_); (case B => k_asm); (case X => k_asm); (case N => k_asm); (case T => k_asm); (case k => exact rfl); (case need => ((rename NeedIn _ _ => hn9); intro q9 hq9; first | exact hn9 q9 hq9 | exact .tail _ (hn9 q9 hq9) | exact List.mem_append_left _ (hn9 q9 hq9) | exact List.mem_append_left _ (.tail _ (hn9 q9 hq9)))); (case bs => assumption); (case pp => exact rfl); (case d => ktr_room); (case u => ktr_units); (case k1 => exact rfl); (case k2 => exact rfl); (case m1 => first | k_is | exact rfl | kernel_rfl); intro b9 t9 h9 k9 hb9 hs9 F9 N9)))
theorem pbk_done {k : Nat} {b0 b d : Array UInt8} {n r : Int} (hd : d = KBy.picked b none (some n)) (hb : b = lawIter k r.toNat b0) (hk : k = n.toNat) (h0 : 0 ≤ n) (h1 : 1 ≤ r) : d = lawIter n.toNat r.toNat b0 ∧ (d.size : Int) = n := by
  subst hk
  have hs := lawIter_size n.toNat r.toNat b0 (by omega)
  rw [hb, picked_to _ h0] at hd
  have e : n.toNat = (lawIter n.toNat r.toNat b0).toList.length := by rw [Array.length_toList, hs]
  rw [show (lawIter n.toNat r.toNat b0).toList.take n.toNat = (lawIter n.toNat r.toNat b0).toList from List.take_of_length_le (by omega), Array.toArray_toList] at hd
  exact ⟨hd, by rw [hd, hs]; omega⟩
theorem pbk_cut {k : Nat} {b0 b d : Array UInt8} {n r l : Int} (hd : d = KBy.picked b none (some l)) (hb : b = lawIter k r.toNat b0) (hk : k = n.toNat) (h0 : 0 ≤ l) (h1 : 1 ≤ r) (h2 : l ≤ n) : d = ((lawIter n.toNat r.toNat b0).toList.take l.toNat).toArray ∧ (d.size : Int) = l := by
  subst hk
  have hs := lawIter_size n.toNat r.toNat b0 (by omega)
  rw [hb, picked_to _ h0] at hd
  refine ⟨hd, ?_⟩
  rw [hd, List.size_toArray, List.length_take, Array.length_toList, hs]
  omega
set_option maxRecDepth 100000 in
set_option maxHeartbeats 8000000 in
theorem pbk_tells {w : World} {p : Program} {loose : List Str} {mean : ExcName → Option Value} {mg mb : Str → Option Value} {need : List (Addr × Obj)} {f : Addr} {n : Int} (H : HashSpec w p loose mean mg mb need f n) : PbkTells w p loose mean mg mb need f n := by
  unfold PbkTells
  intro dp un gd cn cs a ccd cl outer A₀ base h₀ L m news s ix dx h1 h2 h3 h4 h5 h6 t1 t2 t3 t4 t5 t6 v1 v2 v3 bl tn tb b1 b2 u1 u2 r tr Q E B F X N T hk hneed hix hdx hb hr0 hr1 hn0 hn1 hd hu hret
  have hNeed : NeedIn need news := hneed
  refine wpAny_call ?_
  k_dflt cell_enter
  k_steps
  · (rename _ = KBy.picked _ _ _ => hd9)
    (rename _ = lawIter _ _ _ => hb9)
    (rename _ = b1 ++ b2 => hc9)
    subst hc9
    have e9 := pbk_done hd9 hb9 rfl (by omega) hr0
    exact hret _ _ _ _ e9.1 e9.2 (by k_asm) (News.perm (by k_asm) (fun p hp => List.mem_cons_of_mem _ hp))
  · (rename _ = lawSum _ _ => hb9)
    refine' rounds_end (x := PySem.Str.ofString "_") (l := PySem.Str.ofString "block") ?F ?N ?hn ?ho ?hk ?hr ?hp ?hs
    case F => k_asm
    case N => k_asm
    case hn => exact fun p hp => List.mem_append_left _ hp
    case ho => exact fun p hp => List.mem_append_right _ hp
    case hk => exact if_pos rfl
    case hr => intro z9 h1 h2; simp only [if_neg h1, if_neg h2]
    case hp => exact rounds_step hb9 (by assumption)
    case hs => omega
end Mine

end
section
open PySem PySem.Spec PySem.Calls PySem.W PyProof.Rows
set_option Elab.async false
namespace Mine
theorem fillUp6 : (fun (_ : OpenLaw) (_ : Params → Frag) => True) PySem.Challenge.rw_aj5026_02 Mine.K := by
  k_fill
  trivial
local macro_rules | `(tactic| cell_enter) => `(tactic| (refine' code_def ?k1 ?k2 ?k3 ?k4 ?k5 ?kA ?kF ?kK ?k6 ?k7 ?k8 ?k9 ?kB ?_ ?c2 ?c3 ?c4 ?c5; (case kA => exact rfl); (case kF => exact rfl); (case kK => first | assumption | exact rfl); (case k1 => k_asm); (case k2 => k_asm); (case k3 => k_asm); (case k4 => k_asm); (case k5 => k_asm); (case k6 => k_is); (case k7 => k_is); (case k8 => ktr_room); (case k9 => first | exact BindsTo.of_eq rfl | exact binds_K (by k_in) rfl (by k_is) rfl rfl rfl); (case c5 => decide); (case kB => exact locs rfl); (case c2 => exact rfl); (case c3 => exact rfl); (case c4 => exact rfl); k_whole; intro g' L' h' FG' F' N' B' X' T'; (try dsimp only); (try k_lift B'); (try k_fold)))
local macro_rules | `(tactic| ktr_units) => `(tactic| ((have hcL9 := cLine_is); (try simp only [units_under_make, units_in1, units_deeper, Around.mark_units, units_caller]); (try dsimp only [ktrTop]); omega))
local macro_rules | `(tactic| walk_at "assign Tuple cons ref") => `(tactic| (k_here; k_dflt (refine' assign_own (K := Mine.K _) (C := 155) ?F ?X ?I ?s ?f ?h ?n ?t ?_; (case F => k_asm); (case X => k_asm); (case I => exact InstAt.of_news (by k_asm) (by k_mem) (by k_mem)); (case s => k_is); (case f => kernel_rfl); (case h => exact rfl); (case n => exact rfl); (case t => exact rfl))))
local macro_rules | `(tactic| walk_at "call builtin:iter") => `(tactic| (k_here; k_dflt (refine' iter_tuple ?F ?N ?m ?_; (case F => k_asm); (case N => k_asm); (case m => k_mem)); intro it' h' F' N' l1; (try k_lt l1)))
local macro_rules | `(tactic| walk_at "IterBack") => `(tactic| (k_dflt (refine' iter_back ?F ?N ?m ?l ?n ?_; (case F => k_asm); (case N => k_asm); (case m => k_mem); (case l => (repeat (first | assumption | exact kst_ltOf (by assumption) | k_all))); (case n => exact rfl)); intro h' F' N'; (try dsimp only)))
local macro_rules | `(tactic| walk_at "binaryOp Add bytes bytes") => `(tactic| (k_here; refine add_b (by first | assumption | omega) ?_; intro d9 t9 k9 hd9 hz9))
local macro_rules | `(tactic| walk_at "exec For Name Call cons nil") => `(tactic| (k_here; (rename Fr _ _ _ _ => lF'); (with_unfolding_all refine' For_invVF lF' ?k1 ?k2 ?_; (case k1 => exact rfl); (case k2 => exact rfl); k_whole)))
local macro_rules | `(tactic| k_room) => `(tactic| ktr_room)
local macro_rules | `(tactic| k_units) => `(tactic| ktr_units)
local macro_rules | `(tactic| walk_at "subscriptTail") => `(tactic| (k_here; (try dsimp only); (with_reducible show wpAny _ _ (subscriptTail _ (PySem.Expr.Slice _ _ none _) (Value.bytes _ _) (Value.ref _)) _ _ _); (rename Fr _ _ _ _ => F'); (rename News _ _ _ _ => N'); (refine slice_b (s := ⟨_, _, _, _, _⟩) F' N' (by constructor) (by constructor) (by first | assumption | omega) ?_ (by with_unfolding_all rfl) (by intro _; with_unfolding_all rfl)); intro h9 d9 t9 k9 hd9 F9 N9))
local macro_rules | `(tactic| walk_at "pyIter ref") => `(tactic| ((with_reducible show wpAny _ _ (pyIter (Value.ref _)) (fun it s₂ => LoopAtV _ _ _ _ _ _ _ _ _ it s₂) _ _); k_here; k_dflt ((rename Fr _ _ _ _ => lF'); (rename News _ _ _ _ => lN'); (rename IsRange _ _ _ _ _ _ _ _ => rgX); (rename HashSpec _ _ _ _ _ _ _ _ _ => hH9); (with_unfolding_all refine' rounds_loop (l := PySem.Str.ofString "block") (kk := kkOf hH9) ?hh rgX ?h1 ?h2 lF' lN' ?hm ?hb ?turn ?done); (case hh => rfl); (case h1 => omega); (case h2 => omega); (case hm => exact if_pos rfl); (case hb => omega); (case' turn => ((try clear lF' lN'); intro b8 tb8 pre8 k8 t8 u8 h8 tk8 own8 hb8 hs8 ho8 F8 N8; (try k_fold))); (case' done => ((try clear lF' lN'); intro b8 tb8 u8 h8 tk8 hb8 hs8 F8 N8; (try k_fold))))))
local macro_rules | `(tactic| walk_at "eval Call Attribute") => `(tactic| ((with_reducible show wpAny _ _ (eval (PySem.Expr.Call (PySem.Expr.Attribute (PySem.Expr.Call (PySem.Expr.Name _ _) _ _ _) _ _) _ _ _) _) _ _ _); k_here; k_dflt ((rename Fr _ _ _ _ => lF'); (rename HashSpec _ _ _ _ _ _ _ _ _ => hH9); (with_unfolding_all refine' hH9 _ _ _ _ _ _ _ _ _ _ _ _ _ _ _ _ _ _ _ _ _ _ _ _ _ ?B lF' ?X ?N ?T ?k ?need ?bs ?d ?u ?pp ?k1 ?k2 ?m1 ((if_neg (show ¬ (PySem.Str.ofString "block" = PySem.Str.ofString "_") by decide)).trans (if_pos rfl)) ?_); (case B => k_asm); (case X => k_asm); (case N => k_asm); (case T => k_asm); (case k => exact rfl); (case need => ((rename NeedIn _ _ => hn9); intro q9 hq9; first | exact hn9 q9 hq9 | exact .tail _ (hn9 q9 hq9) | exact List.mem_append_left _ (hn9 q9 hq9) | exact List.mem_append_left _ (.tail _ (hn9 q9 hq9)))); (case bs => assumption); (case pp => exact rfl); (case d => ktr_room); (case u => ktr_units); (case k1 => exact rfl); (case k2 => exact rfl); (case m1 => first | k_is | exact rfl | kernel_rfl); intro b9 t9 h9 k9 hb9 hs9 F9 N9)))
def Pbk5Tells (w : World) (p : Program) (loose : List Str) (mean : ExcName → Option Value) (mg mb : Str → Option Value) (need : List (Addr × Obj)) (f : Addr) (n : Int) : Prop :=
  ∀ (dp un : Nat) (gd : Option (List Code)) (cn : Str) (cs : Scope) (a : Addr) (ccd : Value) (cl : List (Str × Addr)) (outer : List Env) (A₀ : Around) (base h₀ : Heap) (L : Addr) (m : Str → Option Value) (news : List (Addr × Obj)) (s : Shared)
    (ix dx : Addr) (h1 h2 h3 h4 h5 h6 : Int) (t1 t2 t3 t4 t5 t6 : Tok) (v1 v2 v3 : Value) (bl : Int) (tn tb : Tok) (b1 b2 : Array UInt8) (u1 u2 : Tok) (r : Int) (tr : Tok) (l : Int) (tl : Tok)
    (Q E : Value → Shared → Prop),
    Below A₀ base outer h₀ → Fr h₀ L s.heap m → (Mine.K w.params).In h₀ → News h₀ L s.heap news → Top p loose mean mg mb h₀ → cs.kind = .function → (∀ q ∈ need, q ∈ news) → (ix, instObj 155 dx) ∈ news → (dx, infoObj h1 h2 h3 h4 h5 h6 t1 t2 t3 t4 t5 t6 v1 v2 v3 f n bl tn tb) ∈ news →
    b1.size + b2.size ≤ 40 → 1 ≤ r → r ≤ 12 → 5 ≤ n → n ≤ 20 → 0 ≤ l → l ≤ n → dp + 10 < recursionLimit → un + 80 < cLine →
    (∀ b' t h' tk', b' = ((lawIter n.toNat r.toNat (b1 ++ b2)).toList.take l.toNat).toArray → (b'.size : Int) = l → Fr h₀ L h' m → News h₀ L h' news → Q (.bytes b' t) { s with heap := h', toks := tk' }) →
    wpAny (model PySem.Challenge.pw_aj5026_02 w) (ktrTop dp un gd cn cs L a ccd cl outer) (call (.ref 165) [.ref ix, .bytes b1 u1, .bytes b2 u2, .int r tr, .int l tl]) Q E s
set_option maxRecDepth 100000 in
set_option maxHeartbeats 8000000 in
theorem pbk5_tells {w : World} {p : Program} {loose : List Str} {mean : ExcName → Option Value} {mg mb : Str → Option Value} {need : List (Addr × Obj)} {f : Addr} {n : Int} (H : HashSpec w p loose mean mg mb need f n) : Pbk5Tells w p loose mean mg mb need f n := by
  unfold Pbk5Tells
  intro dp un gd cn cs a ccd cl outer A₀ base h₀ L m news s ix dx h1 h2 h3 h4 h5 h6 t1 t2 t3 t4 t5 t6 v1 v2 v3 bl tn tb b1 b2 u1 u2 r tr l tl Q E B F X N T hk hneed hix hdx hb hr0 hr1 hn0 hn1 hl0 hl1 hd hu hret
  have hNeed : NeedIn need news := hneed
  refine wpAny_call ?_
  k_dflt cell_enter
  k_steps
  · (rename _ = KBy.picked _ _ _ => hd9)
    (rename _ = lawIter _ _ _ => hb9)
    (rename _ = b1 ++ b2 => hc9)
    subst hc9
    have e9 := pbk_cut hd9 hb9 rfl hl0 hr0 hl1
    exact hret _ _ _ _ e9.1 e9.2 (by k_asm) (News.perm (by k_asm) (fun p hp => List.mem_cons_of_mem _ hp))
  · (rename _ = lawSum _ _ => hb9)
    refine' rounds_end (x := PySem.Str.ofString "_") (l := PySem.Str.ofString "block") ?F ?N ?hn ?ho ?hk ?hr ?hp ?hs
    case F => k_asm
    case N => k_asm
    case hn => exact fun p hp => List.mem_append_left _ hp
    case ho => exact fun p hp => List.mem_append_right _ hp
    case hk => exact if_pos rfl
    case hr => intro z9 h1 h2; simp only [if_neg h1, if_neg h2]
    case hp => exact rounds_step hb9 (by assumption)
    case hs => omega
end Mine

end
section
open PySem PySem.Spec PySem.Calls PySem.W PyProof.Rows
set_option Elab.async false
namespace Mine
section
variable {prog : Program} {w : World} {A₀ A : Around} {s : Shared} {base h₀ : Heap} {L : Addr} {m : Str → Option Value} {env : Env} {news : List (Addr × Obj)} {K : Frag} {p : Program} {loose : List Str} {mean : ExcName → Option Value} {mg mb : Str → Option Value}
    {R : Result → Shared → Prop} {name qual : Str} {params : Arguments} {body : List Stmt} {scope : Scope} {dV kV doc pm cdv ct oc : Value} {an od : Option Addr} {osl : Array (Option Value)} {f : Addr} {args : Args} {binds : List (Str × Value)}
/-- a def that catches is entered from the outermost frame, which may have cells of its own -/
theorem code_try (B : Below A₀ base [] h₀) (F : Fr h₀ L s.heap m) (X₀ : K.In h₀) (N : News h₀ L s.heap news) (T : Top p loose mean mg mb h₀) (hA : A.frames = some [env]) (hf : env.frame = some L) (hke : env.scope.kind = .function)
    (ho : K.lookup f = some ⟨oc, od, .func (fnOf name qual params body scope dV kV doc pm an cdv ct), osl⟩) (hcd : codeIn K cdv qual = true) (hroom : A.depth < recursionLimit)
    (hbind : BindsTo s (fnOf name qual params body scope dV kV doc pm an cdv ct) args binds) (hloc : ∀ y ∈ binds, scope.names.lookup y.1 = some .local)
    (h : ∀ g L' h₁, Fr h₀ L g m → Fr g L' h₁ (fun y => binds.reverse.lookup y) → News g L' h₁ news → Below A base [env] g → K.In g → Top p loose mean mg mb g → KtsDicts ([env].filterMap (·.frame)) g →
      wpAny (model prog w) (A.deeper (envOf qual scope L' f cdv)) (execs body (envOf qual scope L' f cdv))
        (fun fl s' => LeaveS0 ([env].filterMap (·.frame)) h₀ L m g R (match fl with | .ret v => v | _ => .none) s')
        (fun e s' => wpAny (model prog w) (A.deeper (envOf qual scope L' f cdv)) («leaving» (envOf qual scope L' f cdv) e) (fun _ s'' => R (.error e) s'') (fun e' s'' => R (.error e') s'') s')
        { s with heap := h₁, toks := s.toks + binds.length })
    (hco : scope.isCoroutine = false) (hgen : scope.isGenerator = false) (hk : scope.kind = .function)
    (hcell : ∀ x ∈ scope.names, x.2 ≠ .cell) : codeAny (model prog w) A (.call (.ref f) args) R s := by
  have X := X₀.keeps F.keep
  obtain ⟨FG, BG, st, -⟩ := groundX (R := R) B F N hA hf hke
  have hfr : [env].filterMap (·.frame) = [L] := by simp [hf]
  obtain ⟨oL, es, ep, hLg, hLd, hLk, hLf⟩ := FG.ns
  refine codeAny_call_def (fd := fnOf name qual params body scope dV kV doc pm an cdv ct) (body := body) (binds := binds) hroom (X _ _ ho) rfl (T.nolimit.keeps F.keep) (codeRec_of X hcd) rfl hbind hcell hloc (fun h₁ hns hk₁ => ?_) hco hgen hk
  have NG : News (hideAll s.heap (news.map (·.1))) s.heap.objs.size h₁ news := fun q hq =>
    ⟨hk₁ _ _ (N q hq).1, Nat.ne_of_lt (Heap.lt_size (N q hq).1), hideAll_none _ (List.mem_map_of_mem hq)⟩
  have DG : KtsDicts ([env].filterMap (·.frame)) (hideAll s.heap (news.map (·.1))) := fun b hb => by
    rw [hfr, List.mem_singleton] at hb
    exact ⟨oL, es, ep, hb ▸ hLg, hLd⟩
  refine wpAny_mono (h _ s.heap.objs.size h₁ FG ⟨hns, fun b o e => hk₁ b o (of_hideAll _ e), Nat.le_of_eq (hideAll_size _ _)⟩ NG BG (X₀.keeps st) (T.keeps st) DG) (fun fl s' hl => ?_) fun _ _ y => y
  obtain ⟨g', L', m', news', T', F', N', k⟩ := hl
  rw [hfr] at T'
  obtain ⟨sl, hs⟩ := T'.up hLg
  refine k ⟨⟨_, es, ep, F'.keep _ _ hs, hLd, hLk, hLf⟩, fun b o e => F'.keep b o (T'.other b o (st b o e) fun q => ?_), F.above⟩ fun q hq => ⟨(N' q hq).1, fun e => ?_, ?_⟩
  · rw [List.mem_singleton.mp q, kts_self F] at e
    cases e
  · have := (N' q hq).2.2
    rw [e, hs] at this
    cases this
  · cases e : h₀.get? q.1 with
    | none => rfl
    | some o =>
      obtain ⟨sl', hs'⟩ := T'.up (st _ _ e)
      have := (N' q hq).2.2
      rw [hs'] at this
      cases this
end
end Mine

end
section
open PySem PySem.Spec PySem.Calls PySem.W PyProof.Rows
set_option Elab.async false
namespace Mine
theorem fillUp7 : (fun (_ : OpenLaw) (_ : Params → Frag) => True) PySem.Challenge.rw_aj5026_02 Mine.K := by
  k_fill
  trivial
local macro_rules | `(tactic| cell_enter) => `(tactic| (refine' code_def ?k1 ?k2 ?k3 ?k4 ?k5 ?kA ?kF ?kK ?k6 ?k7 ?k8 ?k9 ?kB ?_ ?c2 ?c3 ?c4 ?c5; (case kA => exact rfl); (case kF => exact rfl); (case kK => first | assumption | exact rfl); (case k1 => k_asm); (case k2 => k_asm); (case k3 => k_asm); (case k4 => k_asm); (case k5 => k_asm); (case k6 => k_is); (case k7 => k_is); (case k8 => ktr_room); (case k9 => first | exact BindsTo.of_eq rfl | exact binds_K (by k_in) rfl (by k_is) rfl rfl rfl); (case c5 => decide); (case kB => exact locs rfl); (case c2 => exact rfl); (case c3 => exact rfl); (case c4 => exact rfl); k_whole; intro g' L' h' FG' F' N' B' X' T'; (try dsimp only); (try k_lift B'); (try k_fold)))
local macro_rules | `(tactic| ktr_units) => `(tactic| ((have hcL9 := cLine_is); (try simp only [units_under_make, units_in1, units_deeper, Around.mark_units, units_caller]); (try dsimp only [ktrTop]); omega))
local macro_rules | `(tactic| walk_at "assign Tuple cons ref") => `(tactic| (k_here; k_dflt (refine' assign_own (K := Mine.K _) (C := 155) ?F ?X ?I ?s ?f ?h ?n ?t ?_; (case F => k_asm); (case X => k_asm); (case I => exact InstAt.of_news (by k_asm) (by k_mem) (by k_mem)); (case s => k_is); (case f => kernel_rfl); (case h => exact rfl); (case n => exact rfl); (case t => exact rfl))))
local macro_rules | `(tactic| walk_at "call builtin:iter") => `(tactic| (k_here; k_dflt (refine' iter_tuple ?F ?N ?m ?_; (case F => k_asm); (case N => k_asm); (case m => k_mem)); intro it' h' F' N' l1; (try k_lt l1)))
local macro_rules | `(tactic| walk_at "IterBack") => `(tactic| (k_dflt (refine' iter_back ?F ?N ?m ?l ?n ?_; (case F => k_asm); (case N => k_asm); (case m => k_mem); (case l => (repeat (first | assumption | exact kst_ltOf (by assumption) | k_all))); (case n => exact rfl)); intro h' F' N'; (try dsimp only)))
local macro_rules | `(tactic| walk_at "binaryOp Add bytes bytes") => `(tactic| (k_here; refine add_b (by first | assumption | omega) ?_; intro d9 t9 k9 hd9 hz9))
local macro_rules | `(tactic| walk_at "exec For Name Call cons nil") => `(tactic| (k_here; (rename Fr _ _ _ _ => lF'); (with_unfolding_all refine' For_invVF lF' ?k1 ?k2 ?_; (case k1 => exact rfl); (case k2 => exact rfl); k_whole)))
local macro_rules | `(tactic| k_room) => `(tactic| ktr_room)
local macro_rules | `(tactic| k_units) => `(tactic| ktr_units)
local macro_rules | `(tactic| walk_at "subscriptTail") => `(tactic| (k_here; (try dsimp only); (with_reducible show wpAny _ _ (subscriptTail _ (PySem.Expr.Slice _ _ none _) (Value.bytes _ _) (Value.ref _)) _ _ _); (rename Fr _ _ _ _ => F'); (rename News _ _ _ _ => N'); (refine slice_b (s := ⟨_, _, _, _, _⟩) F' N' (by constructor) (by constructor) (by first | assumption | omega) ?_ (by with_unfolding_all rfl) (by intro _; with_unfolding_all rfl)); intro h9 d9 t9 k9 hd9 F9 N9))
def RefTells (w : World) (p : Program) (loose : List Str) (mean : ExcName → Option Value) (mg mb : Str → Option Value) : Prop :=
  ∀ (dp un : Nat) (gd : Option (List Code)) (cn : Str) (cs : Scope) (a : Addr) (ccd : Value) (cl : List (Str × Addr)) (A₀ : Around) (base h₀ : Heap) (L : Addr) (m : Str → Option Value) (news : List (Addr × Obj)) (s : Shared)
    (ix dx : Addr) (h1 h2 h3 h4 h5 h6 : Int) (t1 t2 t3 t4 t5 t6 : Tok) (v1 v2 v3 : Value) (f : Addr) (n bl : Int) (tn tb : Tok) (r : Int) (tr : Tok) (l : Int) (tl : Tok)
    (Q E : Value → Shared → Prop),
    (Mine.K w.params).In base → Top p loose mean mg mb base → Below A₀ base [] h₀ → Fr h₀ L s.heap m → (Mine.K w.params).In h₀ → News h₀ L s.heap news → Top p loose mean mg mb h₀ → cs.kind = .function → (ix, instObj 155 dx) ∈ news → (dx, infoObj h1 h2 h3 h4 h5 h6 t1 t2 t3 t4 t5 t6 v1 v2 v3 f n bl tn tb) ∈ news →
    5 ≤ n → n ≤ 20 → (r < 1 ∨ l < 0 ∨ n < l) → -2000 ≤ r → r ≤ 12 → -2000 ≤ l → l ≤ 2000 → dp + 12 < recursionLimit → un + 100 < cLine →
    (∀ h' tk', Fr h₀ L h' m → News h₀ L h' news → Q (.bool true) { s with heap := h', toks := tk' }) →
    wpAny (model PySem.Challenge.pw_aj5026_02 w) (ktrTop dp un gd cn cs L a ccd cl []) (call (.ref 323) [.ref ix, .int r tr, .int l tl]) Q E s
set_option maxRecDepth 100000 in
set_option maxHeartbeats 8000000 in
theorem ref_tells {w : World} {p : Program} {loose : List Str} {mean : ExcName → Option Value} {mg mb : Str → Option Value} : RefTells w p loose mean mg mb := by
  unfold RefTells
  intro dp un gd cn cs a ccd cl A₀ base h₀ L m news s ix dx h1 h2 h3 h4 h5 h6 t1 t2 t3 t4 t5 t6 v1 v2 v3 f n bl tn tb r tr l tl Q E XB TB B F X N T hk hix hdx hn0 hn1 hbad hr0 hr1 hl0 hl1 hd hu hret
  refine wpAny_call ?_
  k_dflt (refine' code_try ?k1 ?k2 ?k3 ?k4 ?k5 ?kA ?kF ?kK ?k6 ?k7 ?k8 ?k9 ?kB ?_ ?c2 ?c3 ?c4 ?c5; (case kA => exact rfl); (case kF => exact rfl); (case kK => assumption); (case k2 => k_asm); (case k1 => k_asm); (case k3 => k_asm); (case k4 => k_asm); (case k5 => k_asm); (case k6 => k_is); (case k7 => k_is); (case k8 => ktr_room); (case k9 => first | exact binds_K (by k_in) rfl (by k_is) rfl rfl rfl | exact BindsTo.of_eq rfl); (case kB => exact locs rfl); (case c2 => exact rfl); (case c3 => exact rfl); (case c4 => exact rfl); (case c5 => decide); k_whole; intro g' L' h' FG' F' N' B' X' T' D'; (try dsimp only); (try k_lift B'); (try k_fold))
  k_steps
  all_goals first | exact hret _ _ (by k_asm) (by k_asm) | exact hret _ _ (by k_asm) (News.perm (by k_asm) (fun p hp => List.mem_cons_of_mem _ hp)) | exact hret _ _ (by k_asm) (News.perm (by k_asm) (fun p hp => List.mem_cons_of_mem _ (List.mem_cons_of_mem _ hp)))
end Mine

end
section
open PySem PySem.Spec PySem.Calls PySem.W PyProof.Rows
set_option Elab.async false
namespace Mine
theorem fillUp8 : (fun (_ : OpenLaw) (_ : Params → Frag) => True) PySem.Challenge.rw_aj5026_02 Mine.K := by
  k_fill
  trivial
theorem allNe_le {d d' : Addr} {l : List (Addr × Obj)} (h : AllLt d l) (hd : @LE.le Nat _ d d') : ∀ p ∈ l, p.1 ≠ d' := fun p hp => Nat.ne_of_lt (Nat.lt_of_lt_of_le (kst_ltOf h p hp) hd)
local macro_rules | `(tactic| k_all) => `(tactic| first | kst_allNe | ((rename AllLt _ _ => hA9); exact allNe_le hA9 (by omega)))
local macro_rules | `(tactic| walk_at "eval Name") => `(tactic| (k_here; (with_reducible refine' nameX_L ?F ?v ?_ ?a ?b; (case b => assumption)); k_dflt ((case F => k_asm); (case a => assumption); (case v => assumption))))
local macro_rules | `(tactic| cell_enter) => `(tactic| (refine' code_defC ?k1 ?k2 ?k3 ?k4 ?k5 ?kA ?kF ?kK ?k6 ?k7 ?k8 ?k9 ?kB ?kD ?_ ?c2 ?c3 ?c4; (case kA => exact rfl); (case kF => exact rfl); (case kK => first | assumption | exact rfl); (case k1 => k_asm); (case k2 => k_asm); (case k3 => k_asm); (case k4 => k_asm); (case k5 => k_asm); (case k6 => k_is); (case k7 => k_is); (case k8 => ktr_room); (case k9 => first | exact BindsTo.of_eq rfl | exact binds_K (by k_in) rfl (by k_is) rfl rfl rfl); (case kB => exact rfl); (case kD => decide +kernel); (case c2 => exact rfl); (case c3 => exact rfl); (case c4 => exact rfl); k_whole; intro g' L' h' tk' cells' FG' F' N' Y' B' X' T' l1; (try k_lt l1); k_cells Y'; (try simp only [List.cons_append, List.nil_append] at N'); (try dsimp only); (try k_lift B'); (try k_fold)))
local macro_rules | `(tactic| k_room) => `(tactic| ktr_room)
local macro_rules | `(tactic| k_units) => `(tactic| ktr_units)
local macro_rules | `(tactic| ktr_units) => `(tactic| ((have hcL9 := cLine_is); (try simp only [units_under_make, units_in1, units_deeper, Around.mark_units, units_caller]); (try dsimp only [ktrTop]); omega))
local macro_rules | `(tactic| walk_at "ite") => `(tactic| first
  | ((with_reducible show if (_ != _) = true then _ else _); refine ite_neg ?_ ?_; (focus ((simp only [bne_iff_ne, ne_eq, Decidable.not_not]); omega)))
  | ((with_reducible show if (_ != _) = true then _ else _); refine ite_pos ?_ ?_; (focus ((simp only [bne_iff_ne, ne_eq]); omega)))
  | ((with_reducible show if (decide _) = true then _ else _); refine ite_neg ?_ ?_; (focus ((simp only [decide_eq_true_eq]); omega)))
  | ((with_reducible show if (decide _) = true then _ else _); refine ite_pos ?_ ?_; (focus ((simp only [decide_eq_true_eq]); omega))))
local macro_rules | `(tactic| walk_at "exec FunctionDef") => `(tactic| (k_here; (first
  | (k_dflt (refine' def_plain ?d0 ?k0 ?a0 ?_; (case d0 => exact rfl); (case k0 => exact rfl); (case a0 => exact rfl)))
  | (k_dflt (refine' def_bytes_K ?F ?N ?d0 ?k0 ?a0 ?_; (case F => k_asm); (case N => k_asm); (case d0 => exact rfl); (case k0 => exact rfl); (case a0 => exact rfl)); intro dT tT h' tk' F' N' l1; (try k_lt l1); (try k_sweep))); (first
  | (k_dflt (refine' tail_hit ?F ?N ?T ?C ?cd ?mem ?t ?n ?cl ?_; (case F => k_asm); (case N => k_asm); (case T => k_asm); (case cd => exact rfl); (case C => first | exact CodeHd.keeps (by with_reducible assumption) (Fr.keep (by k_asm)) | exact CodeHd.keeps (CodeHd.keeps (by assumption) (Fr.keep (by assumption))) (Fr.keep (by k_asm)) | exact CodeHd.keeps (CodeHd.keeps (by assumption) (Below.stays (by assumption))) (Fr.keep (by k_asm)) | (refine' CodeOf.hd ?ca ?cb ?cc ?ce; (case cb => k_asm); (case cc => k_mem); (case ca => assumption); (case ce => assumption))); (case mem => k_mem); (case t => kn_triples); (case n => kn_hit); (case cl => exact rfl); k_whole); intro f' ct' dc' h' tk' F' N' l1; (try dsimp only at N'); (try k_lt l1); (try k_sweep))
  | (k_dflt (refine' tail_miss ?F ?N ?T ?C ?cd ?U ?t ?n ?cl ?_; (case F => k_asm); (case N => k_asm); (case T => k_asm); (case cd => exact rfl); (case C => first | exact CodeHd.keeps (by with_reducible assumption) (Fr.keep (by k_asm)) | exact CodeHd.keeps (CodeHd.keeps (by assumption) (Fr.keep (by assumption))) (Fr.keep (by k_asm)) | exact CodeHd.keeps (CodeHd.keeps (by assumption) (Below.stays (by assumption))) (Fr.keep (by k_asm)) | (refine' CodeOf.hd ?ca ?cb ?cc ?ce; (case cb => k_asm); (case cc => k_mem); (case ca => assumption); (case ce => assumption))); (case U => k_updF); (case t => kn_triples); (case n => kn_among); (case cl => exact rfl); k_whole); intro f' c' P' oc' ct' dc' h' tk' F' N' C' l1 l2 l3 l4 l5; (try dsimp only at N'); (try k_lt l1); (try k_lt l2); (try k_lt2 l4); (try k_lt2 l5); (try k_sweep)))))
local macro_rules | `(tactic| walk_at "callWith ref") => `(tactic| (k_here; k_dflt (first
  | (refine' callWith_F ?k1 ?_; (case k1 => exact FnAt.of (by k_asm) (by k_mem)); k_whole)
  | (refine' callWith_F0 ?k1 ?_; (case k1 => exact FnAt.of (by k_asm) (by k_mem)); k_whole; try dsimp only [List.nil_append, List.cons_append]))))
local macro_rules | `(tactic| walk_at "call ref") => `(tactic| (k_here; k_dflt (refine wpAny_call ?_; (first
  | (refine' code_own0 ?k1 ?k2 ?k3 ?k4 ?k5 ?kA ?kF ?kK ?k6 ?ka ?kb ?k8 ?k9 ?kB ?_ ?c2 ?c3 ?c4 ?c5; (case kA => exact rfl); (case kF => exact rfl); (case kK => first | assumption | exact rfl); (case k1 => k_asm); (case k2 => k_asm); (case k3 => k_asm); (case k4 => k_asm); (case k5 => k_asm); (case k6 => k_mem); (case c5 => decide); (case ka => k_mem); (case kb => assumption); (case k8 => ktr_room); (case k9 => first | exact BindsTo.of_eq rfl | exact binds_news (by k_asm) (by k_mem) rfl rfl rfl rfl); (case kB => exact locs rfl); (case c2 => exact rfl); (case c3 => exact rfl); (case c4 => exact rfl); k_whole; intro g' L' h' FG' F' N' B' X' T' l1; (try dsimp only); (try k_lt l1); (try k_lift B'); (try k_fold))
  | (refine' code_own ?k1 ?k2 ?k3 ?k4 ?k5 ?kA ?kF ?kK ?k6 ?ka ?kb ?k8 ?k9 ?kB ?_ ?c2 ?c3 ?c4; (case kA => exact rfl); (case kF => exact rfl); (case kK => first | assumption | exact rfl); (case k1 => k_asm); (case k2 => k_asm); (case k3 => k_asm); (case k4 => k_asm); (case k5 => k_asm); (case k6 => k_mem); (case ka => k_mem); (case kb => assumption); (case k8 => ktr_room); (case k9 => first | exact BindsTo.of_eq rfl | exact binds_news (by k_asm) (by k_mem) rfl rfl rfl rfl); (case kB => exact locs rfl); (case c2 => exact rfl); (case c3 => exact rfl); (case c4 => exact rfl); k_whole; intro g' L' h' tk' cells' FG' F' N' Y' B' X' T' l1; (try dsimp only); (try k_lt l1); (try ((have lA9 := l1); (repeat (replace lA9 := lA9.2)))); k_cells Y'; (try simp only [List.cons_append, List.nil_append] at N'); (try k_lift B'); (try k_fold))))))
local macro_rules | `(tactic| walk_at "call ref") => `(tactic| (k_here; k_dflt (first
  | ((with_reducible show wpAny _ _ (call (Value.ref 302) [Value.bytes _ _, Value.int _ _]) _ _ _); refine' sum_use ?k1 ?k2 ?k3 ?k4 ?k5 ?kK ?kb ?k6 ?k7 ?kd ?ku ?_; (case k1 => k_asm); (case k2 => k_asm); (case k3 => k_asm); (case k4 => k_asm); (case k5 => k_asm); (case kK => first | assumption | exact rfl); (case kb => first | assumption | omega | (simp only [lawSum_size, Array.size_append, List.size_toArray, List.length_cons, List.length_nil]; omega)); (case k6 => first | assumption | omega); (case k7 => first | assumption | omega); (case kd => ktr_room); (case ku => ktr_units); intro b9 t9 h9 tk9 hb9 hz9 F9 N9; (try dsimp only); (try k_fold))
  | ((with_reducible show wpAny _ _ (call (Value.ref 285) [_, _, _, _, _]) _ _ _); refine' hand_use ?k1 ?k2 ?k3 ?k4 ?k5 ?kK ?kd ?ku ?_; (case k1 => k_asm); (case k2 => k_asm); (case k3 => k_asm); (case k4 => k_asm); (case k5 => k_asm); (case kK => first | assumption | exact rfl); (case kd => ktr_room); (case ku => ktr_units); intro x9 dx9 h9 tk9 F9 N9 l1 l2; (try dsimp only); (try k_lt l1); (try k_lt2 l2); (try k_fold)))))
local macro_rules | `(tactic| walk_at "getMethod ref") => `(tactic| (k_here; (with_reducible show wpAny _ _ (getMethod (Value.ref _) (PySem.Str.ofString "digest") _) _ _ _); k_dflt (refine' hand_digest ?k1 ?k2 ?k3 ?k4 ?k5 ?kK ?kx ?kdx ?kd ?ku ?kh ?_; (case k1 => k_asm); (case k2 => k_asm); (case k3 => k_asm); (case k4 => k_asm); (case k5 => k_asm); (case kK => first | assumption | exact rfl); (case kx => k_mem); (case kdx => k_mem); (case kd => ktr_room); (case ku => ktr_units); (case kh => rfl); intro h9 tk9 F9 N9; (try dsimp only); (try k_fold))))
local macro_rules | `(tactic| walk_at "getAttr ref") => `(tactic| (k_here; (with_reducible show wpAny _ _ (getAttr (Value.ref _) (PySem.Str.ofString "digest_size") _) _ _ _); k_dflt (refine' hand_size ?k1 ?k2 ?k3 ?k4 ?k5 ?kK ?kx ?kdx ?kd ?ku ?kh ?_; (case k1 => k_asm); (case k2 => k_asm); (case k3 => k_asm); (case k4 => k_asm); (case k5 => k_asm); (case kK => first | assumption | exact rfl); (case kx => k_mem); (case kdx => k_mem); (case kd => ktr_room); (case ku => ktr_units); (case kh => rfl); intro h9 tk9 F9 N9; (try dsimp only); (try k_fold))))
local macro_rules | `(tactic| walk_at "getAttr ref") => `(tactic| (k_here; (with_reducible show wpAny _ _ (getAttr (Value.ref _) (PySem.Str.ofString "block_size") _) _ _ _); k_dflt (refine' hand_block ?k1 ?k2 ?k3 ?k4 ?k5 ?kK ?kx ?kdx ?kd ?ku ?kh ?_; (case k1 => k_asm); (case k2 => k_asm); (case k3 => k_asm); (case k4 => k_asm); (case k5 => k_asm); (case kK => first | assumption | exact rfl); (case kx => k_mem); (case kdx => k_mem); (case kd => ktr_room); (case ku => ktr_units); (case kh => rfl); intro h9 tk9 F9 N9; (try dsimp only); (try k_fold))))
theorem take_at {h₀ h : Heap} {L : Addr} {whole : List (Addr × Obj)} {G : Prop} (k : Nat) (N : News h₀ L h whole) (H : ∀ need rest, need = whole.take k → whole.drop k = rest → News h₀ L h (need ++ rest) → G) : G :=
  H _ _ rfl rfl (by rw [List.take_append_drop]; exact N)
theorem take2_at {h₀ h : Heap} {L : Addr} {x y : Addr × Obj} {whole : List (Addr × Obj)} {G : Prop} (k : Nat) (N : News h₀ L h (x :: y :: whole)) (H : ∀ need rest, need = whole.take k → whole.drop k = rest → News h₀ L h (x :: y :: (need ++ rest)) → G) : G :=
  H _ _ rfl rfl (by rw [List.take_append_drop]; exact N)
def DigestSpec (w : World) (p : Program) (loose : List Str) (mean : ExcName → Option Value) (mg mb : Str → Option Value) (need : List (Addr × Obj)) (d : Addr) (size : Int) : Prop :=
  ∀ (dp un : Nat) (gd : Option (List Code)) (cn : Str) (cs : Scope) (a : Addr) (ccd : Value) (cl : List (Str × Addr)) (outer : List Env) (A₀ : Around) (base h₀ : Heap) (L : Addr) (m : Str → Option Value) (news : List (Addr × Obj)) (s : Shared) (Q E : Value → Shared → Prop),
    Below A₀ base outer h₀ → Fr h₀ L s.heap m → (Mine.K w.params).In h₀ → News h₀ L s.heap news → Top p loose mean mg mb h₀ → cs.kind = .function → (∀ q ∈ need, q ∈ news) → dp + 3 < recursionLimit → un + 30 < cLine →
    (∀ b t h' tk', (b.size : Int) = size → Fr h₀ L h' m → News h₀ L h' news → Q (.bytes b t) { s with heap := h', toks := tk' }) →
    wpAny (model PySem.Challenge.pw_aj5026_02 w) (ktrTop dp un gd cn cs L a ccd cl outer) (call (.ref d) []) Q E s
def FnIn (need : List (Addr × Obj)) (f : Addr) : Prop := ∃ oc od fd sl, (f, (⟨oc, od, .func fd, sl⟩ : Obj)) ∈ need
/-- the first call of a hash that is handed in, without octets -/
def FirstSpec (w : World) (p : Program) (loose : List Str) (mean : ExcName → Option Value) (mg mb : Str → Option Value) (need : List (Addr × Obj)) (f : Addr) (told bl size : Int) (Next : List (Addr × Obj) → Prop) : Prop :=
  ∀ (dp un : Nat) (gd : Option (List Code)) (cn : Str) (cs : Scope) (a : Addr) (ccd : Value) (cl : List (Str × Addr)) (outer : List Env) (A₀ : Around) (base h₀ : Heap) (L : Addr) (m : Str → Option Value) (news : List (Addr × Obj)) (s : Shared) (Q E : Value → Shared → Prop),
    Below A₀ base outer h₀ → Fr h₀ L s.heap m → (Mine.K w.params).In h₀ → News h₀ L s.heap (need ++ news) → Top p loose mean mg mb h₀ → cs.kind = .function → OwnOff news (need.map (·.1)) → dp + 4 < recursionLimit → un + 60 < cLine →
    (∀ need1 hx hdx u d c t1 t2 h' tk', Next need1 → DigestSpec w p loose mean mg mb need1 d size → FnIn need1 d → (∀ q ∈ news, q.1 < hdx) → (∀ q ∈ need1, q.1 < hdx) → @LT.lt Nat _ hdx hx → OwnOff news (need1.map (·.1)) → Fr h₀ L h' m →
      News h₀ L h' ((hx, handObj u (.ref d) c (.int told t1) (.int bl t2) hdx) :: (hdx, emptyDict) :: (need1 ++ news)) → Q (.ref hx) { s with heap := h', toks := tk' }) →
    wpAny (model PySem.Challenge.pw_aj5026_02 w) (ktrTop dp un gd cn cs L a ccd cl outer) (call (.ref f) []) Q E s
def MkTells (w : World) (p : Program) (loose : List Str) (mean : ExcName → Option Value) (mg mb : Str → Option Value) : Prop :=
  ∀ (dp un : Nat) (gd : Option (List Code)) (cn : Str) (cs : Scope) (a : Addr) (ccd : Value) (cl : List (Str × Addr)) (outer : List Env) (A₀ : Around) (base h₀ : Heap) (L : Addr) (m : Str → Option Value) (news : List (Addr × Obj)) (s : Shared) (n bl : Int) (tn tb : Tok)
    (Q E : Value → Shared → Prop),
    Below A₀ base outer h₀ → Fr h₀ L s.heap m → (Mine.K w.params).In h₀ → News h₀ L s.heap ((304, tabObj #[]) :: news) → Top p loose mean mg mb h₀ → cs.kind = .function → CodeHd h₀ 308 304 → OwnOff news [304] → 1 ≤ n → n ≤ 41 → dp + 1 < recursionLimit → un + 8 < cLine →
    (∀ f need lo tab h' tk', FirstSpec w p loose mean mg mb need f n bl n (fun need1 => HashSpec w p loose mean mg mb need1 f n) → FnIn need f → AllLt lo news → @LT.lt Nat _ 304 lo → (∀ q ∈ need, @LE.le Nat _ lo q.1) → Fr h₀ L h' m → News h₀ L h' (need ++ (304, tabObj (#[] ++ #[rawInt (294 : Nat), rawInt (4 : Nat), tab])) :: news) → Q (.ref f) { s with heap := h', toks := tk' }) →
    wpAny (model PySem.Challenge.pw_aj5026_02 w) (ktrTop dp un gd cn cs L a ccd cl outer) (call (.ref 309) [.int n tn, .int bl tb]) Q E s
set_option maxRecDepth 100000 in
set_option maxHeartbeats 8000000 in
theorem mk_tells {w : World} {p : Program} {loose : List Str} {mean : ExcName → Option Value} {mg mb : Str → Option Value} : MkTells w p loose mean mg mb := by
  unfold MkTells
  intro dp un gd cn cs a ccd cl outer A₀ base h₀ L m news s n bl tn tb Q E B F X N T hk hCd hne hn0 hn1 hd hu hret
  refine wpAny_call ?_
  k_dflt cell_enter
  (rename _ ∧ AllLt _ news => hA9)
  have hA := hA9.2
  k_steps
  rename Fr h₀ L _ m => kF
  rename News h₀ L _ _ => kN
  refine take_at 7 kN fun need rest e1 e2 kM => ?_
  dsimp only [List.take, List.drop] at e1 e2
  subst e2
  refine hret _ need _ _ _ _ ?spec ?fn hA hA9.1 ?ge kF kM
  case fn => subst e1; exact ⟨_, _, _, _, .head _⟩
  case ge =>
    subst e1
    repeat (refine List.forall_mem_cons.mpr ⟨by dsimp only; omega, ?_⟩)
    exact List.forall_mem_nil _
  case spec =>
    subst e1
    clear hret kF kN kM hA9 hA hne hk hd hu
    (repeat (rename Fr _ _ _ _ => z9; clear z9)); (repeat (rename News _ _ _ _ => z9; clear z9)); (repeat (rename Below _ _ _ _ => z9; clear z9)); (repeat (rename Top _ _ _ _ _ _ => z9; clear z9)); (repeat (rename Frag.In _ _ => z9; clear z9))
    unfold FirstSpec
    intro dp un gd cn cs a ccd cl outer A₀ base h₀ L m news s Q E B F X N T hk hsep hd hu hret
    simp only [List.cons_append, List.nil_append] at N
    k_steps
    rename Fr h₀ L _ m => kF
    rename News h₀ L _ _ => kN
    rename AllLt _ news => hA
    refine take2_at 18 kN fun need1 rest e1 e2 kM => ?_
    dsimp only [List.take, List.drop] at e1 e2
    subst e2
    refine hret need1 _ _ _ _ _ _ _ _ _ ?next ?dig ?fn ?lt1 ?lt2 ?lt3 ?off kF kM
    case fn => subst e1; exact ⟨_, _, _, _, .tail _ (.tail _ (.tail _ (.head _)))⟩
    case lt1 => (rename _ ∧ _ ∧ _ ∧ _ ∧ _ ∧ _ ∧ _ ∧ _ ∧ _ ∧ _ ∧ _ ∧ _ ∧ _ ∧ _ ∧ _ ∧ _ ∧ _ ∧ _ ∧ AllLt _ news => hB); exact kst_ltOf hB.2.2.2.2.2.2.2.2.2.2.2.2.2.2.2.2.2.2
    case lt2 =>
      subst e1
      repeat (refine List.forall_mem_cons.mpr ⟨by (refine ltN ?_; dsimp only; omega), ?_⟩)
      exact List.forall_mem_nil _
    case lt3 => assumption
    case off =>
      subst e1
      intro p9 hp9 b9 hb9
      have h1 := ltN (kst_ltOf hA p9 hp9)
      have h2 := hsep p9 hp9
      simp only [List.map_cons, List.map_nil, List.forall_mem_cons] at h2
      simp only [List.map_cons, List.map_nil, List.mem_cons, List.not_mem_nil, or_false] at hb9
      rcases hb9 with rfl | rfl | rfl | rfl | rfl | rfl | rfl | rfl | rfl | rfl | rfl | rfl | rfl | rfl | rfl | rfl | rfl | rfl
      all_goals first | (refine neN ?_; omega) | (simp only [h2, ne_eq, not_false_eq_true])
    case dig =>
      subst e1
      clear hret kF kN kM hA hsep hk hd hu
      (repeat (rename Fr _ _ _ _ => z9; clear z9)); (repeat (rename News _ _ _ _ => z9; clear z9)); (repeat (rename Below _ _ _ _ => z9; clear z9)); (repeat (rename Top _ _ _ _ _ _ => z9; clear z9)); (repeat (rename Frag.In _ _ => z9; clear z9))
      unfold DigestSpec
      intro dp un gd cn cs a ccd cl outer A₀ base h₀ L m news s Q E B F X N T hk hneed hd hu hret
      replace N := News.perm N (news' := _ ++ news) (fun p hp => (List.mem_append.mp hp).elim (hneed p) id)
      simp only [List.cons_append, List.nil_append] at N
      clear hneed
      k_steps
      rename Fr h₀ L _ m => kF
      rename News h₀ L _ _ => kN
      rename _ = lawSum _ _ => hb9
      rename _ = n => hz9
      exact hret _ _ _ _ hz9 kF (News.perm kN (fun p hp => by repeat (first | exact hp | refine List.mem_cons_of_mem _ ?_)))
    case next =>
      subst e1
      clear hret kF kN kM hA hsep hk hd hu
      (repeat (rename Fr _ _ _ _ => z9; clear z9)); (repeat (rename News _ _ _ _ => z9; clear z9)); (repeat (rename Below _ _ _ _ => z9; clear z9)); (repeat (rename Top _ _ _ _ _ _ => z9; clear z9)); (repeat (rename Frag.In _ _ => z9; clear z9))
      unfold HashSpec
      intro dp un gd cn cs a ccd cl outer A₀ base h₀ L m news s b t p1 p2 p3 p4 p5 Q E B F X N T hk hneed hb hd hu hpp hk1 hk2 hm1 hm2 hret
      replace N := News.perm N (news' := _ ++ news) (fun p hp => (List.mem_append.mp hp).elim (hneed p) id)
      simp only [List.cons_append, List.nil_append] at N
      clear hneed
      refine methodCall_at hpp ?_ rfl
      k_steps
      rename Fr h₀ L _ m => kF
      rename News h₀ L _ _ => kN
      rename _ = lawSum _ _ => hb9
      rename _ = n => hz9
      exact hret _ _ _ _ hb9 hz9 kF (News.perm kN (fun p hp => by repeat (first | exact hp | refine List.mem_cons_of_mem _ ?_)))
end Mine

end
section
open PySem PySem.Spec PySem.Calls PySem.W PyProof.Rows
set_option Elab.async false
namespace Mine
theorem fillUp9 : (fun (_ : OpenLaw) (_ : Params → Frag) => True) PySem.Challenge.rw_aj5026_02 Mine.K := by
  k_fill
  trivial
theorem first_use3 {w : World} {p : Program} {loose : List Str} {mean : ExcName → Option Value} {mg mb : Str → Option Value} {need : List (Addr × Obj)} {f : Addr} {told bl size : Int} {Next : List (Addr × Obj) → Prop} (H : FirstSpec w p loose mean mg mb need f told bl size Next)
    {dp un : Nat} {gd : Option (List Code)} {cn : Str} {cs : Scope} {a : Addr} {ccd : Value} {cl : List (Str × Addr)} {outer : List Env} {A₀ : Around} {base h₀ : Heap} {L : Addr} {m : Str → Option Value} {news : List (Addr × Obj)} {s : Shared} {p1 p2 p3 : Addr × Obj} {Q E : Value → Shared → Prop}
    (B : Below A₀ base outer h₀) (F : Fr h₀ L s.heap m) (X : (Mine.K w.params).In h₀) (N : News h₀ L s.heap (p1 :: p2 :: p3 :: (need ++ news))) (T : Top p loose mean mg mb h₀) (hk : cs.kind = .function) (hsep : OwnOff news (need.map (·.1)))
    (hlow : AllLt p3.1 (need ++ news)) (h2 : @LT.lt Nat _ p3.1 p2.1) (h1 : @LT.lt Nat _ p3.1 p1.1) (hd : dp + 4 < recursionLimit) (hu : un + 60 < cLine)
    (ret : ∀ need1 hx hdx u d c t1 t2 h' tk', Next need1 → DigestSpec w p loose mean mg mb need1 d size → FnIn need1 d → @LT.lt Nat _ p1.1 hdx → @LT.lt Nat _ p2.1 hdx → @LT.lt Nat _ p3.1 hdx → AllLt hdx news → AllLt hdx need1 → @LT.lt Nat _ hdx hx → OwnOff need1 [p3.1] → Fr h₀ L h' m →
      News h₀ L h' (p1 :: p2 :: p3 :: (hx, handObj u (.ref d) c (.int told t1) (.int bl t2) hdx) :: (hdx, emptyDict) :: (need1 ++ news)) → Q (.ref hx) { s with heap := h', toks := tk' }) :
    wpAny (model PySem.Challenge.pw_aj5026_02 w) (ktrTop dp un gd cn cs L a ccd cl outer) (call (.ref f) []) Q E s := by
  have hl : ∀ q ∈ need, @LT.lt Nat _ q.1 p3.1 := fun q hq => kst_ltOf hlow q (List.mem_append_left _ hq)
  refine H _ _ _ _ _ _ _ _ _ _ _ _ _ _ (p1 :: p2 :: p3 :: news) _ _ _ B F X (News.perm N fun q hq => ?_) T hk ?_ hd hu fun need1 hx hdx u d c t1 t2 h' tk' hn hg hf hl1 hl2 hl3 hoff F' N' => ?_
  · rcases List.mem_append.mp hq with hq | hq
    · exact .tail _ (.tail _ (.tail _ (List.mem_append_left _ hq)))
    · rcases List.mem_cons.mp hq with rfl | hq
      · exact .head _
      · rcases List.mem_cons.mp hq with rfl | hq
        · exact .tail _ (.head _)
        · rcases List.mem_cons.mp hq with rfl | hq
          · exact .tail _ (.tail _ (.head _))
          · exact .tail _ (.tail _ (.tail _ (List.mem_append_right _ hq)))
  · intro q hq b hb
    obtain ⟨r, hr, rfl⟩ := List.mem_map.mp hb
    have h9 := hl r hr
    rcases List.mem_cons.mp hq with rfl | hq
    · exact Nat.ne_of_gt (Nat.lt_trans h9 h1)
    · rcases List.mem_cons.mp hq with rfl | hq
      · exact Nat.ne_of_gt (Nat.lt_trans h9 h2)
      · rcases List.mem_cons.mp hq with rfl | hq
        · exact Nat.ne_of_gt h9
        · exact hsep q hq _ hb
  · refine ret need1 hx hdx u d c t1 t2 h' tk' hn hg hf (hl1 _ (.head _)) (hl1 _ (.tail _ (.head _))) (hl1 _ (.tail _ (.tail _ (.head _)))) (allLt_of fun q hq => hl1 q (.tail _ (.tail _ (.tail _ hq)))) (allLt_of hl2) hl3 ?_ F' (News.perm N' fun q hq => ?_)
    · intro q hq b hb e
      rw [List.mem_singleton.mp hb] at e
      exact hoff p3 (.tail _ (.tail _ (.head _))) q.1 (List.mem_map_of_mem hq) e.symm
    · rcases List.mem_cons.mp hq with rfl | hq
      · exact .tail _ (.tail _ (List.mem_append_right _ (.head _)))
      · rcases List.mem_cons.mp hq with rfl | hq
        · exact .tail _ (.tail _ (List.mem_append_right _ (.tail _ (.head _))))
        · rcases List.mem_cons.mp hq with rfl | hq
          · exact .tail _ (.tail _ (List.mem_append_right _ (.tail _ (.tail _ (.head _)))))
          · rcases List.mem_cons.mp hq with rfl | hq
            · exact .head _
            · rcases List.mem_cons.mp hq with rfl | hq
              · exact .tail _ (.head _)
              · rcases List.mem_append.mp hq with hq | hq
                · exact .tail _ (.tail _ (List.mem_append_left _ hq))
                · exact .tail _ (.tail _ (List.mem_append_right _ (.tail _ (.tail _ (.tail _ hq)))))
theorem dig_use {w : World} {p : Program} {loose : List Str} {mean : ExcName → Option Value} {mg mb : Str → Option Value} {need : List (Addr × Obj)} {f : Addr} {size : Int} (H : DigestSpec w p loose mean mg mb need f size)
    {dp un : Nat} {gd : Option (List Code)} {cn : Str} {cs : Scope} {a : Addr} {ccd : Value} {cl : List (Str × Addr)} {outer : List Env} {A₀ : Around} {base h₀ : Heap} {L : Addr} {m : Str → Option Value} {news : List (Addr × Obj)} {s : Shared} {Q E : Value → Shared → Prop}
    (B : Below A₀ base outer h₀) (F : Fr h₀ L s.heap m) (X : (Mine.K w.params).In h₀) (N : News h₀ L s.heap news) (T : Top p loose mean mg mb h₀) (hk : cs.kind = .function) (hneed : ∀ q ∈ need, q ∈ news) (hd : dp + 3 < recursionLimit) (hu : un + 30 < cLine)
    (ret : ∀ b t h' tk', (b.size : Int) = size → Fr h₀ L h' m → News h₀ L h' news → Q (.bytes b t) { s with heap := h', toks := tk' }) :
    wpAny (model PySem.Challenge.pw_aj5026_02 w) (ktrTop dp un gd cn cs L a ccd cl outer) (call (.ref f) []) Q E s := H _ _ _ _ _ _ _ _ _ _ _ _ _ _ _ _ _ _ B F X N T hk hneed hd hu ret
def InfoTells (w : World) (p : Program) (loose : List Str) (mean : ExcName → Option Value) (mg mb : Str → Option Value) (need : List (Addr × Obj)) (f : Addr) (n bl : Int) (Next : List (Addr × Obj) → Prop) : Prop :=
  ∀ (dp un : Nat) (gd : Option (List Code)) (cn : Str) (cs : Scope) (a : Addr) (ccd : Value) (cl : List (Str × Addr)) (outer : List Env) (A₀ : Around) (base h₀ : Heap) (L : Addr) (m : Str → Option Value) (news : List (Addr × Obj)) (s : Shared) (nm : Addr) (n1 n2 : Str) (u1 u2 : Tok) (k : Nat) (Q E : Value → Shared → Prop),
    Below A₀ base outer h₀ → Fr h₀ L s.heap m → (Mine.K w.params).In h₀ → News h₀ L s.heap (need ++ news) → Top p loose mean mg mb h₀ → cs.kind = .function → OwnOff news (need.map (·.1)) → FnIn need f → (nm, { cls := .type "tuple", data := .seq #[.str n1 u1, .str n2 u2] k }) ∈ news → 1 ≤ n → n ≤ 41 → dp + 8 < recursionLimit → un + 80 < cLine →
    (∀ need1 x dx h1 h2 h3 h4 h5 h6 t1 t2 t3 t4 t5 t6 v1 v2 v3 tn tb h' tk', Next need1 → Fr h₀ L h' m → News h₀ L h' ((x, instObj 155 dx) :: (dx, infoObj h1 h2 h3 h4 h5 h6 t1 t2 t3 t4 t5 t6 v1 v2 v3 f n bl tn tb) :: (need1 ++ news)) → Q (.ref x) { s with heap := h', toks := tk' }) →
    wpAny (model PySem.Challenge.pw_aj5026_02 w) (ktrTop dp un gd cn cs L a ccd cl outer) (call (.ref 155) [.ref f, .ref nm]) Q E s
local macro_rules | `(tactic| k_all) => `(tactic| first | kst_allNe | ((rename AllLt _ _ => hA9); exact allNe_le hA9 (by omega)))
local macro_rules | `(tactic| cell_enter) => `(tactic| (refine' code_def ?k1 ?k2 ?k3 ?k4 ?k5 ?kA ?kF ?kK ?k6 ?k7 ?k8 ?k9 ?kB ?_ ?c2 ?c3 ?c4 ?c5; (case kA => exact rfl); (case kF => exact rfl); (case kK => first | assumption | exact rfl); (case k1 => k_asm); (case k2 => k_asm); (case k3 => k_asm); (case k4 => k_asm); (case k5 => k_asm); (case k6 => k_is); (case k7 => k_is); (case k8 => ktr_room); (case k9 => first | exact BindsTo.of_eq rfl | exact binds_K (by k_in) rfl (by k_is) rfl rfl rfl); (case c5 => decide); (case kB => exact locs rfl); (case c2 => exact rfl); (case c3 => exact rfl); (case c4 => exact rfl); k_whole; intro g' L' h' FG' F' N' B' X' T'; (try dsimp only); (try k_lift B'); (try k_fold)))
local macro_rules | `(tactic| k_room) => `(tactic| ktr_room)
local macro_rules | `(tactic| k_units) => `(tactic| ktr_units)
local macro_rules | `(tactic| ktr_units) => `(tactic| ((have hcL9 := cLine_is); (try simp only [units_under_make, units_in1, units_deeper, Around.mark_units, units_caller]); (try dsimp only [ktrTop]); omega))
local macro_rules | `(tactic| walk_at "ite") => `(tactic| first
  | ((with_reducible show if (_ != _) = true then _ else _); refine ite_neg ?_ ?_; (focus ((simp only [bne_iff_ne, ne_eq, Decidable.not_not]); omega)))
  | ((with_reducible show if (_ != _) = true then _ else _); refine ite_pos ?_ ?_; (focus ((simp only [bne_iff_ne, ne_eq]); omega)))
  | ((with_reducible show if (decide _) = true then _ else _); refine ite_neg ?_ ?_; (focus ((simp only [decide_eq_true_eq]); omega)))
  | ((with_reducible show if (decide _) = true then _ else _); refine ite_pos ?_ ?_; (focus ((simp only [decide_eq_true_eq]); omega))))
local macro_rules | `(tactic| walk_at "exec FunctionDef") => `(tactic| (k_here; (first
  | (k_dflt (refine' def_plain ?d0 ?k0 ?a0 ?_; (case d0 => exact rfl); (case k0 => exact rfl); (case a0 => exact rfl)))
  | (k_dflt (refine' def_bytes_K ?F ?N ?d0 ?k0 ?a0 ?_; (case F => k_asm); (case N => k_asm); (case d0 => exact rfl); (case k0 => exact rfl); (case a0 => exact rfl)); intro dT tT h' tk' F' N' l1; (try k_lt l1); (try k_sweep))); (first
  | (k_dflt (refine' tail_hit ?F ?N ?T ?C ?cd ?mem ?t ?n ?cl ?_; (case F => k_asm); (case N => k_asm); (case T => k_asm); (case cd => exact rfl); (case C => first | exact CodeHd.keeps (by with_reducible assumption) (Fr.keep (by k_asm)) | exact CodeHd.keeps (CodeHd.keeps (by assumption) (Fr.keep (by assumption))) (Fr.keep (by k_asm)) | exact CodeHd.keeps (CodeHd.keeps (by assumption) (Below.stays (by assumption))) (Fr.keep (by k_asm)) | (refine' CodeOf.hd ?ca ?cb ?cc ?ce; (case cb => k_asm); (case cc => k_mem); (case ca => assumption); (case ce => assumption))); (case mem => k_mem); (case t => kn_triples); (case n => kn_hit); (case cl => exact rfl); k_whole); intro f' ct' dc' h' tk' F' N' l1; (try dsimp only at N'); (try k_lt l1); (try k_sweep))
  | (k_dflt (refine' tail_miss ?F ?N ?T ?C ?cd ?U ?t ?n ?cl ?_; (case F => k_asm); (case N => k_asm); (case T => k_asm); (case cd => exact rfl); (case C => first | exact CodeHd.keeps (by with_reducible assumption) (Fr.keep (by k_asm)) | exact CodeHd.keeps (CodeHd.keeps (by assumption) (Fr.keep (by assumption))) (Fr.keep (by k_asm)) | exact CodeHd.keeps (CodeHd.keeps (by assumption) (Below.stays (by assumption))) (Fr.keep (by k_asm)) | (refine' CodeOf.hd ?ca ?cb ?cc ?ce; (case cb => k_asm); (case cc => k_mem); (case ca => assumption); (case ce => assumption))); (case U => k_updF); (case t => kn_triples); (case n => kn_among); (case cl => exact rfl); k_whole); intro f' c' P' oc' ct' dc' h' tk' F' N' C' l1 l2 l3 l4 l5; (try dsimp only at N'); (try k_lt l1); (try k_lt l2); (try k_lt2 l4); (try k_lt2 l5); (try k_sweep)))))
local macro_rules | `(tactic| walk_at "callWith ref") => `(tactic| (k_here; k_dflt (first
  | (refine' callWith_F ?k1 ?_; (case k1 => exact FnAt.of (by k_asm) (by k_mem)); k_whole)
  | (refine' callWith_F0 ?k1 ?_; (case k1 => exact FnAt.of (by k_asm) (by k_mem)); k_whole; try dsimp only [List.nil_append, List.cons_append]))))
local macro_rules | `(tactic| walk_at "call ref") => `(tactic| (k_here; k_dflt (refine wpAny_call ?_; (first
  | (refine' code_own0 ?k1 ?k2 ?k3 ?k4 ?k5 ?kA ?kF ?kK ?k6 ?ka ?kb ?k8 ?k9 ?kB ?_ ?c2 ?c3 ?c4 ?c5; (case kA => exact rfl); (case kF => exact rfl); (case kK => first | assumption | exact rfl); (case k1 => k_asm); (case k2 => k_asm); (case k3 => k_asm); (case k4 => k_asm); (case k5 => k_asm); (case k6 => k_mem); (case c5 => decide); (case ka => k_mem); (case kb => assumption); (case k8 => ktr_room); (case k9 => first | exact BindsTo.of_eq rfl | exact binds_news (by k_asm) (by k_mem) rfl rfl rfl rfl); (case kB => exact locs rfl); (case c2 => exact rfl); (case c3 => exact rfl); (case c4 => exact rfl); k_whole; intro g' L' h' FG' F' N' B' X' T' l1; (try dsimp only); (try k_lt l1); (try k_lift B'); (try k_fold))
  | (refine' code_own ?k1 ?k2 ?k3 ?k4 ?k5 ?kA ?kF ?kK ?k6 ?ka ?kb ?k8 ?k9 ?kB ?_ ?c2 ?c3 ?c4; (case kA => exact rfl); (case kF => exact rfl); (case kK => first | assumption | exact rfl); (case k1 => k_asm); (case k2 => k_asm); (case k3 => k_asm); (case k4 => k_asm); (case k5 => k_asm); (case k6 => k_mem); (case ka => k_mem); (case kb => assumption); (case k8 => ktr_room); (case k9 => first | exact BindsTo.of_eq rfl | exact binds_news (by k_asm) (by k_mem) rfl rfl rfl rfl); (case kB => exact locs rfl); (case c2 => exact rfl); (case c3 => exact rfl); (case c4 => exact rfl); k_whole; intro g' L' h' tk' cells' FG' F' N' Y' B' X' T' l1; (try dsimp only); (try k_lt l1); (try ((have lA9 := l1); (repeat (replace lA9 := lA9.2)))); k_cells Y'; (try simp only [List.cons_append, List.nil_append] at N'); (try k_lift B'); (try k_fold))))))
local macro_rules | `(tactic| walk_at "call ref") => `(tactic| (k_here; k_dflt (first
  | ((with_reducible show wpAny _ _ (call (Value.ref 302) [Value.bytes _ _, Value.int _ _]) _ _ _); refine' sum_use ?k1 ?k2 ?k3 ?k4 ?k5 ?kK ?kb ?k6 ?k7 ?kd ?ku ?_; (case k1 => k_asm); (case k2 => k_asm); (case k3 => k_asm); (case k4 => k_asm); (case k5 => k_asm); (case kK => first | assumption | exact rfl); (case kb => first | assumption | omega | (simp only [lawSum_size, Array.size_append, List.size_toArray, List.length_cons, List.length_nil]; omega)); (case k6 => first | assumption | omega); (case k7 => first | assumption | omega); (case kd => ktr_room); (case ku => ktr_units); intro b9 t9 h9 tk9 hb9 hz9 F9 N9; (try dsimp only); (try k_fold))
  | ((with_reducible show wpAny _ _ (call (Value.ref 285) [_, _, _, _, _]) _ _ _); refine' hand_use ?k1 ?k2 ?k3 ?k4 ?k5 ?kK ?kd ?ku ?_; (case k1 => k_asm); (case k2 => k_asm); (case k3 => k_asm); (case k4 => k_asm); (case k5 => k_asm); (case kK => first | assumption | exact rfl); (case kd => ktr_room); (case ku => ktr_units); intro x9 dx9 h9 tk9 F9 N9 l1 l2; (try dsimp only); (try k_lt l1); (try k_lt2 l2); (try k_fold)))))
local macro_rules | `(tactic| walk_at "getMethod ref") => `(tactic| (k_here; (with_reducible show wpAny _ _ (getMethod (Value.ref _) (PySem.Str.ofString "digest") _) _ _ _); k_dflt (refine' hand_digest ?k1 ?k2 ?k3 ?k4 ?k5 ?kK ?kx ?kdx ?kd ?ku ?kh ?_; (case k1 => k_asm); (case k2 => k_asm); (case k3 => k_asm); (case k4 => k_asm); (case k5 => k_asm); (case kK => first | assumption | exact rfl); (case kx => k_mem); (case kdx => k_mem); (case kd => ktr_room); (case ku => ktr_units); (case kh => rfl); intro h9 tk9 F9 N9; (try dsimp only); (try k_fold))))
local macro_rules | `(tactic| walk_at "getAttr ref") => `(tactic| (k_here; (with_reducible show wpAny _ _ (getAttr (Value.ref _) (PySem.Str.ofString "digest_size") _) _ _ _); k_dflt (refine' hand_size ?k1 ?k2 ?k3 ?k4 ?k5 ?kK ?kx ?kdx ?kd ?ku ?kh ?_; (case k1 => k_asm); (case k2 => k_asm); (case k3 => k_asm); (case k4 => k_asm); (case k5 => k_asm); (case kK => first | assumption | exact rfl); (case kx => k_mem); (case kdx => k_mem); (case kd => ktr_room); (case ku => ktr_units); (case kh => rfl); intro h9 tk9 F9 N9; (try dsimp only); (try k_fold))))
local macro_rules | `(tactic| walk_at "getAttr ref") => `(tactic| (k_here; (with_reducible show wpAny _ _ (getAttr (Value.ref _) (PySem.Str.ofString "block_size") _) _ _ _); k_dflt (refine' hand_block ?k1 ?k2 ?k3 ?k4 ?k5 ?kK ?kx ?kdx ?kd ?ku ?kh ?_; (case k1 => k_asm); (case k2 => k_asm); (case k3 => k_asm); (case k4 => k_asm); (case k5 => k_asm); (case kK => first | assumption | exact rfl); (case kx => k_mem); (case kdx => k_mem); (case kd => ktr_room); (case ku => ktr_units); (case kh => rfl); intro h9 tk9 F9 N9; (try dsimp only); (try k_fold))))
local macro_rules | `(tactic| walk_at "subscriptTail Name Slice ref ref") => `(tactic| (k_here; k_dflt (refine' slice_tuple2 ?F ?N ?t ?a ?z ?e ?_ ?s ?g; (case F => k_asm); (case N => k_asm); (case t => k_mem); (case a => exact Nat.le_of_ble_eq_true rfl); (case z => exact Nat.le_of_ble_eq_true rfl); (case e => exact rfl); (case s => with_unfolding_all rfl); (case g => intro _; with_unfolding_all rfl)); intro D' h' F' N' l1; (try dsimp only [List.toArray]); (try k_lt l1); (try k_sweep)))
local macro_rules | `(tactic| k_mem) => `(tactic| assumption)
local macro_rules | `(tactic| walk_at "subscriptTail") => `(tactic| (k_here; (with_reducible show wpAny _ _ (subscriptTail _ _ (Value.ref _) (Value.int _ _)) _ _ _); k_dflt (refine' item_tupleT ?t ?a ?b ?c ?d ?_; (case t => exact News.isTup (by k_asm) (by k_mem)); (case a => decide); (case b => decide); (case c => rfl); (case d => rfl))))
set_option maxRecDepth 100000 in
set_option maxHeartbeats 8000000 in
theorem info_tells {w : World} {p : Program} {loose : List Str} {mean : ExcName → Option Value} {mg mb : Str → Option Value} {need : List (Addr × Obj)} {f : Addr} {n bl : Int} {Next : List (Addr × Obj) → Prop} (H : FirstSpec w p loose mean mg mb need f n bl n Next) : InfoTells w p loose mean mg mb need f n bl Next := by
  unfold InfoTells
  intro dp un gd cn cs a ccd cl outer A₀ base h₀ L m news s nm n1 n2 u1 u2 k Q E B F X N T hk hsep hfn hnm hn0 hn1 hd hu hret
  obtain ⟨fo1, fo2, fo3, fo4, hfm⟩ := hfn
  replace hfm := List.mem_append_left news hfm
  replace hnm := List.mem_append_right need hnm
  k_dflt (refine' call_cls ?k1 ?k2 ?k3 ?k4 ?k5 ?k6 ?_; (case k1 => k_asm); (case k2 => k_asm); (case k3 => k_asm); (case k4 => k_is); (case k5 => k_is); (case k6 => k_is); k_whole; intro x' d' h' F' N' l1 l2; (have hA := allLt_of l1); (try k_lt2 l2); (try k_sweep); cell_enter)
  k_steps
  show wpAny _ _ (call (.ref f) []) _ _ _
  k_dflt (refine' first_use3 H ?B ?F ?X ?N ?T ?k hsep ?hA ?h2 ?h1 ?d ?u ?_; (case B => k_asm); (case F => k_asm); (case X => k_asm); (case N => k_asm); (case T => k_asm); (case k => rfl); (case hA => exact hA); (case h2 => (refine ltN ?_; dsimp only; omega)); (case h1 => (refine ltN ?_; dsimp only; omega)); (case d => ktr_room); (case u => ktr_units))
  intro need1 hx hdx u d c t1 t2 h9 tk9 hnext hdig hdfn l1 l2 l3 l4 l5 l6 hoff F9 N9
  obtain ⟨fp1, fp2, fp3, fp4, hdm⟩ := hdfn
  replace hdm := List.mem_append_left news hdm
  (try k_fold)
  k_steps
  show wpAny _ _ (call (.ref d) []) _ _ _
  k_dflt (refine' dig_use hdig ?B ?F ?X ?N ?T ?k ?n ?d ?u ?_; (case B => k_asm); (case F => k_asm); (case X => k_asm); (case N => k_asm); (case T => k_asm); (case k => rfl); (case n => exact fun q hq => .tail _ (.tail _ (.tail _ (.tail _ (.tail _ (List.mem_append_left _ hq)))))); (case d => ktr_room); (case u => ktr_units))
  intro b9 t9 h8 tk8 hz9 F8 N8
  (try k_fold)
  k_steps
  rename Fr h₀ L _ m => kF
  rename News h₀ L _ _ => kN
  exact hret need1 x' d' _ _ _ _ _ _ _ _ _ _ _ _ _ _ _ _ _ _ _ hnext kF (News.perm kN (List.forall_mem_cons.mpr ⟨.tail _ (.head _), List.forall_mem_cons.mpr ⟨.tail _ (.tail _ (.head _)), fun q hq => .tail _ (.tail _ (.tail _ (.tail _ (.tail _ hq))))⟩⟩))
end Mine

end
section
open PySem PySem.Spec PySem.Calls PySem.W PyProof.Rows
set_option Elab.async false
namespace Mine
theorem pbk_use {w : World} {p : Program} {loose : List Str} {mean : ExcName → Option Value} {mg mb : Str → Option Value} {need : List (Addr × Obj)} {f : Addr} {n : Int} (H : HashSpec w p loose mean mg mb need f n)
    {dp un : Nat} {gd : Option (List Code)} {cn : Str} {cs : Scope} {a : Addr} {ccd : Value} {cl : List (Str × Addr)} {outer : List Env} {A₀ : Around} {base h₀ : Heap} {L : Addr} {m : Str → Option Value} {news : List (Addr × Obj)} {s : Shared} {ix dx : Addr} {h1 h2 h3 h4 h5 h6 : Int} {t1 t2 t3 t4 t5 t6 : Tok} {v1 v2 v3 : Value} {bl : Int} {tn tb : Tok} {b1 b2 : Array UInt8} {u1 u2 : Tok} {r : Int} {tr : Tok} {Q E : Value → Shared → Prop}
    (a0 : Below A₀ base outer h₀) (a1 : Fr h₀ L s.heap m) (a2 : (Mine.K w.params).In h₀) (a3 : News h₀ L s.heap news) (a4 : Top p loose mean mg mb h₀) (a5 : cs.kind = .function) (a6 : (∀ q ∈ need, q ∈ news)) (a7 : (ix, instObj 155 dx) ∈ news) (a8 : (dx, infoObj h1 h2 h3 h4 h5 h6 t1 t2 t3 t4 t5 t6 v1 v2 v3 f n bl tn tb) ∈ news) (a9 : b1.size + b2.size ≤ 40) (a10 : 1 ≤ r) (a11 : r ≤ 12) (a12 : 5 ≤ n) (a13 : n ≤ 20) (a14 : dp + 10 < recursionLimit) (a15 : un + 80 < cLine) (a16 : (∀ b' t h' tk', b' = lawIter n.toNat r.toNat (b1 ++ b2) → (b'.size : Int) = n → Fr h₀ L h' m → News h₀ L h' news → Q (.bytes b' t) { s with heap := h', toks := tk' })) :
    wpAny (model PySem.Challenge.pw_aj5026_02 w) (ktrTop dp un gd cn cs L a ccd cl outer) (call (.ref 165) [.ref ix, .bytes b1 u1, .bytes b2 u2, .int r tr]) Q E s :=
  pbk_tells H _ _ _ _ _ _ _ _ _ _ _ _ _ _ _ _ _ _ _ _ _ _ _ _ _ _ _ _ _ _ _ _ _ _ _ _ _ _ _ _ _ _ _ _ a0 a1 a2 a3 a4 a5 a6 a7 a8 a9 a10 a11 a12 a13 a14 a15 a16
theorem pbk5_use {w : World} {p : Program} {loose : List Str} {mean : ExcName → Option Value} {mg mb : Str → Option Value} {need : List (Addr × Obj)} {f : Addr} {n : Int} (H : HashSpec w p loose mean mg mb need f n)
    {dp un : Nat} {gd : Option (List Code)} {cn : Str} {cs : Scope} {a : Addr} {ccd : Value} {cl : List (Str × Addr)} {outer : List Env} {A₀ : Around} {base h₀ : Heap} {L : Addr} {m : Str → Option Value} {news : List (Addr × Obj)} {s : Shared} {ix dx : Addr} {h1 h2 h3 h4 h5 h6 : Int} {t1 t2 t3 t4 t5 t6 : Tok} {v1 v2 v3 : Value} {bl : Int} {tn tb : Tok} {b1 b2 : Array UInt8} {u1 u2 : Tok} {r : Int} {tr : Tok} {l : Int} {tl : Tok} {Q E : Value → Shared → Prop}
    (a0 : Below A₀ base outer h₀) (a1 : Fr h₀ L s.heap m) (a2 : (Mine.K w.params).In h₀) (a3 : News h₀ L s.heap news) (a4 : Top p loose mean mg mb h₀) (a5 : cs.kind = .function) (a6 : (∀ q ∈ need, q ∈ news)) (a7 : (ix, instObj 155 dx) ∈ news) (a8 : (dx, infoObj h1 h2 h3 h4 h5 h6 t1 t2 t3 t4 t5 t6 v1 v2 v3 f n bl tn tb) ∈ news) (a9 : b1.size + b2.size ≤ 40) (a10 : 1 ≤ r) (a11 : r ≤ 12) (a12 : 5 ≤ n) (a13 : n ≤ 20) (a14 : 0 ≤ l) (a15 : l ≤ n) (a16 : dp + 10 < recursionLimit) (a17 : un + 80 < cLine) (a18 : (∀ b' t h' tk', b' = ((lawIter n.toNat r.toNat (b1 ++ b2)).toList.take l.toNat).toArray → (b'.size : Int) = l → Fr h₀ L h' m → News h₀ L h' news → Q (.bytes b' t) { s with heap := h', toks := tk' })) :
    wpAny (model PySem.Challenge.pw_aj5026_02 w) (ktrTop dp un gd cn cs L a ccd cl outer) (call (.ref 165) [.ref ix, .bytes b1 u1, .bytes b2 u2, .int r tr, .int l tl]) Q E s :=
  pbk5_tells H _ _ _ _ _ _ _ _ _ _ _ _ _ _ _ _ _ _ _ _ _ _ _ _ _ _ _ _ _ _ _ _ _ _ _ _ _ _ _ _ _ _ _ _ _ _ a0 a1 a2 a3 a4 a5 a6 a7 a8 a9 a10 a11 a12 a13 a14 a15 a16 a17 a18
theorem ref_use {w : World} {p : Program} {loose : List Str} {mean : ExcName → Option Value} {mg mb : Str → Option Value}
    {dp un : Nat} {gd : Option (List Code)} {cn : Str} {cs : Scope} {a : Addr} {ccd : Value} {cl : List (Str × Addr)} {A₀ : Around} {base h₀ : Heap} {L : Addr} {m : Str → Option Value} {news : List (Addr × Obj)} {s : Shared} {ix dx : Addr} {h1 h2 h3 h4 h5 h6 : Int} {t1 t2 t3 t4 t5 t6 : Tok} {v1 v2 v3 : Value} {f : Addr} {n bl : Int} {tn tb : Tok} {r : Int} {tr : Tok} {l : Int} {tl : Tok} {Q E : Value → Shared → Prop}
    (a0 : (Mine.K w.params).In base) (a1 : Top p loose mean mg mb base) (a2 : Below A₀ base [] h₀) (a3 : Fr h₀ L s.heap m) (a4 : (Mine.K w.params).In h₀) (a5 : News h₀ L s.heap news) (a6 : Top p loose mean mg mb h₀) (a7 : cs.kind = .function) (a8 : (ix, instObj 155 dx) ∈ news) (a9 : (dx, infoObj h1 h2 h3 h4 h5 h6 t1 t2 t3 t4 t5 t6 v1 v2 v3 f n bl tn tb) ∈ news) (a10 : 5 ≤ n) (a11 : n ≤ 20) (a12 : (r < 1 ∨ l < 0 ∨ n < l)) (a13 : -2000 ≤ r) (a14 : r ≤ 12) (a15 : -2000 ≤ l) (a16 : l ≤ 2000) (a17 : dp + 12 < recursionLimit) (a18 : un + 100 < cLine) (a19 : (∀ h' tk', Fr h₀ L h' m → News h₀ L h' news → Q (.bool true) { s with heap := h', toks := tk' })) :
    wpAny (model PySem.Challenge.pw_aj5026_02 w) (ktrTop dp un gd cn cs L a ccd cl []) (call (.ref 323) [.ref ix, .int r tr, .int l tl]) Q E s :=
  ref_tells _ _ _ _ _ _ _ _ _ _ _ _ _ _ _ _ _ _ _ _ _ _ _ _ _ _ _ _ _ _ _ _ _ _ _ _ _ _ _ _ _ _ _ a0 a1 a2 a3 a4 a5 a6 a7 a8 a9 a10 a11 a12 a13 a14 a15 a16 a17 a18 a19
theorem iter_more {k : Nat} {r q : Int} {b : Array UInt8} (hr : 0 ≤ r) (hq : 0 ≤ q) : lawIter k q.toNat (lawIter k r.toNat b) = lawIter k (r + q).toNat b := by
  rw [Int.toNat_add hr hq, lawIter_add]
theorem cut_join (b : Array UInt8) {k : Int} (h : 0 ≤ k) : KBy.picked b none (some k) ++ KBy.picked b (some k) none = b := by
  rw [picked_to b h, picked_from b h]
  apply Array.toList_inj.mp
  simp
theorem nil_right (b : Array UInt8) : b ++ #[] = b := by simp
theorem nil_left (b : Array UInt8) : #[] ++ b = b := by simp
section
variable {prog : Program} {w : World} {A : Around} {E : Value → Shared → Prop} {s : Shared} {M : Model}
theorem ne_same {a b : Array UInt8} {t u : Tok} {Q : Value → Shared → Prop} (e : a = b) (h : Q (.bool false) s) : wpAny (model prog w) A (compareOp .NotEq (.bytes a t) (.bytes b u)) Q E s := by
  subst e
  refine ne_bytes ?_
  rw [show (a.toList != a.toList) = false from bne_self_eq_false _]
  exact h
theorem mod_pos {x k : Int} {t u : Tok} {Q : Value → Shared → Prop} (hk : 0 < k) (h : ∀ r t' k', 0 ≤ r → r < k → Q (.int r t') { s with toks := k' }) : wpAny (model prog w) A (binaryOp .Mod (.int x t) (.int k u)) Q E s := by
  have f := (fdiv_fmod_facts x k).2.2.1 hk
  exact mod_int' (by omega) (h _ _ _ f.1 f.2)
theorem store_gen {env : Env} {x : Str} {l : List Int} {t : Tok} {Q : Unit → Shared → Prop} (hs : l.length ≤ 8) (h : ∀ b, b.size ≤ 8 → wpAny M A (storeName env x (.bytes b t)) Q E s) : wpAny M A (storeName env x (.bytes (byteArr l) t)) Q E s :=
  h _ (by rw [byteArr_size]; exact hs)
structure Stop9 (p : Prop) : Prop where
  on : p
theorem stop9 {p : Prop} (h : Stop9 p) : p := h.on
end
end Mine

end
section
open PySem PySem.Spec PySem.Calls PySem.W PyProof.Rows
set_option Elab.async false
namespace Mine
theorem off_cons {q : Addr × Obj} {pre need : List (Addr × Obj)} (h : AllLt q.1 need) (ho : OwnOff pre (need.map (·.1))) : OwnOff (q :: pre) (need.map (·.1)) := by
  intro r hr b hb
  rcases List.mem_cons.mp hr with rfl | hr
  · obtain ⟨z, hz, rfl⟩ := List.mem_map.mp hb
    exact Nat.ne_of_gt (kst_ltOf h z hz)
  · exact ho r hr b hb
theorem mk_use {w : World} {p : Program} {loose : List Str} {mean : ExcName → Option Value} {mg mb : Str → Option Value}
    {dp un : Nat} {gd : Option (List Code)} {cn : Str} {cs : Scope} {a : Addr} {ccd : Value} {cl : List (Str × Addr)} {outer : List Env} {A₀ : Around} {base h₀ : Heap} {L : Addr} {m : Str → Option Value} {pre : List (Addr × Obj)} {s : Shared} {n bl : Int} {tn tb : Tok} {Q E : Value → Shared → Prop}
    (B : Below A₀ base outer h₀) (F : Fr h₀ L s.heap m) (X : (Mine.K w.params).In h₀) (N : News h₀ L s.heap (pre ++ [(304, tabObj #[])])) (T : Top p loose mean mg mb h₀) (hk : cs.kind = .function) (hc : CodeHd h₀ 308 304) (hne : ∀ q ∈ pre, q.1 ≠ 304) (h0 : 1 ≤ n) (h1 : n ≤ 41) (hd : dp + 1 < recursionLimit) (hu : un + 8 < cLine)
    (ret : ∀ f need tab h' tk', FirstSpec w p loose mean mg mb need f n bl n (fun need1 => HashSpec w p loose mean mg mb need1 f n) → FnIn need f → OwnOff (pre ++ [(304, tabObj (#[] ++ #[rawInt (294 : Nat), rawInt (4 : Nat), tab]))]) (need.map (·.1)) → Fr h₀ L h' m →
      News h₀ L h' (pre ++ ((304, tabObj (#[] ++ #[rawInt (294 : Nat), rawInt (4 : Nat), tab])) :: need)) → Q (.ref f) { s with heap := h', toks := tk' }) :
    wpAny (model PySem.Challenge.pw_aj5026_02 w) (ktrTop dp un gd cn cs L a ccd cl outer) (call (.ref 309) [.int n tn, .int bl tb]) Q E s := by
  refine mk_tells _ _ _ _ _ _ _ _ _ _ _ _ _ _ pre _ _ _ _ _ _ _ B F X (News.perm N fun q hq => ?_) T hk hc ?_ h0 h1 hd hu fun f need lo tab h' tk' hf hfn hlo h304 hge F' N' => ?_
  · rcases List.mem_cons.mp hq with rfl | hq
    · exact List.mem_append_right _ (.head _)
    · exact List.mem_append_left _ hq
  · intro q hq b hb
    rw [List.mem_singleton.mp hb]
    exact hne q hq
  · refine ret f need tab h' tk' hf hfn ?_ F' (News.perm N' fun q hq => ?_)
    · intro q hq b hb
      obtain ⟨z, hz, rfl⟩ := List.mem_map.mp hb
      have hz' := hge z hz
      rcases List.mem_append.mp hq with hq | hq
      · exact Nat.ne_of_lt (Nat.lt_of_lt_of_le (kst_ltOf hlo q hq) hz')
      · rw [List.mem_singleton.mp hq]
        exact Nat.ne_of_lt (Nat.lt_of_lt_of_le h304 hz')
    · rcases List.mem_append.mp hq with hq | hq
      · exact List.mem_append_right _ (.tail _ hq)
      · rcases List.mem_cons.mp hq with rfl | hq
        · exact List.mem_append_right _ (.head _)
        · exact List.mem_append_left _ hq
theorem info_use {w : World} {p : Program} {loose : List Str} {mean : ExcName → Option Value} {mg mb : Str → Option Value} {need : List (Addr × Obj)} {f : Addr} {n bl : Int} {Next : List (Addr × Obj) → Prop} (H : FirstSpec w p loose mean mg mb need f n bl n Next)
    {dp un : Nat} {gd : Option (List Code)} {cn : Str} {cs : Scope} {a : Addr} {ccd : Value} {cl : List (Str × Addr)} {outer : List Env} {A₀ : Around} {base h₀ : Heap} {L : Addr} {m : Str → Option Value} {pre : List (Addr × Obj)} {s : Shared} {nm : Addr} {n1 n2 : Str} {u1 u2 : Tok} {k : Nat} {Q E : Value → Shared → Prop}
    (B : Below A₀ base outer h₀) (F : Fr h₀ L s.heap m) (X : (Mine.K w.params).In h₀) (N : News h₀ L s.heap (pre ++ need)) (T : Top p loose mean mg mb h₀) (hk : cs.kind = .function) (hsep : OwnOff pre (need.map (·.1))) (hfn : FnIn need f)
    (hnm : (nm, { cls := .type "tuple", data := .seq #[.str n1 u1, .str n2 u2] k }) ∈ pre) (h0 : 1 ≤ n) (h1 : n ≤ 41) (hd : dp + 8 < recursionLimit) (hu : un + 80 < cLine)
    (ret : ∀ need1 x dx h1 h2 h3 h4 h5 h6 t1 t2 t3 t4 t5 t6 v1 v2 v3 tn tb h' tk', Next need1 → Fr h₀ L h' m → News h₀ L h' ((x, instObj 155 dx) :: (dx, infoObj h1 h2 h3 h4 h5 h6 t1 t2 t3 t4 t5 t6 v1 v2 v3 f n bl tn tb) :: (pre ++ need1)) → Q (.ref x) { s with heap := h', toks := tk' }) :
    wpAny (model PySem.Challenge.pw_aj5026_02 w) (ktrTop dp un gd cn cs L a ccd cl outer) (call (.ref 155) [.ref f, .ref nm]) Q E s := by
  refine info_tells H _ _ _ _ _ _ _ _ _ _ _ _ _ _ pre _ nm n1 n2 u1 u2 k _ _ B F X (News.perm N fun q hq => ?_) T hk hsep hfn hnm h0 h1 hd hu fun need1 x dx h1 h2 h3 h4 h5 h6 t1 t2 t3 t4 t5 t6 v1 v2 v3 tn tb h' tk' hn F' N' => ret need1 x dx h1 h2 h3 h4 h5 h6 t1 t2 t3 t4 t5 t6 v1 v2 v3 tn tb h' tk' hn F' (News.perm N' fun q hq => ?_)
  · exact (List.mem_append.mp hq).elim (List.mem_append_right _) (List.mem_append_left _)
  · rcases List.mem_cons.mp hq with rfl | hq
    · exact .head _
    · rcases List.mem_cons.mp hq with rfl | hq
      · exact .tail _ (.head _)
      · exact .tail _ (.tail _ ((List.mem_append.mp hq).elim (List.mem_append_right _) (List.mem_append_left _)))
theorem picked_le (b : Array UInt8) (lo hi : Option Int) : (KBy.picked b lo hi).size ≤ b.size := by
  rw [KBc.picked_eq]
  simp only [List.size_toArray, List.length_take, List.length_drop, Array.length_toList]
  omega
section
variable {prog : Program} {w : World} {A : Around} {E : Value → Shared → Prop} {s : Shared} {value slice : PySem.Expr} {b : Array UInt8} {t : Tok} {h₀ : Heap} {L : Addr} {m : PySem.Str → Option Value} {news : List (Addr × Obj)} {l u : Value} {lo hi : Option Int} {Q : Value → Shared → Prop}
theorem slice_le (hF : Fr h₀ L s.heap m) (hN : News h₀ L s.heap news) (hl : IsPart l lo) (hu : IsPart u hi) (hz : b.size ≤ 64)
    (h : ∀ h' d t' k, d = KBy.picked b lo hi → d.size ≤ b.size → Fr h₀ L h' m → News h₀ L h' news → Q (.bytes d t') { s with heap := h', toks := k })
    (hs : subscripted slice false (.bytes b t) (.ref s.heap.objs.size) = operate [.ref s.heap.objs.size, .bytes b t] (getItem (.bytes b t) (.ref s.heap.objs.size)))
    (ht : ∀ r, letTemporaryGo value (.bytes b t) r = pure ()) :
    wpAny (model prog w) A (subscriptTail value slice (.bytes b t) (.ref s.heap.objs.size)) Q E { s with heap := s.heap.push { cls := .type "slice", data := .fields #[l, u, .none] } } :=
  slice_b hF hN hl hu hz (fun h' d t' k e F N => h h' d t' k e (by rw [e]; exact picked_le b lo hi) F N) hs ht
end
end Mine

end
section
open PySem PySem.Spec PySem.Calls PySem.W PyProof.Rows
set_option Elab.async false
namespace Mine
theorem fillUpW : (fun (_ : OpenLaw) (_ : Params → Frag) => True) PySem.Challenge.rw_aj5026_02 Mine.K := by
  k_fill
  trivial
theorem ints_map4 {ys : List Value} {f : Int → Int} (h : IntsAre ys (List.map f (rangeKs 0 ((4 : Int) - 0).toNat))) : ∃ t1 t2 t3 t4, ys = [.int (f 0) t1, .int (f 1) t2, .int (f 2) t3, .int (f 3) t4] := by
  have e : rangeKs 0 ((4 : Int) - 0).toNat = [0, 1, 2, 3] := by decide
  rw [e] at h
  cases h with
  | cons _ _ h => cases h with
    | cons _ _ h => cases h with
      | cons _ _ h => cases h with
        | cons _ _ h => cases h; exact ⟨_, _, _, _, rfl⟩
local macro_rules | `(tactic| walk_at "assign Tuple cons ref") => `(tactic| (k_here; (rename IntsAre _ (List.map _ (rangeKs 0 _)) => hI4); (obtain ⟨t41, t42, t43, t44, hE4⟩ := ints_map4 hI4); subst hE4; clear hI4))
local macro_rules | `(tactic| ktr_units) => `(tactic| ((have hcL9 := cLine_is); (try simp only [units_under_make, units_in1, units_deeper, Around.mark_units, units_caller]); (try dsimp only [ktrTop]); omega))
local macro_rules | `(tactic| walk_at "ite") => `(tactic| first
  | ((with_reducible show if (_ != _) = true then _ else _); refine ite_neg ?_ ?_; (focus ((simp only [bne_iff_ne, ne_eq, Decidable.not_not]); omega)))
  | ((with_reducible show if (_ != _) = true then _ else _); refine ite_pos ?_ ?_; (focus ((simp only [bne_iff_ne, ne_eq]); omega)))
  | ((with_reducible show if (decide _) = true then _ else _); refine ite_neg ?_ ?_; (focus ((simp only [decide_eq_true_eq]); omega)))
  | ((with_reducible show if (decide _) = true then _ else _); refine ite_pos ?_ ?_; (focus ((simp only [decide_eq_true_eq]); omega))))
local macro_rules | `(tactic| walk_at "call ref") => `(tactic| (k_here; k_dflt ((with_reducible show wpAny _ _ (call (Value.ref 302) [Value.bytes _ _, Value.int _ _]) _ _ _); refine' sum_use ?k1 ?k2 ?k3 ?k4 ?k5 ?kK ?kb ?k6 ?k7 ?kd ?ku ?_; (case k1 => k_asm); (case k2 => k_asm); (case k3 => k_asm); (case k4 => k_asm); (case k5 => k_asm); (case kK => first | assumption | exact rfl); (case kb => first | assumption | omega | (simp only [lawSum_size, Array.size_append, List.size_toArray, List.length_cons, List.length_nil]; omega)); (case k6 => first | assumption | omega); (case k7 => first | assumption | omega); (case kd => ktr_room); (case ku => ktr_units); intro b9 t9 h9 tk9 hb9 hz9 F9 N9; (try dsimp only); (try k_fold))))
local macro_rules | `(tactic| walk_at "call ref") => `(tactic| (k_here; (with_reducible show wpAny _ _ (call (Value.ref 316) [Value.int _ _]) _ _ _); k_dflt (refine' sizes_use ?k1 ?k2 ?k3 ?k4 ?k5 ?kK ?kd ?ku ?_; (case k1 => k_asm); (case k2 => k_asm); (case k3 => k_asm); (case k4 => k_asm); (case k5 => k_asm); (case kK => first | assumption | exact rfl); (case kd => ktr_room); (case ku => ktr_units); intro x9 n9 bl9 t19 t29 h9 tk9 F9 N9 l1 hn1 hn2; (try dsimp only); (try k_lt l1); (try k_fold))))
local macro_rules | `(tactic| walk_at "binaryOp Add bytes bytes") => `(tactic| (k_here; refine add_b (by first | assumption | omega) ?_; intro d9 t9 k9 hd9 hz9))
local macro_rules | `(tactic| walk_at "exec For Name Call cons nil") => `(tactic| (k_here; (rename Fr _ _ _ _ => lF'); (with_unfolding_all refine' For_invVF lF' ?k1 ?k2 ?_; (case k1 => exact rfl); (case k2 => exact rfl); k_whole)))
local macro_rules | `(tactic| walk_at "subscriptTail") => `(tactic| (k_here; (try dsimp only); (with_reducible show wpAny _ _ (subscriptTail _ (PySem.Expr.Slice _ _ none _) (Value.bytes _ _) (Value.ref _)) _ _ _); (rename Fr _ _ _ _ => F'); (rename News _ _ _ _ => N'); (refine slice_le (s := ⟨_, _, _, _, _⟩) F' N' (by constructor) (by constructor) (by first | assumption | omega) ?_ (by with_unfolding_all rfl) (by intro _; with_unfolding_all rfl)); intro h9 d9 t9 k9 hd9 hz9 F9 N9))
local macro_rules | `(tactic| walk_at "pyIter ref") => `(tactic| ((with_reducible show wpAny _ _ (pyIter (Value.ref _)) (fun it s₂ => LoopAtV _ _ _ _ _ _ _ _ _ it s₂) _ _); k_here; k_dflt ((rename Fr _ _ _ _ => lF'); (rename News _ _ _ _ => lN'); (rename IsRange _ _ _ _ _ _ _ _ => rgX); (rename HashSpec _ _ _ _ _ _ _ _ _ => hH9); (with_unfolding_all refine' rounds_loop (l := PySem.Str.ofString "due") (kk := kkOf hH9) ?hh rgX ?h1 ?h2 lF' lN' ?hm ?hb ?turn ?done); (case hh => rfl); (case h1 => omega); (case h2 => omega); (case hm => exact if_pos rfl); (case hb => omega); (case' turn => ((try clear lF' lN'); intro b8 tb8 pre8 k8 t8 u8 h8 tk8 own8 hb8 hs8 ho8 F8 N8; (try k_fold))); (case' done => ((try clear lF' lN'); intro b8 tb8 u8 h8 tk8 hb8 hs8 F8 N8; (try k_fold))))))
local macro_rules | `(tactic| walk_at "InvEndN") => `(tactic| (k_dflt ((rename _ = lawSum _ _ => hb9); (refine' rounds_end ?F ?N ?hn ?ho ?hk ?hr ?hp ?hs); (case F => k_asm); (case N => k_asm); (case hn => exact fun p hp => List.mem_append_left _ hp); (case ho => exact fun p hp => List.mem_append_right _ hp); (case hk => exact if_pos rfl); (case hr => (intro z9 h1 h2; simp only [if_neg h1, if_neg h2])); (case hp => exact rounds_step hb9 (by assumption)); (case hs => omega))))
local macro_rules | `(tactic| walk_at "call ref") => `(tactic| (k_here; first
  | ((with_reducible show wpAny _ _ (call (Value.ref 309) [_, _]) _ _ _); refine stop9 ?_)
  | ((with_reducible show wpAny _ _ (call (Value.ref 155) [_, _]) _ _ _); refine stop9 ?_)))
local macro_rules | `(tactic| walk_at "storeName") => `(tactic| (k_here; (with_reducible show wpAny _ _ (storeName _ _ (Value.bytes (byteArr _) _)) _ _ _); k_dflt (refine store_gen (by (simp only [List.length_map, rangeKs_length]; omega)) ?_; intro b9 hb9)))
local macro_rules | `(tactic| walk_at "compareOp NotEq bytes bytes") => `(tactic| (k_here; k_dflt (refine ne_same ?eq ?_; (case eq => ((repeat (rename Fr _ _ _ _ => z9; clear z9)); (repeat (rename News _ _ _ _ => z9; clear z9)); (repeat (rename (Nat.cast (Array.size _) : Int) = _ => z9; clear z9)); subst_vars; first
  | with_reducible rfl
  | (rw [nil_right]; exact (iter_more (by omega) (by omega)))
  | (rw [nil_left]; exact (iter_more (by omega) (by omega)))
  | (rw [cut_join _ (by omega)])
  | (rw [nil_right])
  | (rw [picked_to _ (by omega)])
  | (rfl))))))
local macro_rules | `(tactic| walk_at "binaryOp Mod int int") => `(tactic| (k_here; (first | (with_reducible show wpAny _ _ (binaryOp _ (Value.int _ _) (Value.int (_ + 1) _)) _ _ _) | (with_reducible show wpAny _ _ (binaryOp _ (Value.int _ _) (Value.int 6 _)) _ _ _) | (with_reducible show wpAny _ _ (binaryOp _ (Value.int _ _) (Value.int 1000 _)) _ _ _)); k_dflt (refine mod_pos (by omega) ?_; intro r9 t9 k9 hr9 hs9)))
local macro_rules | `(tactic| walk_at "call ref") => `(tactic| (k_here; k_dflt ((rename HashSpec _ _ _ _ _ _ _ _ _ => hH9); first
  | ((with_reducible show wpAny _ _ (call (Value.ref 165) [Value.ref _, Value.bytes _ _, Value.bytes _ _, Value.int _ _]) _ _ _); (refine' pbk_use hH9 ?k1 ?k2 ?k3 ?k4 ?k5 ?kK ?kn ?kx ?kdx ?b1 ?b2 ?b3 ?b4 ?b5 ?kd ?ku ?_; (case k1 => k_asm); (case k2 => k_asm); (case k3 => k_asm); (case k4 => k_asm); (case k5 => k_asm); (case kK => first | assumption | exact rfl); (case kn => exact (fun q9 hq9 => by repeat (first | exact hq9 | refine List.mem_cons_of_mem _ ?_))); (case kx => k_mem); (case kdx => k_mem); (case b1 => ((try simp only [List.size_toArray, List.length_nil]); omega)); (case b2 => omega); (case b3 => omega); (case b4 => omega); (case b5 => omega); (case kd => ktr_room); (case ku => ktr_units); intro b9 t9 h9 tk9 hb9 hz9 F9 N9; (try dsimp only); (try k_fold)))
  | ((with_reducible show wpAny _ _ (call (Value.ref 165) [Value.ref _, Value.bytes _ _, Value.bytes _ _, Value.int _ _, Value.int _ _]) _ _ _); (refine' pbk5_use hH9 ?k1 ?k2 ?k3 ?k4 ?k5 ?kK ?kn ?kx ?kdx ?b1 ?b2 ?b3 ?b4 ?b5 ?b6 ?b7 ?kd ?ku ?_; (case k1 => k_asm); (case k2 => k_asm); (case k3 => k_asm); (case k4 => k_asm); (case k5 => k_asm); (case kK => first | assumption | exact rfl); (case kn => exact (fun q9 hq9 => by repeat (first | exact hq9 | refine List.mem_cons_of_mem _ ?_))); (case kx => k_mem); (case kdx => k_mem); (case b1 => ((try simp only [List.size_toArray, List.length_nil]); omega)); (case b2 => omega); (case b3 => omega); (case b4 => omega); (case b5 => omega); (case b6 => omega); (case b7 => omega); (case kd => ktr_room); (case ku => ktr_units); intro b9 t9 h9 tk9 hb9 hz9 F9 N9; (try dsimp only); (try k_fold)))
  | ((with_reducible show wpAny _ _ (call (Value.ref 323) [Value.ref _, Value.int _ _, Value.int _ _]) _ _ _); (refine' ref_use ?kxb ?ktb ?k1 ?k2 ?k3 ?k4 ?k5 ?kK ?kx ?kdx ?b1 ?b2 ?b3 ?b4 ?b5 ?b6 ?b7 ?kd ?ku ?_; (case kxb => k_asm); (case ktb => k_asm); (case k1 => k_asm); (case k2 => k_asm); (case k3 => k_asm); (case k4 => k_asm); (case k5 => k_asm); (case kK => first | assumption | exact rfl); (case kx => k_mem); (case kdx => k_mem); (case b1 => omega); (case b2 => omega); (case b3 => omega); (case b4 => omega); (case b5 => omega); (case b6 => omega); (case b7 => omega); (case kd => ktr_room); (case ku => ktr_units); intro h9 tk9 F9 N9; (try dsimp only); (try k_fold))))))
set_option maxRecDepth 100000 in
set_option maxHeartbeats 8000000 in
theorem walk02 : PySem.Challenge.rw_aj5026_02.Holds := Mine.hd (by
  intro w s₀ s₁ mg mb G Y fa o pm cd doc dV kV ho hd hcd hD hmg hg args vals as hpre hlay hrd hwl hlo
  have KX := pk_in k_alive k_part Y
  have hT8 := pk_tabs k_alive k_tabs Y
  have X := (Ground.X G).1
  have V := (Ground.X G).2
  refine Ground.open G ?_
  intro T B D TE TW
  try (refine guard_noD D (by decide +kernel) ?_; clear D)
  km_lay T hmg ho hd cd
  clear hmg
  wrow_args hpre hlay hrd hwl hlo
  all_goals (
    first | refine callC_kw (enter_call ?_) | refine enter_call ?_
    w_top on
    kn_posts
    w_call any ho hd hcd hD T F
    clear hd
    kn_ghosts F T
    k_drop
    skip)
  (all_goals try k_fold)
  k_steps
  apply Stop9.mk
  k_dflt (refine' mk_use (pre := [_, _, _]) ?k1 ?k2 ?k3 ?k4 ?k5 ?kK ?kc ?kne ?b1 ?b2 ?kd ?ku ?_; (case k1 => k_asm); (case k2 => k_asm); (case k3 => k_asm); (case k4 => k_asm); (case k5 => k_asm); (case kK => exact rfl); (case kc => assumption); (case kne => k_all); (case b1 => omega); (case b2 => omega); (case kd => ktr_room); (case ku => ktr_units))
  intro fM needM tabM hM tkM hFirst hFn hOff FM NM
  simp only [List.cons_append, List.nil_append] at NM
  (try k_sweep)
  (try dsimp only)
  (try k_fold)
  k_steps
  apply Stop9.mk
  (rename _ ∧ _ ∧ _ ∧ _ ∧ AllLt _ needM => hZ)
  have hZZ := hZ.2.2.2.2
  k_dflt (refine' info_use hFirst (pre := [_, _, _, _, _]) ?k1 ?k2 ?k3 ?k4 ?k5 ?kK ?ks hFn ?kn ?b1 ?b2 ?kd ?ku ?_; (case k1 => k_asm); (case k2 => k_asm); (case k3 => k_asm); (case k4 => k_asm); (case k5 => k_asm); (case kK => exact rfl); (case ks => exact off_cons hZZ hOff); (case kn => exact .head _); (case b1 => omega); (case b2 => omega); (case kd => ktr_room); (case ku => ktr_units))
  intro needN xN dxN e1 e2 e3 e4 e5 e6 y1 y2 y3 y4 y5 y6 z1 z2 z3 ty tz hN tkN hNext FN NN
  simp only [List.cons_append, List.nil_append] at NN
  (try dsimp only at hNext)
  clear hFirst hFn hOff hZ hZZ
  (try k_sweep)
  (try dsimp only)
  (try k_fold)
  k_steps)
end Mine

end
set_option maxRecDepth 100000 in
theorem PySem.Challenge.cw_aj5026_02_holds : PySem.Challenge.rw_aj5026_02.Holds := by
  exact Mine.walk02
