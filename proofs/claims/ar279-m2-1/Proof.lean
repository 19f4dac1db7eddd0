import JvmDerived
import JvmDerived.Pilot.@@N@@Statement
import JvmDerived.Pilot.@@N@@Code
set_option linter.unusedVariables false
set_option linter.unusedSimpArgs false
@@BLOCK:NumsL.lean.txt@@
namespace Jvm.RoadKit
open Sem ClassFile Op Lib Jvm.Stand Jvm.Free Jvm.LawKit
section New
variable {p : Program} {l : Launch} {e : Env} {R : Room} {s : State} {m : MethodId} {args : Array Value} {below : List Frame} {meth : Method} {c : Code} {T : State} {locs : List Loc} {cells slots : Nat}
theorem retI (X : Stand p l e R s m args below meth c T locs cells slots) (hx : p.tables.exec = Jvm.exec) {pc : Nat} {Ls : Array Slot} {z : Int32} {rest : List Value} (hret : meth.sig.returnType = some .int) (hd : decode c.code pc = .ok (.ireturn, 1)) {fs : List Frame}
    (hl : ∀ (f : JFrame) (acts : List Action), f.method = m → f.locked = none → f.entered = [] → (doReturn e (T.setTop f) acts (some (.int z))).1 = T.setFrames fs) : Steps p.tables e below (T.setTop (mkF m pc Ls (.int z :: rest))) (T.setFrames fs) := by
  have hm' : T.vm.method? m = some meth := X.method'
  have hn : narrow .int (.int z) = .int z := rfl
  show Steps p.tables e below (T.setTop { method := m, pc := pc, locals := Ls, stack := _ :: rest, locked := none }) _
  jvm_step X.here [X.here.top, hx, hd, hm', hret, hn]
  first | (intro acts; rw [hl _ acts rfl rfl rfl]) | rw [hl _ _ rfl rfl rfl]
  exact Steps.refl _
end New
end Jvm.RoadKit
namespace Jvm.Pilot.@@N@@
open Jvm Jvm.ClassFile Sem Op Lib Jvm.Free Jvm.Stand Jvm.LawKit Jvm.RoadKit Bundle Jvm.Pilot.@@N@@.Jvm.D
/-- from A the run comes to wherever it comes from B -/
def Lead (p : Program) (e : Env) (below : List Frame) (A B : State) : Prop := ∀ t, Steps p.tables e below A t → Steps p.tables e below B t
theorem own_lcl (x y : Int64) : lcmpW x y < 0 ↔ x < y := by rw [lcW]; exact lc_lt x y
theorem own_lcg (x y : Int64) : 0 < lcmpW x y ↔ y < x := by rw [lcW]; exact lc_gt x y
theorem own_lce (x y : Int64) : lcmpW x y = 0 ↔ x = y := by rw [lcW]; exact lc_eq x y
theorem own_extwr {h0 h h' : Heap} {a : Addr} {sl : Nat} {v : Value} (E : Ext h0 h) (W : Wr h h' a sl v) (q : h0.size ≤ a) : Ext h0 h' := by
  refine ⟨by rw [W.size]; exact E.1, fun x c r => ?_⟩
  obtain ⟨cb', g1, -, -, -, g2, -⟩ := wr_at W (E.2 x c r)
  rw [g1, g2 (Nat.ne_of_lt (Nat.lt_of_lt_of_le (Array.getElem?_eq_some_iff.mp r).1 q))]
theorem pn_0 : plainName "com/example/vertaler/vertaler/core/model/BinaryOperatorIsDecidedByPinLaw" = true := by first | (simp [plainName, overriddenIn]; done) | decide +kernel
theorem pd_0 : parseMethodDescriptor "(IIII)Z" = some ⟨[.int, .int, .int, .int], some .boolean⟩ := by decide +kernel
theorem d1_0 : decode prog_16_method_9_code 0 = .ok (.aload_n 0, 1) := by decide +kernel
theorem d1_1 : decode prog_16_method_9_code 1 = .ok (.getstatic 7, 3) := by decide +kernel
theorem d1_4 : decode prog_16_method_9_code 4 = .ok (.if_acmp .ne 7, 3) := by decide +kernel
theorem d1_7 : decode prog_16_method_9_code 7 = .ok (.iload_n 1, 1) := by decide +kernel
theorem d1_8 : decode prog_16_method_9_code 8 = .ok (.ifCond .eq 15, 3) := by decide +kernel
theorem d1_11 : decode prog_16_method_9_code 11 = .ok (.aload_n 0, 1) := by decide +kernel
theorem d1_12 : decode prog_16_method_9_code 12 = .ok (.getstatic 3, 3) := by decide +kernel
theorem d1_15 : decode prog_16_method_9_code 15 = .ok (.if_acmp .ne 12, 3) := by decide +kernel
theorem d1_18 : decode prog_16_method_9_code 18 = .ok (.iload_n 1, 1) := by decide +kernel
theorem d1_19 : decode prog_16_method_9_code 19 = .ok (.iconst 1, 1) := by decide +kernel
theorem d1_20 : decode prog_16_method_9_code 20 = .ok (.if_icmp .ne 7, 3) := by decide +kernel
theorem d1_23 : decode prog_16_method_9_code 23 = .ok (.iconst 1, 1) := by decide +kernel
theorem d1_24 : decode prog_16_method_9_code 24 = .ok (.goto 4, 3) := by decide +kernel
theorem d1_27 : decode prog_16_method_9_code 27 = .ok (.iconst 0, 1) := by decide +kernel
theorem d1_28 : decode prog_16_method_9_code 28 = .ok (.ireturn, 1) := by decide +kernel
theorem pn_1 : plainName "com/example/vertaler/vertaler/core/model/BinaryOperator" = true := by first | (simp [plainName, overriddenIn]; done) | decide +kernel
theorem pd_1 : parseMethodDescriptor "(I)Z" = some ⟨[.int], some .boolean⟩ := by decide +kernel
theorem d2_0 : decode prog_16_method_10_code 0 = .ok (.aload_n 0, 1) := by decide +kernel
theorem d2_1 : decode prog_16_method_10_code 1 = .ok (.invokevirtual 77, 3) := by decide +kernel
theorem d2_4 : decode prog_16_method_10_code 4 = .ok (.tableswitch 206 0 12 #[68, 76, 84, 98, 112, 126, 140, 154, 168, 168, 168, 178, 192], 68) := by decide +kernel
theorem d2_72 : decode prog_16_method_10_code 72 = .ok (.iload_n 1, 1) := by decide +kernel
theorem d2_73 : decode prog_16_method_10_code 73 = .ok (.iload_n 2, 1) := by decide +kernel
theorem d2_74 : decode prog_16_method_10_code 74 = .ok (.ior, 1) := by decide +kernel
theorem d2_75 : decode prog_16_method_10_code 75 = .ok (.i2l, 1) := by decide +kernel
theorem d2_76 : decode prog_16_method_10_code 76 = .ok (.lstore_n 3, 1) := by decide +kernel
theorem d2_77 : decode prog_16_method_10_code 77 = .ok (.goto 142, 3) := by decide +kernel
theorem d2_80 : decode prog_16_method_10_code 80 = .ok (.iload_n 1, 1) := by decide +kernel
theorem d2_81 : decode prog_16_method_10_code 81 = .ok (.iload_n 2, 1) := by decide +kernel
theorem d2_82 : decode prog_16_method_10_code 82 = .ok (.iand, 1) := by decide +kernel
theorem d2_83 : decode prog_16_method_10_code 83 = .ok (.i2l, 1) := by decide +kernel
theorem d2_84 : decode prog_16_method_10_code 84 = .ok (.lstore_n 3, 1) := by decide +kernel
theorem d2_85 : decode prog_16_method_10_code 85 = .ok (.goto 134, 3) := by decide +kernel
theorem d2_88 : decode prog_16_method_10_code 88 = .ok (.iload_n 1, 1) := by decide +kernel
theorem d2_89 : decode prog_16_method_10_code 89 = .ok (.iload_n 2, 1) := by decide +kernel
theorem d2_90 : decode prog_16_method_10_code 90 = .ok (.if_icmp .ne 7, 3) := by decide +kernel
theorem d2_93 : decode prog_16_method_10_code 93 = .ok (.lconst 1, 1) := by decide +kernel
theorem d2_94 : decode prog_16_method_10_code 94 = .ok (.goto 4, 3) := by decide +kernel
theorem d2_97 : decode prog_16_method_10_code 97 = .ok (.lconst 0, 1) := by decide +kernel
theorem d2_98 : decode prog_16_method_10_code 98 = .ok (.lstore_n 3, 1) := by decide +kernel
theorem d2_99 : decode prog_16_method_10_code 99 = .ok (.goto 120, 3) := by decide +kernel
theorem d2_102 : decode prog_16_method_10_code 102 = .ok (.iload_n 1, 1) := by decide +kernel
theorem d2_103 : decode prog_16_method_10_code 103 = .ok (.iload_n 2, 1) := by decide +kernel
theorem d2_104 : decode prog_16_method_10_code 104 = .ok (.if_icmp .eq 7, 3) := by decide +kernel
theorem d2_107 : decode prog_16_method_10_code 107 = .ok (.lconst 1, 1) := by decide +kernel
theorem d2_108 : decode prog_16_method_10_code 108 = .ok (.goto 4, 3) := by decide +kernel
theorem d2_111 : decode prog_16_method_10_code 111 = .ok (.lconst 0, 1) := by decide +kernel
theorem d2_112 : decode prog_16_method_10_code 112 = .ok (.lstore_n 3, 1) := by decide +kernel
theorem d2_113 : decode prog_16_method_10_code 113 = .ok (.goto 106, 3) := by decide +kernel
theorem d2_116 : decode prog_16_method_10_code 116 = .ok (.iload_n 1, 1) := by decide +kernel
theorem d2_117 : decode prog_16_method_10_code 117 = .ok (.iload_n 2, 1) := by decide +kernel
theorem d2_118 : decode prog_16_method_10_code 118 = .ok (.if_icmp .ge 7, 3) := by decide +kernel
theorem d2_121 : decode prog_16_method_10_code 121 = .ok (.lconst 1, 1) := by decide +kernel
theorem d2_122 : decode prog_16_method_10_code 122 = .ok (.goto 4, 3) := by decide +kernel
theorem d2_125 : decode prog_16_method_10_code 125 = .ok (.lconst 0, 1) := by decide +kernel
theorem d2_126 : decode prog_16_method_10_code 126 = .ok (.lstore_n 3, 1) := by decide +kernel
theorem d2_127 : decode prog_16_method_10_code 127 = .ok (.goto 92, 3) := by decide +kernel
theorem d2_130 : decode prog_16_method_10_code 130 = .ok (.iload_n 1, 1) := by decide +kernel
theorem d2_131 : decode prog_16_method_10_code 131 = .ok (.iload_n 2, 1) := by decide +kernel
theorem d2_132 : decode prog_16_method_10_code 132 = .ok (.if_icmp .gt 7, 3) := by decide +kernel
theorem d2_135 : decode prog_16_method_10_code 135 = .ok (.lconst 1, 1) := by decide +kernel
theorem d2_136 : decode prog_16_method_10_code 136 = .ok (.goto 4, 3) := by decide +kernel
theorem d2_139 : decode prog_16_method_10_code 139 = .ok (.lconst 0, 1) := by decide +kernel
theorem d2_140 : decode prog_16_method_10_code 140 = .ok (.lstore_n 3, 1) := by decide +kernel
theorem d2_141 : decode prog_16_method_10_code 141 = .ok (.goto 78, 3) := by decide +kernel
theorem d2_144 : decode prog_16_method_10_code 144 = .ok (.iload_n 1, 1) := by decide +kernel
theorem d2_145 : decode prog_16_method_10_code 145 = .ok (.iload_n 2, 1) := by decide +kernel
theorem d2_146 : decode prog_16_method_10_code 146 = .ok (.if_icmp .le 7, 3) := by decide +kernel
theorem d2_149 : decode prog_16_method_10_code 149 = .ok (.lconst 1, 1) := by decide +kernel
theorem d2_150 : decode prog_16_method_10_code 150 = .ok (.goto 4, 3) := by decide +kernel
theorem d2_153 : decode prog_16_method_10_code 153 = .ok (.lconst 0, 1) := by decide +kernel
theorem d2_154 : decode prog_16_method_10_code 154 = .ok (.lstore_n 3, 1) := by decide +kernel
theorem d2_155 : decode prog_16_method_10_code 155 = .ok (.goto 64, 3) := by decide +kernel
theorem d2_158 : decode prog_16_method_10_code 158 = .ok (.iload_n 1, 1) := by decide +kernel
theorem d2_159 : decode prog_16_method_10_code 159 = .ok (.iload_n 2, 1) := by decide +kernel
theorem d2_160 : decode prog_16_method_10_code 160 = .ok (.if_icmp .lt 7, 3) := by decide +kernel
theorem d2_163 : decode prog_16_method_10_code 163 = .ok (.lconst 1, 1) := by decide +kernel
theorem d2_164 : decode prog_16_method_10_code 164 = .ok (.goto 4, 3) := by decide +kernel
theorem d2_167 : decode prog_16_method_10_code 167 = .ok (.lconst 0, 1) := by decide +kernel
theorem d2_168 : decode prog_16_method_10_code 168 = .ok (.lstore_n 3, 1) := by decide +kernel
theorem d2_169 : decode prog_16_method_10_code 169 = .ok (.goto 50, 3) := by decide +kernel
theorem d2_172 : decode prog_16_method_10_code 172 = .ok (.aload_n 0, 1) := by decide +kernel
theorem d2_173 : decode prog_16_method_10_code 173 = .ok (.iload_n 1, 1) := by decide +kernel
theorem d2_174 : decode prog_16_method_10_code 174 = .ok (.iload_n 2, 1) := by decide +kernel
theorem d2_175 : decode prog_16_method_10_code 175 = .ok (.invokevirtual 81, 3) := by decide +kernel
theorem d2_178 : decode prog_16_method_10_code 178 = .ok (.lstore_n 3, 1) := by decide +kernel
theorem d2_179 : decode prog_16_method_10_code 179 = .ok (.goto 40, 3) := by decide +kernel
theorem d2_182 : decode prog_16_method_10_code 182 = .ok (.aload_n 0, 1) := by decide +kernel
theorem d2_183 : decode prog_16_method_10_code 183 = .ok (.iload_n 1, 1) := by decide +kernel
theorem d2_184 : decode prog_16_method_10_code 184 = .ok (.aload_n 0, 1) := by decide +kernel
theorem d2_185 : decode prog_16_method_10_code 185 = .ok (.iload_n 2, 1) := by decide +kernel
theorem d2_186 : decode prog_16_method_10_code 186 = .ok (.invokevirtual 85, 3) := by decide +kernel
theorem d2_189 : decode prog_16_method_10_code 189 = .ok (.invokevirtual 81, 3) := by decide +kernel
theorem d2_192 : decode prog_16_method_10_code 192 = .ok (.lstore_n 3, 1) := by decide +kernel
theorem d2_193 : decode prog_16_method_10_code 193 = .ok (.goto 26, 3) := by decide +kernel
theorem d2_196 : decode prog_16_method_10_code 196 = .ok (.iload_n 1, 1) := by decide +kernel
theorem d2_197 : decode prog_16_method_10_code 197 = .ok (.aload_n 0, 1) := by decide +kernel
theorem d2_198 : decode prog_16_method_10_code 198 = .ok (.iload_n 2, 1) := by decide +kernel
theorem d2_199 : decode prog_16_method_10_code 199 = .ok (.invokevirtual 85, 3) := by decide +kernel
theorem d2_202 : decode prog_16_method_10_code 202 = .ok (.invokestatic 89, 3) := by decide +kernel
theorem d2_205 : decode prog_16_method_10_code 205 = .ok (.i2l, 1) := by decide +kernel
theorem d2_206 : decode prog_16_method_10_code 206 = .ok (.lstore_n 3, 1) := by decide +kernel
theorem d2_207 : decode prog_16_method_10_code 207 = .ok (.goto 12, 3) := by decide +kernel
theorem d2_210 : decode prog_16_method_10_code 210 = .ok (.new 95, 3) := by decide +kernel
theorem d2_213 : decode prog_16_method_10_code 213 = .ok (.dup, 1) := by decide +kernel
theorem d2_214 : decode prog_16_method_10_code 214 = .ok (.aload_n 0, 1) := by decide +kernel
theorem d2_215 : decode prog_16_method_10_code 215 = .ok (.invokespecial 97, 3) := by decide +kernel
theorem d2_218 : decode prog_16_method_10_code 218 = .ok (.athrow, 1) := by decide +kernel
theorem d2_219 : decode prog_16_method_10_code 219 = .ok (.lload_n 3, 1) := by decide +kernel
theorem d2_220 : decode prog_16_method_10_code 220 = .ok (.lload_n 3, 1) := by decide +kernel
theorem d2_221 : decode prog_16_method_10_code 221 = .ok (.l2i, 1) := by decide +kernel
theorem d2_222 : decode prog_16_method_10_code 222 = .ok (.i2l, 1) := by decide +kernel
theorem d2_223 : decode prog_16_method_10_code 223 = .ok (.lcmp, 1) := by decide +kernel
theorem d2_224 : decode prog_16_method_10_code 224 = .ok (.ifCond .eq 22, 3) := by decide +kernel
theorem d2_227 : decode prog_16_method_10_code 227 = .ok (.new 100, 3) := by decide +kernel
theorem d2_230 : decode prog_16_method_10_code 230 = .ok (.dup, 1) := by decide +kernel
theorem d2_231 : decode prog_16_method_10_code 231 = .ok (.iload_n 1, 1) := by decide +kernel
theorem d2_232 : decode prog_16_method_10_code 232 = .ok (.aload_n 0, 1) := by decide +kernel
theorem d2_233 : decode prog_16_method_10_code 233 = .ok (.getfield 62, 3) := by decide +kernel
theorem d2_236 : decode prog_16_method_10_code 236 = .ok (.iload_n 2, 1) := by decide +kernel
theorem d2_237 : decode prog_16_method_10_code 237 = .ok (.invokedynamic 102, 5) := by decide +kernel
theorem d2_242 : decode prog_16_method_10_code 242 = .ok (.invokespecial 106, 3) := by decide +kernel
theorem d2_245 : decode prog_16_method_10_code 245 = .ok (.athrow, 1) := by decide +kernel
theorem d2_246 : decode prog_16_method_10_code 246 = .ok (.lload_n 3, 1) := by decide +kernel
theorem d2_247 : decode prog_16_method_10_code 247 = .ok (.l2i, 1) := by decide +kernel
theorem d2_248 : decode prog_16_method_10_code 248 = .ok (.ireturn, 1) := by decide +kernel
theorem pn_2 : plainName "com/example/vertaler/vertaler/core/model/BinaryOperator" = true := by first | (simp [plainName, overriddenIn]; done) | decide +kernel
theorem pd_2 : parseMethodDescriptor "(II)I" = some ⟨[.int, .int], some .int⟩ := by decide +kernel
theorem d3_0 : decode jdk_37_method_2_code 0 = .ok (.aload_n 0, 1) := by decide +kernel
theorem d3_1 : decode jdk_37_method_2_code 1 = .ok (.getfield 7, 3) := by decide +kernel
theorem d3_4 : decode jdk_37_method_2_code 4 = .ok (.ireturn, 1) := by decide +kernel
theorem pn_3 : plainName "java/lang/Enum" = true := by first | (simp [plainName, overriddenIn]; done) | decide +kernel
theorem pd_3 : parseMethodDescriptor "()I" = some ⟨[], some .int⟩ := by decide +kernel

def dcv (a fand forr : Addr) (x : Int32) : Int32 := if a = fand ∧ x = 0 then 1 else if a = forr ∧ x = 1 then 1 else 0
theorem own_mask (x : Int32) : 0 ≤ (x &&& (2147483647 : Int32)).toInt := by
  have h := Jvm.Kit.i32_mask x 2147483647 (k := 31) (by decide) (by decide)
  omega
theorem own_rem (x : Int32) : ¬ ((x &&& (2147483647 : Int32)) % (13 : Int32)) < 0 ∧ ((x &&& (2147483647 : Int32)) % (13 : Int32)) < 13 := by
  have h1 : 0 ≤ (x &&& (2147483647 : Int32)).toInt := own_mask x
  rw [Int32.lt_iff_toInt_lt, Int32.lt_iff_toInt_lt, Int32.toInt_mod]
  have e0 : (0 : Int32).toInt = 0 := rfl
  have e9 : (13 : Int32).toInt = 13 := rfl
  rw [e0, e9, Int.tmod_eq_emod_of_nonneg h1]
  omega
theorem own_all {j : Int32} (h1 : ¬ j < 0) (h2 : j < 13) : j = 0 ∨ j = 1 ∨ j = 2 ∨ j = 3 ∨ j = 4 ∨ j = 5 ∨ j = 6 ∨ j = 7 ∨ j = 8 ∨ j = 9 ∨ j = 10 ∨ j = 11 ∨ j = 12 := by
  rw [Int32.lt_iff_toInt_lt] at h1 h2
  have e0 : (0 : Int32).toInt = 0 := rfl
  have e9 : (13 : Int32).toInt = 13 := rfl
  have h : j.toInt = 0 ∨ j.toInt = 1 ∨ j.toInt = 2 ∨ j.toInt = 3 ∨ j.toInt = 4 ∨ j.toInt = 5 ∨ j.toInt = 6 ∨ j.toInt = 7 ∨ j.toInt = 8 ∨ j.toInt = 9 ∨ j.toInt = 10 ∨ j.toInt = 11 ∨ j.toInt = 12 := by omega
  rcases h with h | h | h | h | h | h | h | h | h | h | h | h | h
  · left; exact Int32.toInt_inj.mp h
  · right; left; exact Int32.toInt_inj.mp h
  · right; right; left; exact Int32.toInt_inj.mp h
  · right; right; right; left; exact Int32.toInt_inj.mp h
  · right; right; right; right; left; exact Int32.toInt_inj.mp h
  · right; right; right; right; right; left; exact Int32.toInt_inj.mp h
  · right; right; right; right; right; right; left; exact Int32.toInt_inj.mp h
  · right; right; right; right; right; right; right; left; exact Int32.toInt_inj.mp h
  · right; right; right; right; right; right; right; right; left; exact Int32.toInt_inj.mp h
  · right; right; right; right; right; right; right; right; right; left; exact Int32.toInt_inj.mp h
  · right; right; right; right; right; right; right; right; right; right; left; exact Int32.toInt_inj.mp h
  · right; right; right; right; right; right; right; right; right; right; right; left; exact Int32.toInt_inj.mp h
  · right; right; right; right; right; right; right; right; right; right; right; right; exact Int32.toInt_inj.mp h
theorem own_at {Z : State} {h0 : Heap} {j : Int32} (h1 : ¬ j < 0) (h2 : j < 13) {a_OR a_AND a_EQUAL a_NOT_EQUAL a_LESS a_LESS_OR_EQUAL a_GREATER a_GREATER_OR_EQUAL a_ADD a_SUBTRACT a_MULTIPLY a_DIVIDE a_REMAINDER : Addr} (Ex_OR : Exa Z h0 a_OR "com/example/vertaler/vertaler/core/model/BinaryOperator") (Ex_AND : Exa Z h0 a_AND "com/example/vertaler/vertaler/core/model/BinaryOperator") (Ex_EQUAL : Exa Z h0 a_EQUAL "com/example/vertaler/vertaler/core/model/BinaryOperator") (Ex_NOT_EQUAL : Exa Z h0 a_NOT_EQUAL "com/example/vertaler/vertaler/core/model/BinaryOperator") (Ex_LESS : Exa Z h0 a_LESS "com/example/vertaler/vertaler/core/model/BinaryOperator") (Ex_LESS_OR_EQUAL : Exa Z h0 a_LESS_OR_EQUAL "com/example/vertaler/vertaler/core/model/BinaryOperator") (Ex_GREATER : Exa Z h0 a_GREATER "com/example/vertaler/vertaler/core/model/BinaryOperator") (Ex_GREATER_OR_EQUAL : Exa Z h0 a_GREATER_OR_EQUAL "com/example/vertaler/vertaler/core/model/BinaryOperator") (Ex_ADD : Exa Z h0 a_ADD "com/example/vertaler/vertaler/core/model/BinaryOperator") (Ex_SUBTRACT : Exa Z h0 a_SUBTRACT "com/example/vertaler/vertaler/core/model/BinaryOperator") (Ex_MULTIPLY : Exa Z h0 a_MULTIPLY "com/example/vertaler/vertaler/core/model/BinaryOperator") (Ex_DIVIDE : Exa Z h0 a_DIVIDE "com/example/vertaler/vertaler/core/model/BinaryOperator") (Ex_REMAINDER : Exa Z h0 a_REMAINDER "com/example/vertaler/vertaler/core/model/BinaryOperator") :
    ∃ cc : Addr, ([.ref a_OR, .ref a_AND, .ref a_EQUAL, .ref a_NOT_EQUAL, .ref a_LESS, .ref a_LESS_OR_EQUAL, .ref a_GREATER, .ref a_GREATER_OR_EQUAL, .ref a_ADD, .ref a_SUBTRACT, .ref a_MULTIPLY, .ref a_DIVIDE, .ref a_REMAINDER] : List Value).getD j.toNatClampNeg .null = .ref cc ∧ Exa Z h0 cc "com/example/vertaler/vertaler/core/model/BinaryOperator" := by
  rcases own_all h1 h2 with rfl | rfl | rfl | rfl | rfl | rfl | rfl | rfl | rfl | rfl | rfl | rfl | rfl
  · exact ⟨a_OR, rfl, Ex_OR⟩
  · exact ⟨a_AND, rfl, Ex_AND⟩
  · exact ⟨a_EQUAL, rfl, Ex_EQUAL⟩
  · exact ⟨a_NOT_EQUAL, rfl, Ex_NOT_EQUAL⟩
  · exact ⟨a_LESS, rfl, Ex_LESS⟩
  · exact ⟨a_LESS_OR_EQUAL, rfl, Ex_LESS_OR_EQUAL⟩
  · exact ⟨a_GREATER, rfl, Ex_GREATER⟩
  · exact ⟨a_GREATER_OR_EQUAL, rfl, Ex_GREATER_OR_EQUAL⟩
  · exact ⟨a_ADD, rfl, Ex_ADD⟩
  · exact ⟨a_SUBTRACT, rfl, Ex_SUBTRACT⟩
  · exact ⟨a_MULTIPLY, rfl, Ex_MULTIPLY⟩
  · exact ⟨a_DIVIDE, rfl, Ex_DIVIDE⟩
  · exact ⟨a_REMAINDER, rfl, Ex_REMAINDER⟩
theorem own_back (x : Int32) : x.toInt64.toInt32 = x := by simp
theorem own_bit (x : Int32) : x &&& 1 = 0 ∨ x &&& 1 = 1 := Jvm.RoadKit.and_one x

def Q1 (Z : State) (a1 a_AND a_OR : Addr) (p2 : Int32) (h0 : Heap) (n0 : Nat) (v : Option Value) (h : Heap) (L : List Loc) : Prop := v = some (.int (dcv a1 a_AND a_OR p2)) ∧ Fr n0 L ∧ h = h0
theorem ef_1 (m : MethodId) (a1 : Addr) (p2 : Int32) : entryFrame m #[(.ref a1), (.int p2)] 2 = mkF m 0 #[.val (.ref a1), .val (.int p2)] [] := by first | (simp [entryFrame, mkF, argsToLocals, Value.category]; done) | rfl
set_option maxRecDepth 65536 in
set_option maxHeartbeats 40000000 in
theorem rm1 (l : Launch) (Z : State) (a0 : Array Value) (hw : ∀ d ∈ tables_1, d.before a0 Z = true) (ws : List Jvm.Cond) (a1 a_AND a_OR : Addr) (p2 : Int32) (h0 : Heap) (n0 : Nat) (Z0 : n0 ≤ h0.size) (S_AND : Sta Z h0 "com/example/vertaler/vertaler/core/model/BinaryOperator" "AND" "Lcom/example/vertaler/vertaler/core/model/BinaryOperator;" (.ref a_AND)) (S_OR : Sta Z h0 "com/example/vertaler/vertaler/core/model/BinaryOperator" "OR" "Lcom/example/vertaler/vertaler/core/model/BinaryOperator;" (.ref a_OR)) :
    MetFree l (⟨"com/example/vertaler/vertaler/core/model/BinaryOperator", "isDecidedBy", "(I)Z"⟩ : MethodName) (head1 (Jvm.Cond.code (⟨"com/example/vertaler/vertaler/core/model/BinaryOperator", "isDecidedBy", "(I)Z"⟩ : MethodName) prog_16_method_9_code 2 (some .boolean) :: ws) ({ frames := 0, cells := 0, slots := 0, locals := 0 } : Room)) (fun a U => a = #[(.ref a1), (.int p2)] ∧ Z.Warmed39 U.vm ∧ U.heap = h0) (fun _ _ _ _ _ => True) (fun _ U o U' => ∃ v L, o = .returned v ∧ Q1 Z a1 a_AND a_OR p2 h0 n0 v U'.heap L ∧ FrameEnd U o U' L ({ frames := 0, cells := 0, slots := 0, locals := 0 } : Room).cells ({ frames := 0, cells := 0, slots := 0, locals := 0 } : Room).slots) := by
  refine MetFree.of_bodySF (plainFor_of_name pn_1) hisR ?_
  intro p e s m args below meth c s₁ Bd hml0 hP hK
  obtain ⟨rfl, hZ, hh⟩ := hP
  have hx := Bd.exec
  have hby := Bd.bytes
  have hml : c.maxLocals = 2 := hml0
  have hown : s.vm.findClass "com/example/vertaler/vertaler/core/model/BinaryOperator" = some m.cls := findClass_of_methodNamed Bd.named
  have hnm := (name_of_methodNamed Bd.named Bd.method).1
  have X0 : Stand p l e ({ frames := 0, cells := 0, slots := 0, locals := 0 } : Room) s m #[(.ref a1), (.int p2)] below meth c s₁ [] 0 0 := Stand.of_body Bd
  have e0 : s₁.heap = h0 := by rw [← hh, Bd.state]; rfl
  have N0 := Fr.nil n0
  have pre0 : Lead p e below (s₁.setTop (mkF m 0 #[.val (.ref a1), .val (.int p2)] [])) (s₁.setTop (entryFrame m #[(.ref a1), (.int p2)] 2)) := fun t k => castTop (ef_1 m a1 p2) k
  obtain ⟨T1, X1, e1, st1⟩ := getS2 X0 hx hZ hown (host := "") (Or.inl (hw _ (List.mem_of_getElem? (i := 36) rfl))) Via.refl e0 S_AND (g := (mkF m 1 #[.val (.ref a1), .val (.int p2)] [(.ref a1)])) rfl (hb hby d1_1)
  have pre2 : Lead p e below (T1.setTop (mkF m 4 #[.val (.ref a1), .val (.int p2)] [(.ref a_AND), (.ref a1)])) (s₁.setTop (entryFrame m #[(.ref a1), (.int p2)] 2)) := fun t k => by
    refine pre0 t ?_
    refine XS.aloadN X0.here hx rfl (hb hby d1_0) rfl rfl ?_
    show Steps p.tables e below (s₁.setTop (mkF m 1 #[.val (.ref a1), .val (.int p2)] [(.ref a1)])) _
    refine st1 _ ?_
    show Steps p.tables e below (T1.setTop (mkF m 4 #[.val (.ref a1), .val (.int p2)] [(.ref a_AND), (.ref a1)])) _
    exact k
  by_cases h1 : a1 = a_AND
  · skip
    have pre3 : Lead p e below (T1.setTop (mkF m 8 #[.val (.ref a1), .val (.int p2)] [(.int p2)])) (s₁.setTop (entryFrame m #[(.ref a1), (.int p2)] 2)) := fun t k => by
      refine pre2 t ?_
      refine Jvm.RoadKit.acmp (g := (mkF m 4 #[.val (.ref a1), .val (.int p2)] [(.ref a_AND), (.ref a1)])) X1 hx rfl rfl rfl (pc0 := 4) (pc' := 7) (same := true) rfl (hb hby d1_4) rfl (decide_eq_true (congrArg Value.ref h1)) (by decide) (by decide) ?_
      show Steps p.tables e below (T1.setTop (mkF m 7 #[.val (.ref a1), .val (.int p2)] [])) _
      refine XS.iloadN X1.here hx rfl (hb hby d1_7) rfl ?_
      show Steps p.tables e below (T1.setTop (mkF m 8 #[.val (.ref a1), .val (.int p2)] [(.int p2)])) _
      exact k
    by_cases h2 : p2 = (0 : Int32)
    · skip
      have pre4 : Lead p e below (T1.setTop (mkF m 28 #[.val (.ref a1), .val (.int p2)] [(.int (1 : Int32))])) (s₁.setTop (entryFrame m #[(.ref a1), (.int p2)] 2)) := fun t k => by
        refine pre3 t ?_
        refine XS.ifYes X1.here hx rfl (pc0 := 8) (pc' := 23) rfl (hb hby d1_8) rfl ((if0 _ _).trans (teq h2).1) (by decide) (by decide) ?_
        show Steps p.tables e below (T1.setTop (mkF m 23 #[.val (.ref a1), .val (.int p2)] [])) _
        refine XS.iconst X1.here hx rfl (hb hby d1_23) ?_
        show Steps p.tables e below (T1.setTop (mkF m 24 #[.val (.ref a1), .val (.int p2)] [(.int (1 : Int32))])) _
        refine XS.goto X1.here hx rfl (pc0 := 24) (pc' := 28) rfl (hb hby d1_24) (by decide) (by decide) ?_
        show Steps p.tables e below (T1.setTop (mkF m 28 #[.val (.ref a1), .val (.int p2)] [(.int (1 : Int32))])) _
        exact k
      obtain ⟨fs, hr, hrun, hended, hW, hsame⟩ := X1.leave (v := some (.int (1 : Int32))) (fun h => by rw [Bd.returns] at h; cases h)
      refine ⟨_, _, pre4 _ ?_, hrun, hended, _, _, rfl, ?_, ⟨_, rfl⟩, hW, hsame.mono (by decide) (by decide)⟩
      · exact retN X1 hx (t := .boolean) Bd.returns (by simp) (hb hby d1_28) hr
      · show Q1 Z a1 a_AND a_OR p2 h0 n0 _ T1.heap _
        rw [e1]
        exact ⟨by rw [dcv, if_pos ⟨h1, h2⟩], N0, rfl⟩
    · skip
      obtain ⟨T5, X5, e5, st5⟩ := getS2 X1 hx hZ hown (host := "") (Or.inl (hw _ (List.mem_of_getElem? (i := 37) rfl))) Via.refl e1 S_OR (g := (mkF m 12 #[.val (.ref a1), .val (.int p2)] [(.ref a1)])) rfl (hb hby d1_12)
      have pre6 : Lead p e below (T5.setTop (mkF m 15 #[.val (.ref a1), .val (.int p2)] [(.ref a_OR), (.ref a1)])) (s₁.setTop (entryFrame m #[(.ref a1), (.int p2)] 2)) := fun t k => by
        refine pre3 t ?_
        refine XS.ifNo X1.here hx rfl (hb hby d1_8) rfl ((if0 _ _).trans (feq h2).1) ?_
        show Steps p.tables e below (T1.setTop (mkF m 11 #[.val (.ref a1), .val (.int p2)] [])) _
        refine XS.aloadN X1.here hx rfl (hb hby d1_11) rfl rfl ?_
        show Steps p.tables e below (T1.setTop (mkF m 12 #[.val (.ref a1), .val (.int p2)] [(.ref a1)])) _
        refine st5 _ ?_
        show Steps p.tables e below (T5.setTop (mkF m 15 #[.val (.ref a1), .val (.int p2)] [(.ref a_OR), (.ref a1)])) _
        exact k
      by_cases k1 : a1 = a_OR
      · skip
        have pre7 : Lead p e below (T5.setTop (mkF m 20 #[.val (.ref a1), .val (.int p2)] [(.int (1 : Int32)), (.int p2)])) (s₁.setTop (entryFrame m #[(.ref a1), (.int p2)] 2)) := fun t k => by
          refine pre6 t ?_
          refine Jvm.RoadKit.acmp (g := (mkF m 15 #[.val (.ref a1), .val (.int p2)] [(.ref a_OR), (.ref a1)])) X5 hx rfl rfl rfl (pc0 := 15) (pc' := 18) (same := true) rfl (hb hby d1_15) rfl (decide_eq_true (congrArg Value.ref k1)) (by decide) (by decide) ?_
          show Steps p.tables e below (T5.setTop (mkF m 18 #[.val (.ref a1), .val (.int p2)] [])) _
          refine XS.iloadN X5.here hx rfl (hb hby d1_18) rfl ?_
          show Steps p.tables e below (T5.setTop (mkF m 19 #[.val (.ref a1), .val (.int p2)] [(.int p2)])) _
          refine XS.iconst X5.here hx rfl (hb hby d1_19) ?_
          show Steps p.tables e below (T5.setTop (mkF m 20 #[.val (.ref a1), .val (.int p2)] [(.int (1 : Int32)), (.int p2)])) _
          exact k
        by_cases k2 : p2 = (1 : Int32)
        · skip
          have pre8 : Lead p e below (T5.setTop (mkF m 28 #[.val (.ref a1), .val (.int p2)] [(.int (1 : Int32))])) (s₁.setTop (entryFrame m #[(.ref a1), (.int p2)] 2)) := fun t k => by
            refine pre7 t ?_
            refine XS.icmpNo X5.here hx rfl (hb hby d1_20) rfl (teq k2).2 ?_
            show Steps p.tables e below (T5.setTop (mkF m 23 #[.val (.ref a1), .val (.int p2)] [])) _
            refine XS.iconst X5.here hx rfl (hb hby d1_23) ?_
            show Steps p.tables e below (T5.setTop (mkF m 24 #[.val (.ref a1), .val (.int p2)] [(.int (1 : Int32))])) _
            refine XS.goto X5.here hx rfl (pc0 := 24) (pc' := 28) rfl (hb hby d1_24) (by decide) (by decide) ?_
            show Steps p.tables e below (T5.setTop (mkF m 28 #[.val (.ref a1), .val (.int p2)] [(.int (1 : Int32))])) _
            exact k
          obtain ⟨fs, hr, hrun, hended, hW, hsame⟩ := X5.leave (v := some (.int (1 : Int32))) (fun h => by rw [Bd.returns] at h; cases h)
          refine ⟨_, _, pre8 _ ?_, hrun, hended, _, _, rfl, ?_, ⟨_, rfl⟩, hW, hsame.mono (by decide) (by decide)⟩
          · exact retN X5 hx (t := .boolean) Bd.returns (by simp) (hb hby d1_28) hr
          · show Q1 Z a1 a_AND a_OR p2 h0 n0 _ T5.heap _
            rw [e5]
            exact ⟨by rw [dcv, if_neg (fun q => h2 q.2), if_pos ⟨k1, k2⟩], N0, rfl⟩
        · skip
          have pre9 : Lead p e below (T5.setTop (mkF m 28 #[.val (.ref a1), .val (.int p2)] [(.int (0 : Int32))])) (s₁.setTop (entryFrame m #[(.ref a1), (.int p2)] 2)) := fun t k => by
            refine pre7 t ?_
            refine XS.icmpYes X5.here hx rfl (pc0 := 20) (pc' := 27) rfl (hb hby d1_20) rfl (feq k2).2 (by decide) (by decide) ?_
            show Steps p.tables e below (T5.setTop (mkF m 27 #[.val (.ref a1), .val (.int p2)] [])) _
            refine XS.iconst X5.here hx rfl (hb hby d1_27) ?_
            show Steps p.tables e below (T5.setTop (mkF m 28 #[.val (.ref a1), .val (.int p2)] [(.int (0 : Int32))])) _
            exact k
          obtain ⟨fs, hr, hrun, hended, hW, hsame⟩ := X5.leave (v := some (.int (0 : Int32))) (fun h => by rw [Bd.returns] at h; cases h)
          refine ⟨_, _, pre9 _ ?_, hrun, hended, _, _, rfl, ?_, ⟨_, rfl⟩, hW, hsame.mono (by decide) (by decide)⟩
          · exact retN X5 hx (t := .boolean) Bd.returns (by simp) (hb hby d1_28) hr
          · show Q1 Z a1 a_AND a_OR p2 h0 n0 _ T5.heap _
            rw [e5]
            exact ⟨by rw [dcv, if_neg (fun q => h2 q.2), if_neg (fun q => k2 q.2)], N0, rfl⟩
      · skip
        have pre10 : Lead p e below (T5.setTop (mkF m 28 #[.val (.ref a1), .val (.int p2)] [(.int (0 : Int32))])) (s₁.setTop (entryFrame m #[(.ref a1), (.int p2)] 2)) := fun t k => by
          refine pre6 t ?_
          refine Jvm.RoadKit.acmp (g := (mkF m 15 #[.val (.ref a1), .val (.int p2)] [(.ref a_OR), (.ref a1)])) X5 hx rfl rfl rfl (pc0 := 15) (pc' := 27) (same := false) rfl (hb hby d1_15) rfl (decide_eq_false fun q => k1 (Value.ref.inj q)) (by decide) (by decide) ?_
          show Steps p.tables e below (T5.setTop (mkF m 27 #[.val (.ref a1), .val (.int p2)] [])) _
          refine XS.iconst X5.here hx rfl (hb hby d1_27) ?_
          show Steps p.tables e below (T5.setTop (mkF m 28 #[.val (.ref a1), .val (.int p2)] [(.int (0 : Int32))])) _
          exact k
        obtain ⟨fs, hr, hrun, hended, hW, hsame⟩ := X5.leave (v := some (.int (0 : Int32))) (fun h => by rw [Bd.returns] at h; cases h)
        refine ⟨_, _, pre10 _ ?_, hrun, hended, _, _, rfl, ?_, ⟨_, rfl⟩, hW, hsame.mono (by decide) (by decide)⟩
        · exact retN X5 hx (t := .boolean) Bd.returns (by simp) (hb hby d1_28) hr
        · show Q1 Z a1 a_AND a_OR p2 h0 n0 _ T5.heap _
          rw [e5]
          exact ⟨by rw [dcv, if_neg (fun q => h2 q.2), if_neg (fun q => k1 q.1)], N0, rfl⟩
  · skip
    obtain ⟨T11, X11, e11, st11⟩ := getS2 X1 hx hZ hown (host := "") (Or.inl (hw _ (List.mem_of_getElem? (i := 37) rfl))) Via.refl e1 S_OR (g := (mkF m 12 #[.val (.ref a1), .val (.int p2)] [(.ref a1)])) rfl (hb hby d1_12)
    have pre12 : Lead p e below (T11.setTop (mkF m 15 #[.val (.ref a1), .val (.int p2)] [(.ref a_OR), (.ref a1)])) (s₁.setTop (entryFrame m #[(.ref a1), (.int p2)] 2)) := fun t k => by
      refine pre2 t ?_
      refine Jvm.RoadKit.acmp (g := (mkF m 4 #[.val (.ref a1), .val (.int p2)] [(.ref a_AND), (.ref a1)])) X1 hx rfl rfl rfl (pc0 := 4) (pc' := 11) (same := false) rfl (hb hby d1_4) rfl (decide_eq_false fun q => h1 (Value.ref.inj q)) (by decide) (by decide) ?_
      show Steps p.tables e below (T1.setTop (mkF m 11 #[.val (.ref a1), .val (.int p2)] [])) _
      refine XS.aloadN X1.here hx rfl (hb hby d1_11) rfl rfl ?_
      show Steps p.tables e below (T1.setTop (mkF m 12 #[.val (.ref a1), .val (.int p2)] [(.ref a1)])) _
      refine st11 _ ?_
      show Steps p.tables e below (T11.setTop (mkF m 15 #[.val (.ref a1), .val (.int p2)] [(.ref a_OR), (.ref a1)])) _
      exact k
    by_cases k1 : a1 = a_OR
    · skip
      have pre13 : Lead p e below (T11.setTop (mkF m 20 #[.val (.ref a1), .val (.int p2)] [(.int (1 : Int32)), (.int p2)])) (s₁.setTop (entryFrame m #[(.ref a1), (.int p2)] 2)) := fun t k => by
        refine pre12 t ?_
        refine Jvm.RoadKit.acmp (g := (mkF m 15 #[.val (.ref a1), .val (.int p2)] [(.ref a_OR), (.ref a1)])) X11 hx rfl rfl rfl (pc0 := 15) (pc' := 18) (same := true) rfl (hb hby d1_15) rfl (decide_eq_true (congrArg Value.ref k1)) (by decide) (by decide) ?_
        show Steps p.tables e below (T11.setTop (mkF m 18 #[.val (.ref a1), .val (.int p2)] [])) _
        refine XS.iloadN X11.here hx rfl (hb hby d1_18) rfl ?_
        show Steps p.tables e below (T11.setTop (mkF m 19 #[.val (.ref a1), .val (.int p2)] [(.int p2)])) _
        refine XS.iconst X11.here hx rfl (hb hby d1_19) ?_
        show Steps p.tables e below (T11.setTop (mkF m 20 #[.val (.ref a1), .val (.int p2)] [(.int (1 : Int32)), (.int p2)])) _
        exact k
      by_cases k2 : p2 = (1 : Int32)
      · skip
        have pre14 : Lead p e below (T11.setTop (mkF m 28 #[.val (.ref a1), .val (.int p2)] [(.int (1 : Int32))])) (s₁.setTop (entryFrame m #[(.ref a1), (.int p2)] 2)) := fun t k => by
          refine pre13 t ?_
          refine XS.icmpNo X11.here hx rfl (hb hby d1_20) rfl (teq k2).2 ?_
          show Steps p.tables e below (T11.setTop (mkF m 23 #[.val (.ref a1), .val (.int p2)] [])) _
          refine XS.iconst X11.here hx rfl (hb hby d1_23) ?_
          show Steps p.tables e below (T11.setTop (mkF m 24 #[.val (.ref a1), .val (.int p2)] [(.int (1 : Int32))])) _
          refine XS.goto X11.here hx rfl (pc0 := 24) (pc' := 28) rfl (hb hby d1_24) (by decide) (by decide) ?_
          show Steps p.tables e below (T11.setTop (mkF m 28 #[.val (.ref a1), .val (.int p2)] [(.int (1 : Int32))])) _
          exact k
        obtain ⟨fs, hr, hrun, hended, hW, hsame⟩ := X11.leave (v := some (.int (1 : Int32))) (fun h => by rw [Bd.returns] at h; cases h)
        refine ⟨_, _, pre14 _ ?_, hrun, hended, _, _, rfl, ?_, ⟨_, rfl⟩, hW, hsame.mono (by decide) (by decide)⟩
        · exact retN X11 hx (t := .boolean) Bd.returns (by simp) (hb hby d1_28) hr
        · show Q1 Z a1 a_AND a_OR p2 h0 n0 _ T11.heap _
          rw [e11]
          exact ⟨by rw [dcv, if_neg (fun q => h1 q.1), if_pos ⟨k1, k2⟩], N0, rfl⟩
      · skip
        have pre15 : Lead p e below (T11.setTop (mkF m 28 #[.val (.ref a1), .val (.int p2)] [(.int (0 : Int32))])) (s₁.setTop (entryFrame m #[(.ref a1), (.int p2)] 2)) := fun t k => by
          refine pre13 t ?_
          refine XS.icmpYes X11.here hx rfl (pc0 := 20) (pc' := 27) rfl (hb hby d1_20) rfl (feq k2).2 (by decide) (by decide) ?_
          show Steps p.tables e below (T11.setTop (mkF m 27 #[.val (.ref a1), .val (.int p2)] [])) _
          refine XS.iconst X11.here hx rfl (hb hby d1_27) ?_
          show Steps p.tables e below (T11.setTop (mkF m 28 #[.val (.ref a1), .val (.int p2)] [(.int (0 : Int32))])) _
          exact k
        obtain ⟨fs, hr, hrun, hended, hW, hsame⟩ := X11.leave (v := some (.int (0 : Int32))) (fun h => by rw [Bd.returns] at h; cases h)
        refine ⟨_, _, pre15 _ ?_, hrun, hended, _, _, rfl, ?_, ⟨_, rfl⟩, hW, hsame.mono (by decide) (by decide)⟩
        · exact retN X11 hx (t := .boolean) Bd.returns (by simp) (hb hby d1_28) hr
        · show Q1 Z a1 a_AND a_OR p2 h0 n0 _ T11.heap _
          rw [e11]
          exact ⟨by rw [dcv, if_neg (fun q => h1 q.1), if_neg (fun q => k2 q.2)], N0, rfl⟩
    · skip
      have pre16 : Lead p e below (T11.setTop (mkF m 28 #[.val (.ref a1), .val (.int p2)] [(.int (0 : Int32))])) (s₁.setTop (entryFrame m #[(.ref a1), (.int p2)] 2)) := fun t k => by
        refine pre12 t ?_
        refine Jvm.RoadKit.acmp (g := (mkF m 15 #[.val (.ref a1), .val (.int p2)] [(.ref a_OR), (.ref a1)])) X11 hx rfl rfl rfl (pc0 := 15) (pc' := 27) (same := false) rfl (hb hby d1_15) rfl (decide_eq_false fun q => k1 (Value.ref.inj q)) (by decide) (by decide) ?_
        show Steps p.tables e below (T11.setTop (mkF m 27 #[.val (.ref a1), .val (.int p2)] [])) _
        refine XS.iconst X11.here hx rfl (hb hby d1_27) ?_
        show Steps p.tables e below (T11.setTop (mkF m 28 #[.val (.ref a1), .val (.int p2)] [(.int (0 : Int32))])) _
        exact k
      obtain ⟨fs, hr, hrun, hended, hW, hsame⟩ := X11.leave (v := some (.int (0 : Int32))) (fun h => by rw [Bd.returns] at h; cases h)
      refine ⟨_, _, pre16 _ ?_, hrun, hended, _, _, rfl, ?_, ⟨_, rfl⟩, hW, hsame.mono (by decide) (by decide)⟩
      · exact retN X11 hx (t := .boolean) Bd.returns (by simp) (hb hby d1_28) hr
      · show Q1 Z a1 a_AND a_OR p2 h0 n0 _ T11.heap _
        rw [e11]
        exact ⟨by rw [dcv, if_neg (fun q => h1 q.1), if_neg (fun q => k1 q.1)], N0, rfl⟩
def Q3 (Z : State) (k1 : Int32) (h0 : Heap) (n0 : Nat) (v : Option Value) (h : Heap) (L : List Loc) : Prop := v = some (.int k1) ∧ Fr n0 L ∧ h = h0
theorem ef_3 (m : MethodId) (a1 : Addr) : entryFrame m #[(.ref a1)] 1 = mkF m 0 #[.val (.ref a1)] [] := by first | (simp [entryFrame, mkF, argsToLocals, Value.category]; done) | rfl
set_option maxRecDepth 65536 in
set_option maxHeartbeats 40000000 in
theorem rm3 (l : Launch) (Z : State) (a0 : Array Value) (hw : ∀ d ∈ tables_1, d.before a0 Z = true) (ws : List Jvm.Cond) (a1 : Addr) (k1 : Int32) (h0 : Heap) (n0 : Nat) (Z0 : n0 ≤ h0.size) (F1 : Fld Z h0 a1 "java/lang/Enum" "ordinal" "I" (.int k1)) :
    MetFree l (⟨"java/lang/Enum", "ordinal", "()I"⟩ : MethodName) (head1 (Jvm.Cond.code (⟨"java/lang/Enum", "ordinal", "()I"⟩ : MethodName) jdk_37_method_2_code 1 (some .int) :: ws) ({ frames := 0, cells := 0, slots := 0, locals := 0 } : Room)) (fun a U => a = #[(.ref a1)] ∧ Z.Warmed39 U.vm ∧ U.heap = h0) (fun _ _ _ _ _ => True) (fun _ U o U' => ∃ v L, o = .returned v ∧ Q3 Z k1 h0 n0 v U'.heap L ∧ FrameEnd U o U' L ({ frames := 0, cells := 0, slots := 0, locals := 0 } : Room).cells ({ frames := 0, cells := 0, slots := 0, locals := 0 } : Room).slots) := by
  refine MetFree.of_bodySF (plainFor_of_name pn_3) hisR ?_
  intro p e s m args below meth c s₁ Bd hml0 hP hK
  obtain ⟨rfl, hZ, hh⟩ := hP
  have hx := Bd.exec
  have hby := Bd.bytes
  have hml : c.maxLocals = 1 := hml0
  have hown : s.vm.findClass "java/lang/Enum" = some m.cls := findClass_of_methodNamed Bd.named
  have hnm := (name_of_methodNamed Bd.named Bd.method).1
  have X0 : Stand p l e ({ frames := 0, cells := 0, slots := 0, locals := 0 } : Room) s m #[(.ref a1)] below meth c s₁ [] 0 0 := Stand.of_body Bd
  have e0 : s₁.heap = h0 := by rw [← hh, Bd.state]; rfl
  have N0 := Fr.nil n0
  have pre0 : Lead p e below (s₁.setTop (mkF m 0 #[.val (.ref a1)] [])) (s₁.setTop (entryFrame m #[(.ref a1)] 1)) := fun t k => castTop (ef_3 m a1) k
  obtain ⟨T17, X17, e17, st17⟩ := getF X0 hx hZ hown (host := "") (Or.inl (hw _ (List.mem_of_getElem? (i := 50) rfl))) Via.refl e0 F1 (g := (mkF m 1 #[.val (.ref a1)] [(.ref a1)])) rfl rfl (hb hby d3_1)
  have pre18 : Lead p e below (T17.setTop (mkF m 4 #[.val (.ref a1)] [(.int k1)])) (s₁.setTop (entryFrame m #[(.ref a1)] 1)) := fun t k => by
    refine pre0 t ?_
    refine XS.aloadN X0.here hx rfl (hb hby d3_0) rfl rfl ?_
    show Steps p.tables e below (s₁.setTop (mkF m 1 #[.val (.ref a1)] [(.ref a1)])) _
    refine st17 _ ?_
    show Steps p.tables e below (T17.setTop (mkF m 4 #[.val (.ref a1)] [(.int k1)])) _
    exact k
  obtain ⟨fs, hr, hrun, hended, hW, hsame⟩ := X17.leave (v := some (.int k1)) (fun h => by rw [Bd.returns] at h; cases h)
  refine ⟨_, _, pre18 _ ?_, hrun, hended, _, _, rfl, ?_, ⟨_, rfl⟩, hW, hsame.mono (by decide) (by decide)⟩
  · exact retI X17 hx Bd.returns (hb hby d3_4) hr
  · show Q3 Z k1 h0 n0 _ T17.heap _
    rw [e17]
    exact ⟨rfl, N0, rfl⟩
def Q2 (Z : State) (r1 : Int32) (h0 : Heap) (n0 : Nat) (v : Option Value) (h : Heap) (L : List Loc) : Prop := v = some (.int r1) ∧ Fr n0 L ∧ h = h0
theorem ef_2 (m : MethodId) (a1 : Addr) (p2 : Int32) (p3 : Int32) : entryFrame m #[(.ref a1), (.int p2), (.int p3)] 5 = mkF m 0 #[.val (.ref a1), .val (.int p2), .val (.int p3), .unset, .unset] [] := by first | (simp [entryFrame, mkF, argsToLocals, Value.category]; done) | rfl
set_option maxRecDepth 65536 in
set_option maxHeartbeats 40000000 in
theorem rm2o (l : Launch) (Z : State) (a0 : Array Value) (hw : ∀ d ∈ tables_1, d.before a0 Z = true) (ws : List Jvm.Cond) (a1 : Addr) (p2 p3 : Int32) (h0 : Heap) (n0 : Nat) (Z0 : n0 ≤ h0.size) (E1 : Exa Z h0 a1 "com/example/vertaler/vertaler/core/model/BinaryOperator") (F1 : Fld Z h0 a1 "java/lang/Enum" "ordinal" "I" (.int (0 : Int32))) :
    MetFree l (⟨"com/example/vertaler/vertaler/core/model/BinaryOperator", "apply", "(II)I"⟩ : MethodName) (head1 (Jvm.Cond.code (⟨"com/example/vertaler/vertaler/core/model/BinaryOperator", "apply", "(II)I"⟩ : MethodName) prog_16_method_10_code 5 (some .int) :: ws) ({ frames := 1, cells := 0, slots := 0, locals := 12 } : Room)) (fun a U => a = #[(.ref a1), (.int p2), (.int p3)] ∧ Z.Warmed39 U.vm ∧ U.heap = h0) (fun _ _ _ _ _ => True) (fun _ U o U' => ∃ v L, o = .returned v ∧ Q2 Z (p2 ||| p3) h0 n0 v U'.heap L ∧ FrameEnd U o U' L ({ frames := 1, cells := 0, slots := 0, locals := 12 } : Room).cells ({ frames := 1, cells := 0, slots := 0, locals := 12 } : Room).slots) := by
  refine MetFree.of_bodySF (plainFor_of_name pn_2) hisR ?_
  intro p e s m args below meth c s₁ Bd hml0 hP hK
  obtain ⟨rfl, hZ, hh⟩ := hP
  have hx := Bd.exec
  have hby := Bd.bytes
  have hml : c.maxLocals = 5 := hml0
  have hown : s.vm.findClass "com/example/vertaler/vertaler/core/model/BinaryOperator" = some m.cls := findClass_of_methodNamed Bd.named
  have hnm := (name_of_methodNamed Bd.named Bd.method).1
  have X0 : Stand p l e ({ frames := 1, cells := 0, slots := 0, locals := 12 } : Room) s m #[(.ref a1), (.int p2), (.int p3)] below meth c s₁ [] 0 0 := Stand.of_body Bd
  have e0 : s₁.heap = h0 := by rw [← hh, Bd.state]; rfl
  have N0 := Fr.nil n0
  have pre0 : Lead p e below (s₁.setTop (mkF m 0 #[.val (.ref a1), .val (.int p2), .val (.int p3), .unset, .unset] [])) (s₁.setTop (entryFrame m #[(.ref a1), (.int p2), (.int p3)] 5)) := fun t k => castTop (ef_2 m a1 p2 p3) k
  obtain ⟨cq19, kq19, q19a, q19b, q19c⟩ := isOf hZ e0 E1
  obtain ⟨_, _, ⟨T19, L19, k19, n19⟩, -, X19, ⟨Lc19, hQ19, l19, y19, z19⟩, st19⟩ := X0.virtualBackUp hx (x := (⟨"com/example/vertaler/vertaler/core/model/BinaryOperator", "ordinal", "()I"⟩ : MethodName)) (y := (⟨"java/lang/Enum", "ordinal", "()I"⟩ : MethodName)) (owner := "java/lang/Enum") hown (mvT hZ (hw _ (List.mem_of_getElem? (i := 43) rfl))) (mvT hZ (hw _ (List.mem_of_getElem? (i := 44) rfl))) (mvT hZ (hw _ (List.mem_of_getElem? (i := 45) rfl))) (by decide) (mvT hZ (hw _ (List.mem_of_getElem? (i := 47) rfl))) (mvT hZ (hw _ (List.mem_of_getElem? (i := 46) rfl))) (backOf (W := 0) (rm3 l Z a0 hw [] a1 (0 : Int32) h0 n0 Z0 F1) hZ (hw _ (List.mem_of_getElem? (i := 49) rfl)) (hw _ (List.mem_of_getElem? (i := 48) rfl)) (by decide) (by decide)) q19a q19c (g := (mkF m 1 #[.val (.ref a1), .val (.int p2), .val (.int p3), .unset, .unset] [(.ref a1)])) rfl (by rw [hml]; rfl) (Steps.refl _) (argsL := []) (rest := []) (lenOf pd_3 rfl) rfl (by show 2 * 0 + _ ≤ _; exact Nat.le_of_eq rfl) (hb hby d2_1) (fun _ _ => ⟨rfl, e0, (by decide : 0 + 0 ≤ _), (by decide : 0 + 0 ≤ _)⟩)
  dsimp only [Pt.U, Pt.locs, Pt.cells, Pt.slots] at X19 l19 y19 z19 st19 hQ19
  subst l19 y19 z19
  obtain ⟨rfl, N19q, e19⟩ := hQ19
  have N19 := Fr.app N0 N19q
  have pre20 : Lead p e below (T19.setTop (mkF m 248 #[.val (.ref a1), .val (.int p2), .val (.int p3), .val (.long ((p2 ||| p3).toInt64)), .second] [(.int (((p2 ||| p3).toInt64).toInt32))])) (s₁.setTop (entryFrame m #[(.ref a1), (.int p2), (.int p3)] 5)) := fun t k => by
    refine pre0 t ?_
    refine XS.aloadN X0.here hx rfl (hb hby d2_0) rfl rfl ?_
    show Steps p.tables e below (s₁.setTop (mkF m 1 #[.val (.ref a1), .val (.int p2), .val (.int p3), .unset, .unset] [(.ref a1)])) _
    refine st19.trans ?_
    show Steps p.tables e below (T19.setTop (mkF m 4 #[.val (.ref a1), .val (.int p2), .val (.int p3), .unset, .unset] [(.int (0 : Int32))])) _
    refine XS.tswIn X19.here hx rfl (pc0 := 4) (pc' := 72) (o := 68) rfl (hb hby d2_4) rfl (by decide) (by decide) (by decide) (by decide) ?_
    show Steps p.tables e below (T19.setTop (mkF m 72 #[.val (.ref a1), .val (.int p2), .val (.int p3), .unset, .unset] [])) _
    refine XS.iloadN X19.here hx rfl (hb hby d2_72) rfl ?_
    show Steps p.tables e below (T19.setTop (mkF m 73 #[.val (.ref a1), .val (.int p2), .val (.int p3), .unset, .unset] [(.int p2)])) _
    refine XS.iloadN X19.here hx rfl (hb hby d2_73) rfl ?_
    show Steps p.tables e below (T19.setTop (mkF m 74 #[.val (.ref a1), .val (.int p2), .val (.int p3), .unset, .unset] [(.int p3), (.int p2)])) _
    refine XS.ior X19.here hx rfl (hb hby d2_74) rfl ?_
    show Steps p.tables e below (T19.setTop (mkF m 75 #[.val (.ref a1), .val (.int p2), .val (.int p3), .unset, .unset] [(.int (p2 ||| p3))])) _
    refine XS.i2l X19.here hx rfl (hb hby d2_75) rfl ?_
    show Steps p.tables e below (T19.setTop (mkF m 76 #[.val (.ref a1), .val (.int p2), .val (.int p3), .unset, .unset] [(.long ((p2 ||| p3).toInt64))])) _
    refine XS.lstoreN X19.here hx rfl (hb hby d2_76) rfl (l' := #[.val (.ref a1), .val (.int p2), .val (.int p3), .val (.long ((p2 ||| p3).toInt64)), .second]) rfl ?_
    show Steps p.tables e below (T19.setTop (mkF m 77 #[.val (.ref a1), .val (.int p2), .val (.int p3), .val (.long ((p2 ||| p3).toInt64)), .second] [])) _
    refine XS.goto X19.here hx rfl (pc0 := 77) (pc' := 219) rfl (hb hby d2_77) (by decide) (by decide) ?_
    show Steps p.tables e below (T19.setTop (mkF m 219 #[.val (.ref a1), .val (.int p2), .val (.int p3), .val (.long ((p2 ||| p3).toInt64)), .second] [])) _
    refine XS.lloadN X19.here hx rfl (hb hby d2_219) rfl ?_
    show Steps p.tables e below (T19.setTop (mkF m 220 #[.val (.ref a1), .val (.int p2), .val (.int p3), .val (.long ((p2 ||| p3).toInt64)), .second] [(.long ((p2 ||| p3).toInt64))])) _
    refine XS.lloadN X19.here hx rfl (hb hby d2_220) rfl ?_
    show Steps p.tables e below (T19.setTop (mkF m 221 #[.val (.ref a1), .val (.int p2), .val (.int p3), .val (.long ((p2 ||| p3).toInt64)), .second] [(.long ((p2 ||| p3).toInt64)), (.long ((p2 ||| p3).toInt64))])) _
    refine XS.l2i X19.here hx rfl (hb hby d2_221) rfl ?_
    show Steps p.tables e below (T19.setTop (mkF m 222 #[.val (.ref a1), .val (.int p2), .val (.int p3), .val (.long ((p2 ||| p3).toInt64)), .second] [(.int (((p2 ||| p3).toInt64).toInt32)), (.long ((p2 ||| p3).toInt64))])) _
    refine XS.i2l X19.here hx rfl (hb hby d2_222) rfl ?_
    show Steps p.tables e below (T19.setTop (mkF m 223 #[.val (.ref a1), .val (.int p2), .val (.int p3), .val (.long ((p2 ||| p3).toInt64)), .second] [(.long ((((p2 ||| p3).toInt64).toInt32).toInt64)), (.long ((p2 ||| p3).toInt64))])) _
    refine XS.lcmp X19.here hx rfl (hb hby d2_223) rfl ?_
    show Steps p.tables e below (T19.setTop (mkF m 224 #[.val (.ref a1), .val (.int p2), .val (.int p3), .val (.long ((p2 ||| p3).toInt64)), .second] [(.int (lcmpW ((p2 ||| p3).toInt64) ((((p2 ||| p3).toInt64).toInt32).toInt64)))])) _
    refine XS.ifYes X19.here hx rfl (pc0 := 224) (pc' := 246) rfl (hb hby d2_224) rfl ((if0 _ _).trans (teq ((own_lce _ _).mpr (show ((p2 ||| p3).toInt64) = ((((p2 ||| p3).toInt64).toInt32).toInt64) from by rw [own_back]))).1) (by decide) (by decide) ?_
    show Steps p.tables e below (T19.setTop (mkF m 246 #[.val (.ref a1), .val (.int p2), .val (.int p3), .val (.long ((p2 ||| p3).toInt64)), .second] [])) _
    refine XS.lloadN X19.here hx rfl (hb hby d2_246) rfl ?_
    show Steps p.tables e below (T19.setTop (mkF m 247 #[.val (.ref a1), .val (.int p2), .val (.int p3), .val (.long ((p2 ||| p3).toInt64)), .second] [(.long ((p2 ||| p3).toInt64))])) _
    refine XS.l2i X19.here hx rfl (hb hby d2_247) rfl ?_
    show Steps p.tables e below (T19.setTop (mkF m 248 #[.val (.ref a1), .val (.int p2), .val (.int p3), .val (.long ((p2 ||| p3).toInt64)), .second] [(.int (((p2 ||| p3).toInt64).toInt32))])) _
    exact k
  obtain ⟨fs, hr, hrun, hended, hW, hsame⟩ := X19.leave (v := some (.int (((p2 ||| p3).toInt64).toInt32))) (fun h => by rw [Bd.returns] at h; cases h)
  refine ⟨_, _, pre20 _ ?_, hrun, hended, _, _, rfl, ?_, ⟨_, rfl⟩, hW, hsame.mono (by decide) (by decide)⟩
  · exact retI X19 hx Bd.returns (hb hby d2_248) hr
  · show Q2 Z (p2 ||| p3) h0 n0 _ T19.heap _
    rw [e19]
    exact ⟨by rw [own_back], N19, rfl⟩
set_option maxRecDepth 65536 in
set_option maxHeartbeats 40000000 in
theorem rm2a (l : Launch) (Z : State) (a0 : Array Value) (hw : ∀ d ∈ tables_1, d.before a0 Z = true) (ws : List Jvm.Cond) (a1 : Addr) (p2 p3 : Int32) (h0 : Heap) (n0 : Nat) (Z0 : n0 ≤ h0.size) (E1 : Exa Z h0 a1 "com/example/vertaler/vertaler/core/model/BinaryOperator") (F1 : Fld Z h0 a1 "java/lang/Enum" "ordinal" "I" (.int (1 : Int32))) :
    MetFree l (⟨"com/example/vertaler/vertaler/core/model/BinaryOperator", "apply", "(II)I"⟩ : MethodName) (head1 (Jvm.Cond.code (⟨"com/example/vertaler/vertaler/core/model/BinaryOperator", "apply", "(II)I"⟩ : MethodName) prog_16_method_10_code 5 (some .int) :: ws) ({ frames := 1, cells := 0, slots := 0, locals := 12 } : Room)) (fun a U => a = #[(.ref a1), (.int p2), (.int p3)] ∧ Z.Warmed39 U.vm ∧ U.heap = h0) (fun _ _ _ _ _ => True) (fun _ U o U' => ∃ v L, o = .returned v ∧ Q2 Z (p2 &&& p3) h0 n0 v U'.heap L ∧ FrameEnd U o U' L ({ frames := 1, cells := 0, slots := 0, locals := 12 } : Room).cells ({ frames := 1, cells := 0, slots := 0, locals := 12 } : Room).slots) := by
  refine MetFree.of_bodySF (plainFor_of_name pn_2) hisR ?_
  intro p e s m args below meth c s₁ Bd hml0 hP hK
  obtain ⟨rfl, hZ, hh⟩ := hP
  have hx := Bd.exec
  have hby := Bd.bytes
  have hml : c.maxLocals = 5 := hml0
  have hown : s.vm.findClass "com/example/vertaler/vertaler/core/model/BinaryOperator" = some m.cls := findClass_of_methodNamed Bd.named
  have hnm := (name_of_methodNamed Bd.named Bd.method).1
  have X0 : Stand p l e ({ frames := 1, cells := 0, slots := 0, locals := 12 } : Room) s m #[(.ref a1), (.int p2), (.int p3)] below meth c s₁ [] 0 0 := Stand.of_body Bd
  have e0 : s₁.heap = h0 := by rw [← hh, Bd.state]; rfl
  have N0 := Fr.nil n0
  have pre0 : Lead p e below (s₁.setTop (mkF m 0 #[.val (.ref a1), .val (.int p2), .val (.int p3), .unset, .unset] [])) (s₁.setTop (entryFrame m #[(.ref a1), (.int p2), (.int p3)] 5)) := fun t k => castTop (ef_2 m a1 p2 p3) k
  obtain ⟨cq21, kq21, q21a, q21b, q21c⟩ := isOf hZ e0 E1
  obtain ⟨_, _, ⟨T21, L21, k21, n21⟩, -, X21, ⟨Lc21, hQ21, l21, y21, z21⟩, st21⟩ := X0.virtualBackUp hx (x := (⟨"com/example/vertaler/vertaler/core/model/BinaryOperator", "ordinal", "()I"⟩ : MethodName)) (y := (⟨"java/lang/Enum", "ordinal", "()I"⟩ : MethodName)) (owner := "java/lang/Enum") hown (mvT hZ (hw _ (List.mem_of_getElem? (i := 43) rfl))) (mvT hZ (hw _ (List.mem_of_getElem? (i := 44) rfl))) (mvT hZ (hw _ (List.mem_of_getElem? (i := 45) rfl))) (by decide) (mvT hZ (hw _ (List.mem_of_getElem? (i := 47) rfl))) (mvT hZ (hw _ (List.mem_of_getElem? (i := 46) rfl))) (backOf (W := 0) (rm3 l Z a0 hw [] a1 (1 : Int32) h0 n0 Z0 F1) hZ (hw _ (List.mem_of_getElem? (i := 49) rfl)) (hw _ (List.mem_of_getElem? (i := 48) rfl)) (by decide) (by decide)) q21a q21c (g := (mkF m 1 #[.val (.ref a1), .val (.int p2), .val (.int p3), .unset, .unset] [(.ref a1)])) rfl (by rw [hml]; rfl) (Steps.refl _) (argsL := []) (rest := []) (lenOf pd_3 rfl) rfl (by show 2 * 0 + _ ≤ _; exact Nat.le_of_eq rfl) (hb hby d2_1) (fun _ _ => ⟨rfl, e0, (by decide : 0 + 0 ≤ _), (by decide : 0 + 0 ≤ _)⟩)
  dsimp only [Pt.U, Pt.locs, Pt.cells, Pt.slots] at X21 l21 y21 z21 st21 hQ21
  subst l21 y21 z21
  obtain ⟨rfl, N21q, e21⟩ := hQ21
  have N21 := Fr.app N0 N21q
  have pre22 : Lead p e below (T21.setTop (mkF m 248 #[.val (.ref a1), .val (.int p2), .val (.int p3), .val (.long ((p2 &&& p3).toInt64)), .second] [(.int (((p2 &&& p3).toInt64).toInt32))])) (s₁.setTop (entryFrame m #[(.ref a1), (.int p2), (.int p3)] 5)) := fun t k => by
    refine pre0 t ?_
    refine XS.aloadN X0.here hx rfl (hb hby d2_0) rfl rfl ?_
    show Steps p.tables e below (s₁.setTop (mkF m 1 #[.val (.ref a1), .val (.int p2), .val (.int p3), .unset, .unset] [(.ref a1)])) _
    refine st21.trans ?_
    show Steps p.tables e below (T21.setTop (mkF m 4 #[.val (.ref a1), .val (.int p2), .val (.int p3), .unset, .unset] [(.int (1 : Int32))])) _
    refine XS.tswIn X21.here hx rfl (pc0 := 4) (pc' := 80) (o := 76) rfl (hb hby d2_4) rfl (by decide) (by decide) (by decide) (by decide) ?_
    show Steps p.tables e below (T21.setTop (mkF m 80 #[.val (.ref a1), .val (.int p2), .val (.int p3), .unset, .unset] [])) _
    refine XS.iloadN X21.here hx rfl (hb hby d2_80) rfl ?_
    show Steps p.tables e below (T21.setTop (mkF m 81 #[.val (.ref a1), .val (.int p2), .val (.int p3), .unset, .unset] [(.int p2)])) _
    refine XS.iloadN X21.here hx rfl (hb hby d2_81) rfl ?_
    show Steps p.tables e below (T21.setTop (mkF m 82 #[.val (.ref a1), .val (.int p2), .val (.int p3), .unset, .unset] [(.int p3), (.int p2)])) _
    refine XS.iand X21.here hx rfl (hb hby d2_82) rfl ?_
    show Steps p.tables e below (T21.setTop (mkF m 83 #[.val (.ref a1), .val (.int p2), .val (.int p3), .unset, .unset] [(.int (p2 &&& p3))])) _
    refine XS.i2l X21.here hx rfl (hb hby d2_83) rfl ?_
    show Steps p.tables e below (T21.setTop (mkF m 84 #[.val (.ref a1), .val (.int p2), .val (.int p3), .unset, .unset] [(.long ((p2 &&& p3).toInt64))])) _
    refine XS.lstoreN X21.here hx rfl (hb hby d2_84) rfl (l' := #[.val (.ref a1), .val (.int p2), .val (.int p3), .val (.long ((p2 &&& p3).toInt64)), .second]) rfl ?_
    show Steps p.tables e below (T21.setTop (mkF m 85 #[.val (.ref a1), .val (.int p2), .val (.int p3), .val (.long ((p2 &&& p3).toInt64)), .second] [])) _
    refine XS.goto X21.here hx rfl (pc0 := 85) (pc' := 219) rfl (hb hby d2_85) (by decide) (by decide) ?_
    show Steps p.tables e below (T21.setTop (mkF m 219 #[.val (.ref a1), .val (.int p2), .val (.int p3), .val (.long ((p2 &&& p3).toInt64)), .second] [])) _
    refine XS.lloadN X21.here hx rfl (hb hby d2_219) rfl ?_
    show Steps p.tables e below (T21.setTop (mkF m 220 #[.val (.ref a1), .val (.int p2), .val (.int p3), .val (.long ((p2 &&& p3).toInt64)), .second] [(.long ((p2 &&& p3).toInt64))])) _
    refine XS.lloadN X21.here hx rfl (hb hby d2_220) rfl ?_
    show Steps p.tables e below (T21.setTop (mkF m 221 #[.val (.ref a1), .val (.int p2), .val (.int p3), .val (.long ((p2 &&& p3).toInt64)), .second] [(.long ((p2 &&& p3).toInt64)), (.long ((p2 &&& p3).toInt64))])) _
    refine XS.l2i X21.here hx rfl (hb hby d2_221) rfl ?_
    show Steps p.tables e below (T21.setTop (mkF m 222 #[.val (.ref a1), .val (.int p2), .val (.int p3), .val (.long ((p2 &&& p3).toInt64)), .second] [(.int (((p2 &&& p3).toInt64).toInt32)), (.long ((p2 &&& p3).toInt64))])) _
    refine XS.i2l X21.here hx rfl (hb hby d2_222) rfl ?_
    show Steps p.tables e below (T21.setTop (mkF m 223 #[.val (.ref a1), .val (.int p2), .val (.int p3), .val (.long ((p2 &&& p3).toInt64)), .second] [(.long ((((p2 &&& p3).toInt64).toInt32).toInt64)), (.long ((p2 &&& p3).toInt64))])) _
    refine XS.lcmp X21.here hx rfl (hb hby d2_223) rfl ?_
    show Steps p.tables e below (T21.setTop (mkF m 224 #[.val (.ref a1), .val (.int p2), .val (.int p3), .val (.long ((p2 &&& p3).toInt64)), .second] [(.int (lcmpW ((p2 &&& p3).toInt64) ((((p2 &&& p3).toInt64).toInt32).toInt64)))])) _
    refine XS.ifYes X21.here hx rfl (pc0 := 224) (pc' := 246) rfl (hb hby d2_224) rfl ((if0 _ _).trans (teq ((own_lce _ _).mpr (show ((p2 &&& p3).toInt64) = ((((p2 &&& p3).toInt64).toInt32).toInt64) from by rw [own_back]))).1) (by decide) (by decide) ?_
    show Steps p.tables e below (T21.setTop (mkF m 246 #[.val (.ref a1), .val (.int p2), .val (.int p3), .val (.long ((p2 &&& p3).toInt64)), .second] [])) _
    refine XS.lloadN X21.here hx rfl (hb hby d2_246) rfl ?_
    show Steps p.tables e below (T21.setTop (mkF m 247 #[.val (.ref a1), .val (.int p2), .val (.int p3), .val (.long ((p2 &&& p3).toInt64)), .second] [(.long ((p2 &&& p3).toInt64))])) _
    refine XS.l2i X21.here hx rfl (hb hby d2_247) rfl ?_
    show Steps p.tables e below (T21.setTop (mkF m 248 #[.val (.ref a1), .val (.int p2), .val (.int p3), .val (.long ((p2 &&& p3).toInt64)), .second] [(.int (((p2 &&& p3).toInt64).toInt32))])) _
    exact k
  obtain ⟨fs, hr, hrun, hended, hW, hsame⟩ := X21.leave (v := some (.int (((p2 &&& p3).toInt64).toInt32))) (fun h => by rw [Bd.returns] at h; cases h)
  refine ⟨_, _, pre22 _ ?_, hrun, hended, _, _, rfl, ?_, ⟨_, rfl⟩, hW, hsame.mono (by decide) (by decide)⟩
  · exact retI X21 hx Bd.returns (hb hby d2_248) hr
  · show Q2 Z (p2 &&& p3) h0 n0 _ T21.heap _
    rw [e21]
    exact ⟨by rw [own_back], N21, rfl⟩
theorem own_AND0 {x : Int32} (h : x = 0) (y : Int32) : x &&& (y &&& 1) = x := by subst h; simp
theorem own_AND1 {x : Int32} (h : x = 1) (y : Int32) : x &&& (y &&& 1) = y &&& 1 := by
  subst h; rcases own_bit y with q | q <;> rw [q] <;> decide
theorem own_OR1 {x : Int32} (h : x = 1) (y : Int32) : x ||| (y &&& 1) = x := by
  subst h; rcases own_bit y with q | q <;> rw [q] <;> decide
theorem own_OR0 {x : Int32} (h : x = 0) (y : Int32) : x ||| (y &&& 1) = y &&& 1 := by subst h; simp
def Q0 (Z : State) (p1 p2 p3 p4 : Int32) (h0 : Heap) (n0 : Nat) (v : Option Value) (h : Heap) (L : List Loc) : Prop := v = some (.int (1 : Int32)) ∧ Fr n0 L
theorem ef_0 (m : MethodId) (p1 : Int32) (p2 : Int32) (p3 : Int32) (p4 : Int32) : entryFrame m #[(.int p1), (.int p2), (.int p3), (.int p4)] maxLocals = mkF m 0 #[.val (.int p1), .val (.int p2), .val (.int p3), .val (.int p4), .unset, .unset, .unset, .unset, .unset, .unset] [] := by first | (simp [entryFrame, mkF, argsToLocals, Value.category, maxLocals]; done) | rfl
set_option maxRecDepth 65536 in
set_option maxHeartbeats 40000000 in
theorem rm0 (l : Launch) (Z : State) (a0 : Array Value) (hw : ∀ d ∈ tables_1, d.before a0 Z = true) (ws : List Jvm.Cond) (p1 p2 p3 p4 : Int32) (a_OR a_AND a_EQUAL a_NOT_EQUAL a_LESS a_LESS_OR_EQUAL a_GREATER a_GREATER_OR_EQUAL a_ADD a_SUBTRACT a_MULTIPLY a_DIVIDE a_REMAINDER : Addr) (h0 : Heap) (n0 : Nat) (Z0 : n0 ≤ h0.size) (S_OR : Sta Z h0 "com/example/vertaler/vertaler/core/model/BinaryOperator" "OR" "Lcom/example/vertaler/vertaler/core/model/BinaryOperator;" (.ref a_OR)) (S_AND : Sta Z h0 "com/example/vertaler/vertaler/core/model/BinaryOperator" "AND" "Lcom/example/vertaler/vertaler/core/model/BinaryOperator;" (.ref a_AND)) (S_EQUAL : Sta Z h0 "com/example/vertaler/vertaler/core/model/BinaryOperator" "EQUAL" "Lcom/example/vertaler/vertaler/core/model/BinaryOperator;" (.ref a_EQUAL)) (S_NOT_EQUAL : Sta Z h0 "com/example/vertaler/vertaler/core/model/BinaryOperator" "NOT_EQUAL" "Lcom/example/vertaler/vertaler/core/model/BinaryOperator;" (.ref a_NOT_EQUAL)) (S_LESS : Sta Z h0 "com/example/vertaler/vertaler/core/model/BinaryOperator" "LESS" "Lcom/example/vertaler/vertaler/core/model/BinaryOperator;" (.ref a_LESS)) (S_LESS_OR_EQUAL : Sta Z h0 "com/example/vertaler/vertaler/core/model/BinaryOperator" "LESS_OR_EQUAL" "Lcom/example/vertaler/vertaler/core/model/BinaryOperator;" (.ref a_LESS_OR_EQUAL)) (S_GREATER : Sta Z h0 "com/example/vertaler/vertaler/core/model/BinaryOperator" "GREATER" "Lcom/example/vertaler/vertaler/core/model/BinaryOperator;" (.ref a_GREATER)) (S_GREATER_OR_EQUAL : Sta Z h0 "com/example/vertaler/vertaler/core/model/BinaryOperator" "GREATER_OR_EQUAL" "Lcom/example/vertaler/vertaler/core/model/BinaryOperator;" (.ref a_GREATER_OR_EQUAL)) (S_ADD : Sta Z h0 "com/example/vertaler/vertaler/core/model/BinaryOperator" "ADD" "Lcom/example/vertaler/vertaler/core/model/BinaryOperator;" (.ref a_ADD)) (S_SUBTRACT : Sta Z h0 "com/example/vertaler/vertaler/core/model/BinaryOperator" "SUBTRACT" "Lcom/example/vertaler/vertaler/core/model/BinaryOperator;" (.ref a_SUBTRACT)) (S_MULTIPLY : Sta Z h0 "com/example/vertaler/vertaler/core/model/BinaryOperator" "MULTIPLY" "Lcom/example/vertaler/vertaler/core/model/BinaryOperator;" (.ref a_MULTIPLY)) (S_DIVIDE : Sta Z h0 "com/example/vertaler/vertaler/core/model/BinaryOperator" "DIVIDE" "Lcom/example/vertaler/vertaler/core/model/BinaryOperator;" (.ref a_DIVIDE)) (S_REMAINDER : Sta Z h0 "com/example/vertaler/vertaler/core/model/BinaryOperator" "REMAINDER" "Lcom/example/vertaler/vertaler/core/model/BinaryOperator;" (.ref a_REMAINDER)) (Ex_OR : Exa Z h0 a_OR "com/example/vertaler/vertaler/core/model/BinaryOperator") (Ex_AND : Exa Z h0 a_AND "com/example/vertaler/vertaler/core/model/BinaryOperator") (Ex_EQUAL : Exa Z h0 a_EQUAL "com/example/vertaler/vertaler/core/model/BinaryOperator") (Ex_NOT_EQUAL : Exa Z h0 a_NOT_EQUAL "com/example/vertaler/vertaler/core/model/BinaryOperator") (Ex_LESS : Exa Z h0 a_LESS "com/example/vertaler/vertaler/core/model/BinaryOperator") (Ex_LESS_OR_EQUAL : Exa Z h0 a_LESS_OR_EQUAL "com/example/vertaler/vertaler/core/model/BinaryOperator") (Ex_GREATER : Exa Z h0 a_GREATER "com/example/vertaler/vertaler/core/model/BinaryOperator") (Ex_GREATER_OR_EQUAL : Exa Z h0 a_GREATER_OR_EQUAL "com/example/vertaler/vertaler/core/model/BinaryOperator") (Ex_ADD : Exa Z h0 a_ADD "com/example/vertaler/vertaler/core/model/BinaryOperator") (Ex_SUBTRACT : Exa Z h0 a_SUBTRACT "com/example/vertaler/vertaler/core/model/BinaryOperator") (Ex_MULTIPLY : Exa Z h0 a_MULTIPLY "com/example/vertaler/vertaler/core/model/BinaryOperator") (Ex_DIVIDE : Exa Z h0 a_DIVIDE "com/example/vertaler/vertaler/core/model/BinaryOperator") (Ex_REMAINDER : Exa Z h0 a_REMAINDER "com/example/vertaler/vertaler/core/model/BinaryOperator") (ne_AO : a_AND ≠ a_OR) (F_OR : Fld Z h0 a_OR "java/lang/Enum" "ordinal" "I" (.int (0 : Int32))) (F_AND : Fld Z h0 a_AND "java/lang/Enum" "ordinal" "I" (.int (1 : Int32))) :
    MetFree l x (head1 (Jvm.Cond.code x code maxLocals ret :: ws) room_1) (fun a U => a = #[(.int p1), (.int p2), (.int p3), (.int p4)] ∧ Z.Warmed39 U.vm ∧ U.heap = h0) (fun _ _ _ _ _ => True) (fun _ U o U' => ∃ v L, o = .returned v ∧ Q0 Z p1 p2 p3 p4 h0 n0 v U'.heap L ∧ FrameEnd U o U' L room_1.cells room_1.slots) := by
  refine MetFree.of_bodySF (plainFor_of_name pn_0) hisR ?_
  intro p e s m args below meth c s₁ Bd hml0 hP hK
  obtain ⟨rfl, hZ, hh⟩ := hP
  have hx := Bd.exec
  have hby := Bd.bytes
  have hml : c.maxLocals = 10 := hml0
  have hown : s.vm.findClass "com/example/vertaler/vertaler/core/model/BinaryOperatorIsDecidedByPinLaw" = some m.cls := findClass_of_methodNamed Bd.named
  have hnm := (name_of_methodNamed Bd.named Bd.method).1
  have X0 : Stand p l e room_1 s m #[(.int p1), (.int p2), (.int p3), (.int p4)] below meth c s₁ [] 0 0 := Stand.of_body Bd
  have e0 : s₁.heap = h0 := by rw [← hh, Bd.state]; rfl
  have N0 := Fr.nil n0
  have pre0 : Lead p e below (s₁.setTop (mkF m 0 #[.val (.int p1), .val (.int p2), .val (.int p3), .val (.int p4), .unset, .unset, .unset, .unset, .unset, .unset] [])) (s₁.setTop (entryFrame m #[(.int p1), (.int p2), (.int p3), (.int p4)] maxLocals)) := fun t k => castTop (ef_0 m p1 p2 p3 p4) k
  obtain ⟨T23, h23, k23, X23, e23, E23, A23, O23, st23⟩ := newR X0 hx hZ hown (hw _ (List.mem_of_getElem? (i := 0) rfl)) (hw _ (List.mem_of_getElem? (i := 1) rfl)) e0 (g := (mkF m 2 #[.val (.int p1), .val (.int p2), .val (.int p3), .val (.int p4), .unset, .unset, .unset, .unset, .unset, .unset] [(.int (13 : Int32))])) rfl (hb hby at_2) rfl (by decide) (cap := 13) (by decide) (by decide) (by decide) (by decide)
  obtain ⟨b23, g23⟩ : ∃ z, z = h0.size := ⟨_, rfl⟩
  rw [← g23] at A23 st23
  have gb23 : n0 ≤ b23 := Nat.le_trans Z0 (Nat.le_of_eq g23.symm)
  have sz23 : h0.size ≤ b23 := Nat.le_of_eq g23.symm
  have V23 : Arv Z h23 b23 k23 (.object "com/example/vertaler/vertaler/core/model/BinaryOperator") (13 : Int32) [.null, .null, .null, .null, .null, .null, .null, .null, .null, .null, .null, .null, .null] .null := (Arv.new A23 (by decide)).pad (pad_rep [] .null 13)
  obtain ⟨T24, X24, e24, st24⟩ := getS2 X23 hx hZ hown (host := "") (Or.inl (hw _ (List.mem_of_getElem? (i := 2) rfl))) Via.refl e23 (S_OR.ext E23) (g := (mkF m 7 #[.val (.int p1), .val (.int p2), .val (.int p3), .val (.int p4), .unset, .unset, .unset, .unset, .unset, .unset] [(.int (0 : Int32)), (.ref b23), (.ref b23)])) rfl (hb hby at_7)
  obtain ⟨cl25, Ar25, q25, Sz25, Nn25, Ha25, Ga25⟩ := V23
  have hin25 : ¬ ((0 : Int32) < 0 ∨ cl25.slots.size ≤ ((0 : Int32)).toNatClampNeg) := inb_of Sz25 ⟨by decide, by decide⟩
  obtain ⟨T25, h25, X25, e25, W25, st25⟩ := stR X24 hx hZ e24 Ar25 (j := (0 : Int32)) hin25 rfl (Sto.ofV Ar25 q25 O23 (Ins.self (Ex_OR.ext E23))) (g := (mkF m 10 #[.val (.int p1), .val (.int p2), .val (.int p3), .val (.int p4), .unset, .unset, .unset, .unset, .unset, .unset] [(.ref a_OR), (.int (0 : Int32)), (.ref b23), (.ref b23)])) rfl rfl (hb hby at_10)
  have V25 : Arv Z h25 b23 k23 (.object "com/example/vertaler/vertaler/core/model/BinaryOperator") (13 : Int32) [(.ref a_OR), .null, .null, .null, .null, .null, .null, .null, .null, .null, .null, .null, .null] .null := Arv.set Ar25 q25 Sz25 Nn25 Ha25 Ga25 rfl W25 0 rfl (Nat.le_of_ble_eq_true rfl)
  have E25 := own_extwr E23 W25 sz23
  have N25 := Fr.snoc X25 N0 gb23
  obtain ⟨T26, X26, e26, st26⟩ := getS2 X25 hx hZ hown (host := "") (Or.inl (hw _ (List.mem_of_getElem? (i := 6) rfl))) Via.refl e25 (S_AND.ext E25) (g := (mkF m 13 #[.val (.int p1), .val (.int p2), .val (.int p3), .val (.int p4), .unset, .unset, .unset, .unset, .unset, .unset] [(.int (1 : Int32)), (.ref b23), (.ref b23)])) rfl (hb hby at_13)
  obtain ⟨cl27, Ar27, q27, Sz27, Nn27, Ha27, Ga27⟩ := V25
  have hin27 : ¬ ((1 : Int32) < 0 ∨ cl27.slots.size ≤ ((1 : Int32)).toNatClampNeg) := inb_of Sz27 ⟨by decide, by decide⟩
  obtain ⟨T27, h27, X27, e27, W27, st27⟩ := stR X26 hx hZ e26 Ar27 (j := (1 : Int32)) hin27 rfl (Sto.ofV Ar27 q27 O23 (Ins.self (Ex_AND.ext E25))) (g := (mkF m 16 #[.val (.int p1), .val (.int p2), .val (.int p3), .val (.int p4), .unset, .unset, .unset, .unset, .unset, .unset] [(.ref a_AND), (.int (1 : Int32)), (.ref b23), (.ref b23)])) rfl rfl (hb hby at_16)
  have V27 : Arv Z h27 b23 k23 (.object "com/example/vertaler/vertaler/core/model/BinaryOperator") (13 : Int32) [(.ref a_OR), (.ref a_AND), .null, .null, .null, .null, .null, .null, .null, .null, .null, .null, .null] .null := Arv.set Ar27 q27 Sz27 Nn27 Ha27 Ga27 rfl W27 1 rfl (Nat.le_of_ble_eq_true rfl)
  have E27 := own_extwr E25 W27 sz23
  have N27 := Fr.snoc X27 N25 gb23
  obtain ⟨T28, X28, e28, st28⟩ := getS2 X27 hx hZ hown (host := "") (Or.inl (hw _ (List.mem_of_getElem? (i := 8) rfl))) Via.refl e27 (S_EQUAL.ext E27) (g := (mkF m 19 #[.val (.int p1), .val (.int p2), .val (.int p3), .val (.int p4), .unset, .unset, .unset, .unset, .unset, .unset] [(.int (2 : Int32)), (.ref b23), (.ref b23)])) rfl (hb hby at_19)
  obtain ⟨cl29, Ar29, q29, Sz29, Nn29, Ha29, Ga29⟩ := V27
  have hin29 : ¬ ((2 : Int32) < 0 ∨ cl29.slots.size ≤ ((2 : Int32)).toNatClampNeg) := inb_of Sz29 ⟨by decide, by decide⟩
  obtain ⟨T29, h29, X29, e29, W29, st29⟩ := stR X28 hx hZ e28 Ar29 (j := (2 : Int32)) hin29 rfl (Sto.ofV Ar29 q29 O23 (Ins.self (Ex_EQUAL.ext E27))) (g := (mkF m 22 #[.val (.int p1), .val (.int p2), .val (.int p3), .val (.int p4), .unset, .unset, .unset, .unset, .unset, .unset] [(.ref a_EQUAL), (.int (2 : Int32)), (.ref b23), (.ref b23)])) rfl rfl (hb hby at_22)
  have V29 : Arv Z h29 b23 k23 (.object "com/example/vertaler/vertaler/core/model/BinaryOperator") (13 : Int32) [(.ref a_OR), (.ref a_AND), (.ref a_EQUAL), .null, .null, .null, .null, .null, .null, .null, .null, .null, .null] .null := Arv.set Ar29 q29 Sz29 Nn29 Ha29 Ga29 rfl W29 2 rfl (Nat.le_of_ble_eq_true rfl)
  have E29 := own_extwr E27 W29 sz23
  have N29 := Fr.snoc X29 N27 gb23
  obtain ⟨T30, X30, e30, st30⟩ := getS2 X29 hx hZ hown (host := "") (Or.inl (hw _ (List.mem_of_getElem? (i := 10) rfl))) Via.refl e29 (S_NOT_EQUAL.ext E29) (g := (mkF m 25 #[.val (.int p1), .val (.int p2), .val (.int p3), .val (.int p4), .unset, .unset, .unset, .unset, .unset, .unset] [(.int (3 : Int32)), (.ref b23), (.ref b23)])) rfl (hb hby at_25)
  obtain ⟨cl31, Ar31, q31, Sz31, Nn31, Ha31, Ga31⟩ := V29
  have hin31 : ¬ ((3 : Int32) < 0 ∨ cl31.slots.size ≤ ((3 : Int32)).toNatClampNeg) := inb_of Sz31 ⟨by decide, by decide⟩
  obtain ⟨T31, h31, X31, e31, W31, st31⟩ := stR X30 hx hZ e30 Ar31 (j := (3 : Int32)) hin31 rfl (Sto.ofV Ar31 q31 O23 (Ins.self (Ex_NOT_EQUAL.ext E29))) (g := (mkF m 28 #[.val (.int p1), .val (.int p2), .val (.int p3), .val (.int p4), .unset, .unset, .unset, .unset, .unset, .unset] [(.ref a_NOT_EQUAL), (.int (3 : Int32)), (.ref b23), (.ref b23)])) rfl rfl (hb hby at_28)
  have V31 : Arv Z h31 b23 k23 (.object "com/example/vertaler/vertaler/core/model/BinaryOperator") (13 : Int32) [(.ref a_OR), (.ref a_AND), (.ref a_EQUAL), (.ref a_NOT_EQUAL), .null, .null, .null, .null, .null, .null, .null, .null, .null] .null := Arv.set Ar31 q31 Sz31 Nn31 Ha31 Ga31 rfl W31 3 rfl (Nat.le_of_ble_eq_true rfl)
  have E31 := own_extwr E29 W31 sz23
  have N31 := Fr.snoc X31 N29 gb23
  obtain ⟨T32, X32, e32, st32⟩ := getS2 X31 hx hZ hown (host := "") (Or.inl (hw _ (List.mem_of_getElem? (i := 12) rfl))) Via.refl e31 (S_LESS.ext E31) (g := (mkF m 31 #[.val (.int p1), .val (.int p2), .val (.int p3), .val (.int p4), .unset, .unset, .unset, .unset, .unset, .unset] [(.int (4 : Int32)), (.ref b23), (.ref b23)])) rfl (hb hby at_31)
  obtain ⟨cl33, Ar33, q33, Sz33, Nn33, Ha33, Ga33⟩ := V31
  have hin33 : ¬ ((4 : Int32) < 0 ∨ cl33.slots.size ≤ ((4 : Int32)).toNatClampNeg) := inb_of Sz33 ⟨by decide, by decide⟩
  obtain ⟨T33, h33, X33, e33, W33, st33⟩ := stR X32 hx hZ e32 Ar33 (j := (4 : Int32)) hin33 rfl (Sto.ofV Ar33 q33 O23 (Ins.self (Ex_LESS.ext E31))) (g := (mkF m 34 #[.val (.int p1), .val (.int p2), .val (.int p3), .val (.int p4), .unset, .unset, .unset, .unset, .unset, .unset] [(.ref a_LESS), (.int (4 : Int32)), (.ref b23), (.ref b23)])) rfl rfl (hb hby at_34)
  have V33 : Arv Z h33 b23 k23 (.object "com/example/vertaler/vertaler/core/model/BinaryOperator") (13 : Int32) [(.ref a_OR), (.ref a_AND), (.ref a_EQUAL), (.ref a_NOT_EQUAL), (.ref a_LESS), .null, .null, .null, .null, .null, .null, .null, .null] .null := Arv.set Ar33 q33 Sz33 Nn33 Ha33 Ga33 rfl W33 4 rfl (Nat.le_of_ble_eq_true rfl)
  have E33 := own_extwr E31 W33 sz23
  have N33 := Fr.snoc X33 N31 gb23
  obtain ⟨T34, X34, e34, st34⟩ := getS2 X33 hx hZ hown (host := "") (Or.inl (hw _ (List.mem_of_getElem? (i := 14) rfl))) Via.refl e33 (S_LESS_OR_EQUAL.ext E33) (g := (mkF m 37 #[.val (.int p1), .val (.int p2), .val (.int p3), .val (.int p4), .unset, .unset, .unset, .unset, .unset, .unset] [(.int (5 : Int32)), (.ref b23), (.ref b23)])) rfl (hb hby at_37)
  obtain ⟨cl35, Ar35, q35, Sz35, Nn35, Ha35, Ga35⟩ := V33
  have hin35 : ¬ ((5 : Int32) < 0 ∨ cl35.slots.size ≤ ((5 : Int32)).toNatClampNeg) := inb_of Sz35 ⟨by decide, by decide⟩
  obtain ⟨T35, h35, X35, e35, W35, st35⟩ := stR X34 hx hZ e34 Ar35 (j := (5 : Int32)) hin35 rfl (Sto.ofV Ar35 q35 O23 (Ins.self (Ex_LESS_OR_EQUAL.ext E33))) (g := (mkF m 40 #[.val (.int p1), .val (.int p2), .val (.int p3), .val (.int p4), .unset, .unset, .unset, .unset, .unset, .unset] [(.ref a_LESS_OR_EQUAL), (.int (5 : Int32)), (.ref b23), (.ref b23)])) rfl rfl (hb hby at_40)
  have V35 : Arv Z h35 b23 k23 (.object "com/example/vertaler/vertaler/core/model/BinaryOperator") (13 : Int32) [(.ref a_OR), (.ref a_AND), (.ref a_EQUAL), (.ref a_NOT_EQUAL), (.ref a_LESS), (.ref a_LESS_OR_EQUAL), .null, .null, .null, .null, .null, .null, .null] .null := Arv.set Ar35 q35 Sz35 Nn35 Ha35 Ga35 rfl W35 5 rfl (Nat.le_of_ble_eq_true rfl)
  have E35 := own_extwr E33 W35 sz23
  have N35 := Fr.snoc X35 N33 gb23
  obtain ⟨T36, X36, e36, st36⟩ := getS2 X35 hx hZ hown (host := "") (Or.inl (hw _ (List.mem_of_getElem? (i := 16) rfl))) Via.refl e35 (S_GREATER.ext E35) (g := (mkF m 44 #[.val (.int p1), .val (.int p2), .val (.int p3), .val (.int p4), .unset, .unset, .unset, .unset, .unset, .unset] [(.int (6 : Int32)), (.ref b23), (.ref b23)])) rfl (hb hby at_44)
  obtain ⟨cl37, Ar37, q37, Sz37, Nn37, Ha37, Ga37⟩ := V35
  have hin37 : ¬ ((6 : Int32) < 0 ∨ cl37.slots.size ≤ ((6 : Int32)).toNatClampNeg) := inb_of Sz37 ⟨by decide, by decide⟩
  obtain ⟨T37, h37, X37, e37, W37, st37⟩ := stR X36 hx hZ e36 Ar37 (j := (6 : Int32)) hin37 rfl (Sto.ofV Ar37 q37 O23 (Ins.self (Ex_GREATER.ext E35))) (g := (mkF m 47 #[.val (.int p1), .val (.int p2), .val (.int p3), .val (.int p4), .unset, .unset, .unset, .unset, .unset, .unset] [(.ref a_GREATER), (.int (6 : Int32)), (.ref b23), (.ref b23)])) rfl rfl (hb hby at_47)
  have V37 : Arv Z h37 b23 k23 (.object "com/example/vertaler/vertaler/core/model/BinaryOperator") (13 : Int32) [(.ref a_OR), (.ref a_AND), (.ref a_EQUAL), (.ref a_NOT_EQUAL), (.ref a_LESS), (.ref a_LESS_OR_EQUAL), (.ref a_GREATER), .null, .null, .null, .null, .null, .null] .null := Arv.set Ar37 q37 Sz37 Nn37 Ha37 Ga37 rfl W37 6 rfl (Nat.le_of_ble_eq_true rfl)
  have E37 := own_extwr E35 W37 sz23
  have N37 := Fr.snoc X37 N35 gb23
  obtain ⟨T38, X38, e38, st38⟩ := getS2 X37 hx hZ hown (host := "") (Or.inl (hw _ (List.mem_of_getElem? (i := 18) rfl))) Via.refl e37 (S_GREATER_OR_EQUAL.ext E37) (g := (mkF m 51 #[.val (.int p1), .val (.int p2), .val (.int p3), .val (.int p4), .unset, .unset, .unset, .unset, .unset, .unset] [(.int (7 : Int32)), (.ref b23), (.ref b23)])) rfl (hb hby at_51)
  obtain ⟨cl39, Ar39, q39, Sz39, Nn39, Ha39, Ga39⟩ := V37
  have hin39 : ¬ ((7 : Int32) < 0 ∨ cl39.slots.size ≤ ((7 : Int32)).toNatClampNeg) := inb_of Sz39 ⟨by decide, by decide⟩
  obtain ⟨T39, h39, X39, e39, W39, st39⟩ := stR X38 hx hZ e38 Ar39 (j := (7 : Int32)) hin39 rfl (Sto.ofV Ar39 q39 O23 (Ins.self (Ex_GREATER_OR_EQUAL.ext E37))) (g := (mkF m 54 #[.val (.int p1), .val (.int p2), .val (.int p3), .val (.int p4), .unset, .unset, .unset, .unset, .unset, .unset] [(.ref a_GREATER_OR_EQUAL), (.int (7 : Int32)), (.ref b23), (.ref b23)])) rfl rfl (hb hby at_54)
  have V39 : Arv Z h39 b23 k23 (.object "com/example/vertaler/vertaler/core/model/BinaryOperator") (13 : Int32) [(.ref a_OR), (.ref a_AND), (.ref a_EQUAL), (.ref a_NOT_EQUAL), (.ref a_LESS), (.ref a_LESS_OR_EQUAL), (.ref a_GREATER), (.ref a_GREATER_OR_EQUAL), .null, .null, .null, .null, .null] .null := Arv.set Ar39 q39 Sz39 Nn39 Ha39 Ga39 rfl W39 7 rfl (Nat.le_of_ble_eq_true rfl)
  have E39 := own_extwr E37 W39 sz23
  have N39 := Fr.snoc X39 N37 gb23
  obtain ⟨T40, X40, e40, st40⟩ := getS2 X39 hx hZ hown (host := "") (Or.inl (hw _ (List.mem_of_getElem? (i := 20) rfl))) Via.refl e39 (S_ADD.ext E39) (g := (mkF m 58 #[.val (.int p1), .val (.int p2), .val (.int p3), .val (.int p4), .unset, .unset, .unset, .unset, .unset, .unset] [(.int (8 : Int32)), (.ref b23), (.ref b23)])) rfl (hb hby at_58)
  obtain ⟨cl41, Ar41, q41, Sz41, Nn41, Ha41, Ga41⟩ := V39
  have hin41 : ¬ ((8 : Int32) < 0 ∨ cl41.slots.size ≤ ((8 : Int32)).toNatClampNeg) := inb_of Sz41 ⟨by decide, by decide⟩
  obtain ⟨T41, h41, X41, e41, W41, st41⟩ := stR X40 hx hZ e40 Ar41 (j := (8 : Int32)) hin41 rfl (Sto.ofV Ar41 q41 O23 (Ins.self (Ex_ADD.ext E39))) (g := (mkF m 61 #[.val (.int p1), .val (.int p2), .val (.int p3), .val (.int p4), .unset, .unset, .unset, .unset, .unset, .unset] [(.ref a_ADD), (.int (8 : Int32)), (.ref b23), (.ref b23)])) rfl rfl (hb hby at_61)
  have V41 : Arv Z h41 b23 k23 (.object "com/example/vertaler/vertaler/core/model/BinaryOperator") (13 : Int32) [(.ref a_OR), (.ref a_AND), (.ref a_EQUAL), (.ref a_NOT_EQUAL), (.ref a_LESS), (.ref a_LESS_OR_EQUAL), (.ref a_GREATER), (.ref a_GREATER_OR_EQUAL), (.ref a_ADD), .null, .null, .null, .null] .null := Arv.set Ar41 q41 Sz41 Nn41 Ha41 Ga41 rfl W41 8 rfl (Nat.le_of_ble_eq_true rfl)
  have E41 := own_extwr E39 W41 sz23
  have N41 := Fr.snoc X41 N39 gb23
  obtain ⟨T42, X42, e42, st42⟩ := getS2 X41 hx hZ hown (host := "") (Or.inl (hw _ (List.mem_of_getElem? (i := 22) rfl))) Via.refl e41 (S_SUBTRACT.ext E41) (g := (mkF m 65 #[.val (.int p1), .val (.int p2), .val (.int p3), .val (.int p4), .unset, .unset, .unset, .unset, .unset, .unset] [(.int (9 : Int32)), (.ref b23), (.ref b23)])) rfl (hb hby at_65)
  obtain ⟨cl43, Ar43, q43, Sz43, Nn43, Ha43, Ga43⟩ := V41
  have hin43 : ¬ ((9 : Int32) < 0 ∨ cl43.slots.size ≤ ((9 : Int32)).toNatClampNeg) := inb_of Sz43 ⟨by decide, by decide⟩
  obtain ⟨T43, h43, X43, e43, W43, st43⟩ := stR X42 hx hZ e42 Ar43 (j := (9 : Int32)) hin43 rfl (Sto.ofV Ar43 q43 O23 (Ins.self (Ex_SUBTRACT.ext E41))) (g := (mkF m 68 #[.val (.int p1), .val (.int p2), .val (.int p3), .val (.int p4), .unset, .unset, .unset, .unset, .unset, .unset] [(.ref a_SUBTRACT), (.int (9 : Int32)), (.ref b23), (.ref b23)])) rfl rfl (hb hby at_68)
  have V43 : Arv Z h43 b23 k23 (.object "com/example/vertaler/vertaler/core/model/BinaryOperator") (13 : Int32) [(.ref a_OR), (.ref a_AND), (.ref a_EQUAL), (.ref a_NOT_EQUAL), (.ref a_LESS), (.ref a_LESS_OR_EQUAL), (.ref a_GREATER), (.ref a_GREATER_OR_EQUAL), (.ref a_ADD), (.ref a_SUBTRACT), .null, .null, .null] .null := Arv.set Ar43 q43 Sz43 Nn43 Ha43 Ga43 rfl W43 9 rfl (Nat.le_of_ble_eq_true rfl)
  have E43 := own_extwr E41 W43 sz23
  have N43 := Fr.snoc X43 N41 gb23
  obtain ⟨T44, X44, e44, st44⟩ := getS2 X43 hx hZ hown (host := "") (Or.inl (hw _ (List.mem_of_getElem? (i := 24) rfl))) Via.refl e43 (S_MULTIPLY.ext E43) (g := (mkF m 72 #[.val (.int p1), .val (.int p2), .val (.int p3), .val (.int p4), .unset, .unset, .unset, .unset, .unset, .unset] [(.int (10 : Int32)), (.ref b23), (.ref b23)])) rfl (hb hby at_72)
  obtain ⟨cl45, Ar45, q45, Sz45, Nn45, Ha45, Ga45⟩ := V43
  have hin45 : ¬ ((10 : Int32) < 0 ∨ cl45.slots.size ≤ ((10 : Int32)).toNatClampNeg) := inb_of Sz45 ⟨by decide, by decide⟩
  obtain ⟨T45, h45, X45, e45, W45, st45⟩ := stR X44 hx hZ e44 Ar45 (j := (10 : Int32)) hin45 rfl (Sto.ofV Ar45 q45 O23 (Ins.self (Ex_MULTIPLY.ext E43))) (g := (mkF m 75 #[.val (.int p1), .val (.int p2), .val (.int p3), .val (.int p4), .unset, .unset, .unset, .unset, .unset, .unset] [(.ref a_MULTIPLY), (.int (10 : Int32)), (.ref b23), (.ref b23)])) rfl rfl (hb hby at_75)
  have V45 : Arv Z h45 b23 k23 (.object "com/example/vertaler/vertaler/core/model/BinaryOperator") (13 : Int32) [(.ref a_OR), (.ref a_AND), (.ref a_EQUAL), (.ref a_NOT_EQUAL), (.ref a_LESS), (.ref a_LESS_OR_EQUAL), (.ref a_GREATER), (.ref a_GREATER_OR_EQUAL), (.ref a_ADD), (.ref a_SUBTRACT), (.ref a_MULTIPLY), .null, .null] .null := Arv.set Ar45 q45 Sz45 Nn45 Ha45 Ga45 rfl W45 10 rfl (Nat.le_of_ble_eq_true rfl)
  have E45 := own_extwr E43 W45 sz23
  have N45 := Fr.snoc X45 N43 gb23
  obtain ⟨T46, X46, e46, st46⟩ := getS2 X45 hx hZ hown (host := "") (Or.inl (hw _ (List.mem_of_getElem? (i := 26) rfl))) Via.refl e45 (S_DIVIDE.ext E45) (g := (mkF m 79 #[.val (.int p1), .val (.int p2), .val (.int p3), .val (.int p4), .unset, .unset, .unset, .unset, .unset, .unset] [(.int (11 : Int32)), (.ref b23), (.ref b23)])) rfl (hb hby at_79)
  obtain ⟨cl47, Ar47, q47, Sz47, Nn47, Ha47, Ga47⟩ := V45
  have hin47 : ¬ ((11 : Int32) < 0 ∨ cl47.slots.size ≤ ((11 : Int32)).toNatClampNeg) := inb_of Sz47 ⟨by decide, by decide⟩
  obtain ⟨T47, h47, X47, e47, W47, st47⟩ := stR X46 hx hZ e46 Ar47 (j := (11 : Int32)) hin47 rfl (Sto.ofV Ar47 q47 O23 (Ins.self (Ex_DIVIDE.ext E45))) (g := (mkF m 82 #[.val (.int p1), .val (.int p2), .val (.int p3), .val (.int p4), .unset, .unset, .unset, .unset, .unset, .unset] [(.ref a_DIVIDE), (.int (11 : Int32)), (.ref b23), (.ref b23)])) rfl rfl (hb hby at_82)
  have V47 : Arv Z h47 b23 k23 (.object "com/example/vertaler/vertaler/core/model/BinaryOperator") (13 : Int32) [(.ref a_OR), (.ref a_AND), (.ref a_EQUAL), (.ref a_NOT_EQUAL), (.ref a_LESS), (.ref a_LESS_OR_EQUAL), (.ref a_GREATER), (.ref a_GREATER_OR_EQUAL), (.ref a_ADD), (.ref a_SUBTRACT), (.ref a_MULTIPLY), (.ref a_DIVIDE), .null] .null := Arv.set Ar47 q47 Sz47 Nn47 Ha47 Ga47 rfl W47 11 rfl (Nat.le_of_ble_eq_true rfl)
  have E47 := own_extwr E45 W47 sz23
  have N47 := Fr.snoc X47 N45 gb23
  obtain ⟨T48, X48, e48, st48⟩ := getS2 X47 hx hZ hown (host := "") (Or.inl (hw _ (List.mem_of_getElem? (i := 28) rfl))) Via.refl e47 (S_REMAINDER.ext E47) (g := (mkF m 86 #[.val (.int p1), .val (.int p2), .val (.int p3), .val (.int p4), .unset, .unset, .unset, .unset, .unset, .unset] [(.int (12 : Int32)), (.ref b23), (.ref b23)])) rfl (hb hby at_86)
  obtain ⟨cl49, Ar49, q49, Sz49, Nn49, Ha49, Ga49⟩ := V47
  have hin49 : ¬ ((12 : Int32) < 0 ∨ cl49.slots.size ≤ ((12 : Int32)).toNatClampNeg) := inb_of Sz49 ⟨by decide, by decide⟩
  obtain ⟨T49, h49, X49, e49, W49, st49⟩ := stR X48 hx hZ e48 Ar49 (j := (12 : Int32)) hin49 rfl (Sto.ofV Ar49 q49 O23 (Ins.self (Ex_REMAINDER.ext E47))) (g := (mkF m 89 #[.val (.int p1), .val (.int p2), .val (.int p3), .val (.int p4), .unset, .unset, .unset, .unset, .unset, .unset] [(.ref a_REMAINDER), (.int (12 : Int32)), (.ref b23), (.ref b23)])) rfl rfl (hb hby at_89)
  have V49 : Arv Z h49 b23 k23 (.object "com/example/vertaler/vertaler/core/model/BinaryOperator") (13 : Int32) [(.ref a_OR), (.ref a_AND), (.ref a_EQUAL), (.ref a_NOT_EQUAL), (.ref a_LESS), (.ref a_LESS_OR_EQUAL), (.ref a_GREATER), (.ref a_GREATER_OR_EQUAL), (.ref a_ADD), (.ref a_SUBTRACT), (.ref a_MULTIPLY), (.ref a_DIVIDE), (.ref a_REMAINDER)] .null := Arv.set Ar49 q49 Sz49 Nn49 Ha49 Ga49 rfl W49 12 rfl (Nat.le_of_ble_eq_true rfl)
  have E49 := own_extwr E47 W49 sz23
  have N49 := Fr.snoc X49 N47 gb23
  have pre50 : Lead p e below (T49.setTop (mkF m 90 #[.val (.int p1), .val (.int p2), .val (.int p3), .val (.int p4), .unset, .unset, .unset, .unset, .unset, .unset] [(.ref b23)])) (s₁.setTop (entryFrame m #[(.int p1), (.int p2), (.int p3), (.int p4)] maxLocals)) := fun t k => by
    refine pre0 t ?_
    refine XS.bipush X0.here hx rfl (hb hby at_0) ?_
    show Steps p.tables e below (s₁.setTop (mkF m 2 #[.val (.int p1), .val (.int p2), .val (.int p3), .val (.int p4), .unset, .unset, .unset, .unset, .unset, .unset] [(.int (13 : Int32))])) _
    refine st23 _ ?_
    show Steps p.tables e below (T23.setTop (mkF m 5 #[.val (.int p1), .val (.int p2), .val (.int p3), .val (.int p4), .unset, .unset, .unset, .unset, .unset, .unset] [(.ref b23)])) _
    refine XS.dup X23.here hx rfl (hb hby at_5) rfl rfl ?_
    show Steps p.tables e below (T23.setTop (mkF m 6 #[.val (.int p1), .val (.int p2), .val (.int p3), .val (.int p4), .unset, .unset, .unset, .unset, .unset, .unset] [(.ref b23), (.ref b23)])) _
    refine XS.iconst X23.here hx rfl (hb hby at_6) ?_
    show Steps p.tables e below (T23.setTop (mkF m 7 #[.val (.int p1), .val (.int p2), .val (.int p3), .val (.int p4), .unset, .unset, .unset, .unset, .unset, .unset] [(.int (0 : Int32)), (.ref b23), (.ref b23)])) _
    refine st24 _ ?_
    show Steps p.tables e below (T24.setTop (mkF m 10 #[.val (.int p1), .val (.int p2), .val (.int p3), .val (.int p4), .unset, .unset, .unset, .unset, .unset, .unset] [(.ref a_OR), (.int (0 : Int32)), (.ref b23), (.ref b23)])) _
    refine st25 _ ?_
    show Steps p.tables e below (T25.setTop (mkF m 11 #[.val (.int p1), .val (.int p2), .val (.int p3), .val (.int p4), .unset, .unset, .unset, .unset, .unset, .unset] [(.ref b23)])) _
    refine XS.dup X25.here hx rfl (hb hby at_11) rfl rfl ?_
    show Steps p.tables e below (T25.setTop (mkF m 12 #[.val (.int p1), .val (.int p2), .val (.int p3), .val (.int p4), .unset, .unset, .unset, .unset, .unset, .unset] [(.ref b23), (.ref b23)])) _
    refine XS.iconst X25.here hx rfl (hb hby at_12) ?_
    show Steps p.tables e below (T25.setTop (mkF m 13 #[.val (.int p1), .val (.int p2), .val (.int p3), .val (.int p4), .unset, .unset, .unset, .unset, .unset, .unset] [(.int (1 : Int32)), (.ref b23), (.ref b23)])) _
    refine st26 _ ?_
    show Steps p.tables e below (T26.setTop (mkF m 16 #[.val (.int p1), .val (.int p2), .val (.int p3), .val (.int p4), .unset, .unset, .unset, .unset, .unset, .unset] [(.ref a_AND), (.int (1 : Int32)), (.ref b23), (.ref b23)])) _
    refine st27 _ ?_
    show Steps p.tables e below (T27.setTop (mkF m 17 #[.val (.int p1), .val (.int p2), .val (.int p3), .val (.int p4), .unset, .unset, .unset, .unset, .unset, .unset] [(.ref b23)])) _
    refine XS.dup X27.here hx rfl (hb hby at_17) rfl rfl ?_
    show Steps p.tables e below (T27.setTop (mkF m 18 #[.val (.int p1), .val (.int p2), .val (.int p3), .val (.int p4), .unset, .unset, .unset, .unset, .unset, .unset] [(.ref b23), (.ref b23)])) _
    refine XS.iconst X27.here hx rfl (hb hby at_18) ?_
    show Steps p.tables e below (T27.setTop (mkF m 19 #[.val (.int p1), .val (.int p2), .val (.int p3), .val (.int p4), .unset, .unset, .unset, .unset, .unset, .unset] [(.int (2 : Int32)), (.ref b23), (.ref b23)])) _
    refine st28 _ ?_
    show Steps p.tables e below (T28.setTop (mkF m 22 #[.val (.int p1), .val (.int p2), .val (.int p3), .val (.int p4), .unset, .unset, .unset, .unset, .unset, .unset] [(.ref a_EQUAL), (.int (2 : Int32)), (.ref b23), (.ref b23)])) _
    refine st29 _ ?_
    show Steps p.tables e below (T29.setTop (mkF m 23 #[.val (.int p1), .val (.int p2), .val (.int p3), .val (.int p4), .unset, .unset, .unset, .unset, .unset, .unset] [(.ref b23)])) _
    refine XS.dup X29.here hx rfl (hb hby at_23) rfl rfl ?_
    show Steps p.tables e below (T29.setTop (mkF m 24 #[.val (.int p1), .val (.int p2), .val (.int p3), .val (.int p4), .unset, .unset, .unset, .unset, .unset, .unset] [(.ref b23), (.ref b23)])) _
    refine XS.iconst X29.here hx rfl (hb hby at_24) ?_
    show Steps p.tables e below (T29.setTop (mkF m 25 #[.val (.int p1), .val (.int p2), .val (.int p3), .val (.int p4), .unset, .unset, .unset, .unset, .unset, .unset] [(.int (3 : Int32)), (.ref b23), (.ref b23)])) _
    refine st30 _ ?_
    show Steps p.tables e below (T30.setTop (mkF m 28 #[.val (.int p1), .val (.int p2), .val (.int p3), .val (.int p4), .unset, .unset, .unset, .unset, .unset, .unset] [(.ref a_NOT_EQUAL), (.int (3 : Int32)), (.ref b23), (.ref b23)])) _
    refine st31 _ ?_
    show Steps p.tables e below (T31.setTop (mkF m 29 #[.val (.int p1), .val (.int p2), .val (.int p3), .val (.int p4), .unset, .unset, .unset, .unset, .unset, .unset] [(.ref b23)])) _
    refine XS.dup X31.here hx rfl (hb hby at_29) rfl rfl ?_
    show Steps p.tables e below (T31.setTop (mkF m 30 #[.val (.int p1), .val (.int p2), .val (.int p3), .val (.int p4), .unset, .unset, .unset, .unset, .unset, .unset] [(.ref b23), (.ref b23)])) _
    refine XS.iconst X31.here hx rfl (hb hby at_30) ?_
    show Steps p.tables e below (T31.setTop (mkF m 31 #[.val (.int p1), .val (.int p2), .val (.int p3), .val (.int p4), .unset, .unset, .unset, .unset, .unset, .unset] [(.int (4 : Int32)), (.ref b23), (.ref b23)])) _
    refine st32 _ ?_
    show Steps p.tables e below (T32.setTop (mkF m 34 #[.val (.int p1), .val (.int p2), .val (.int p3), .val (.int p4), .unset, .unset, .unset, .unset, .unset, .unset] [(.ref a_LESS), (.int (4 : Int32)), (.ref b23), (.ref b23)])) _
    refine st33 _ ?_
    show Steps p.tables e below (T33.setTop (mkF m 35 #[.val (.int p1), .val (.int p2), .val (.int p3), .val (.int p4), .unset, .unset, .unset, .unset, .unset, .unset] [(.ref b23)])) _
    refine XS.dup X33.here hx rfl (hb hby at_35) rfl rfl ?_
    show Steps p.tables e below (T33.setTop (mkF m 36 #[.val (.int p1), .val (.int p2), .val (.int p3), .val (.int p4), .unset, .unset, .unset, .unset, .unset, .unset] [(.ref b23), (.ref b23)])) _
    refine XS.iconst X33.here hx rfl (hb hby at_36) ?_
    show Steps p.tables e below (T33.setTop (mkF m 37 #[.val (.int p1), .val (.int p2), .val (.int p3), .val (.int p4), .unset, .unset, .unset, .unset, .unset, .unset] [(.int (5 : Int32)), (.ref b23), (.ref b23)])) _
    refine st34 _ ?_
    show Steps p.tables e below (T34.setTop (mkF m 40 #[.val (.int p1), .val (.int p2), .val (.int p3), .val (.int p4), .unset, .unset, .unset, .unset, .unset, .unset] [(.ref a_LESS_OR_EQUAL), (.int (5 : Int32)), (.ref b23), (.ref b23)])) _
    refine st35 _ ?_
    show Steps p.tables e below (T35.setTop (mkF m 41 #[.val (.int p1), .val (.int p2), .val (.int p3), .val (.int p4), .unset, .unset, .unset, .unset, .unset, .unset] [(.ref b23)])) _
    refine XS.dup X35.here hx rfl (hb hby at_41) rfl rfl ?_
    show Steps p.tables e below (T35.setTop (mkF m 42 #[.val (.int p1), .val (.int p2), .val (.int p3), .val (.int p4), .unset, .unset, .unset, .unset, .unset, .unset] [(.ref b23), (.ref b23)])) _
    refine XS.bipush X35.here hx rfl (hb hby at_42) ?_
    show Steps p.tables e below (T35.setTop (mkF m 44 #[.val (.int p1), .val (.int p2), .val (.int p3), .val (.int p4), .unset, .unset, .unset, .unset, .unset, .unset] [(.int (6 : Int32)), (.ref b23), (.ref b23)])) _
    refine st36 _ ?_
    show Steps p.tables e below (T36.setTop (mkF m 47 #[.val (.int p1), .val (.int p2), .val (.int p3), .val (.int p4), .unset, .unset, .unset, .unset, .unset, .unset] [(.ref a_GREATER), (.int (6 : Int32)), (.ref b23), (.ref b23)])) _
    refine st37 _ ?_
    show Steps p.tables e below (T37.setTop (mkF m 48 #[.val (.int p1), .val (.int p2), .val (.int p3), .val (.int p4), .unset, .unset, .unset, .unset, .unset, .unset] [(.ref b23)])) _
    refine XS.dup X37.here hx rfl (hb hby at_48) rfl rfl ?_
    show Steps p.tables e below (T37.setTop (mkF m 49 #[.val (.int p1), .val (.int p2), .val (.int p3), .val (.int p4), .unset, .unset, .unset, .unset, .unset, .unset] [(.ref b23), (.ref b23)])) _
    refine XS.bipush X37.here hx rfl (hb hby at_49) ?_
    show Steps p.tables e below (T37.setTop (mkF m 51 #[.val (.int p1), .val (.int p2), .val (.int p3), .val (.int p4), .unset, .unset, .unset, .unset, .unset, .unset] [(.int (7 : Int32)), (.ref b23), (.ref b23)])) _
    refine st38 _ ?_
    show Steps p.tables e below (T38.setTop (mkF m 54 #[.val (.int p1), .val (.int p2), .val (.int p3), .val (.int p4), .unset, .unset, .unset, .unset, .unset, .unset] [(.ref a_GREATER_OR_EQUAL), (.int (7 : Int32)), (.ref b23), (.ref b23)])) _
    refine st39 _ ?_
    show Steps p.tables e below (T39.setTop (mkF m 55 #[.val (.int p1), .val (.int p2), .val (.int p3), .val (.int p4), .unset, .unset, .unset, .unset, .unset, .unset] [(.ref b23)])) _
    refine XS.dup X39.here hx rfl (hb hby at_55) rfl rfl ?_
    show Steps p.tables e below (T39.setTop (mkF m 56 #[.val (.int p1), .val (.int p2), .val (.int p3), .val (.int p4), .unset, .unset, .unset, .unset, .unset, .unset] [(.ref b23), (.ref b23)])) _
    refine XS.bipush X39.here hx rfl (hb hby at_56) ?_
    show Steps p.tables e below (T39.setTop (mkF m 58 #[.val (.int p1), .val (.int p2), .val (.int p3), .val (.int p4), .unset, .unset, .unset, .unset, .unset, .unset] [(.int (8 : Int32)), (.ref b23), (.ref b23)])) _
    refine st40 _ ?_
    show Steps p.tables e below (T40.setTop (mkF m 61 #[.val (.int p1), .val (.int p2), .val (.int p3), .val (.int p4), .unset, .unset, .unset, .unset, .unset, .unset] [(.ref a_ADD), (.int (8 : Int32)), (.ref b23), (.ref b23)])) _
    refine st41 _ ?_
    show Steps p.tables e below (T41.setTop (mkF m 62 #[.val (.int p1), .val (.int p2), .val (.int p3), .val (.int p4), .unset, .unset, .unset, .unset, .unset, .unset] [(.ref b23)])) _
    refine XS.dup X41.here hx rfl (hb hby at_62) rfl rfl ?_
    show Steps p.tables e below (T41.setTop (mkF m 63 #[.val (.int p1), .val (.int p2), .val (.int p3), .val (.int p4), .unset, .unset, .unset, .unset, .unset, .unset] [(.ref b23), (.ref b23)])) _
    refine XS.bipush X41.here hx rfl (hb hby at_63) ?_
    show Steps p.tables e below (T41.setTop (mkF m 65 #[.val (.int p1), .val (.int p2), .val (.int p3), .val (.int p4), .unset, .unset, .unset, .unset, .unset, .unset] [(.int (9 : Int32)), (.ref b23), (.ref b23)])) _
    refine st42 _ ?_
    show Steps p.tables e below (T42.setTop (mkF m 68 #[.val (.int p1), .val (.int p2), .val (.int p3), .val (.int p4), .unset, .unset, .unset, .unset, .unset, .unset] [(.ref a_SUBTRACT), (.int (9 : Int32)), (.ref b23), (.ref b23)])) _
    refine st43 _ ?_
    show Steps p.tables e below (T43.setTop (mkF m 69 #[.val (.int p1), .val (.int p2), .val (.int p3), .val (.int p4), .unset, .unset, .unset, .unset, .unset, .unset] [(.ref b23)])) _
    refine XS.dup X43.here hx rfl (hb hby at_69) rfl rfl ?_
    show Steps p.tables e below (T43.setTop (mkF m 70 #[.val (.int p1), .val (.int p2), .val (.int p3), .val (.int p4), .unset, .unset, .unset, .unset, .unset, .unset] [(.ref b23), (.ref b23)])) _
    refine XS.bipush X43.here hx rfl (hb hby at_70) ?_
    show Steps p.tables e below (T43.setTop (mkF m 72 #[.val (.int p1), .val (.int p2), .val (.int p3), .val (.int p4), .unset, .unset, .unset, .unset, .unset, .unset] [(.int (10 : Int32)), (.ref b23), (.ref b23)])) _
    refine st44 _ ?_
    show Steps p.tables e below (T44.setTop (mkF m 75 #[.val (.int p1), .val (.int p2), .val (.int p3), .val (.int p4), .unset, .unset, .unset, .unset, .unset, .unset] [(.ref a_MULTIPLY), (.int (10 : Int32)), (.ref b23), (.ref b23)])) _
    refine st45 _ ?_
    show Steps p.tables e below (T45.setTop (mkF m 76 #[.val (.int p1), .val (.int p2), .val (.int p3), .val (.int p4), .unset, .unset, .unset, .unset, .unset, .unset] [(.ref b23)])) _
    refine XS.dup X45.here hx rfl (hb hby at_76) rfl rfl ?_
    show Steps p.tables e below (T45.setTop (mkF m 77 #[.val (.int p1), .val (.int p2), .val (.int p3), .val (.int p4), .unset, .unset, .unset, .unset, .unset, .unset] [(.ref b23), (.ref b23)])) _
    refine XS.bipush X45.here hx rfl (hb hby at_77) ?_
    show Steps p.tables e below (T45.setTop (mkF m 79 #[.val (.int p1), .val (.int p2), .val (.int p3), .val (.int p4), .unset, .unset, .unset, .unset, .unset, .unset] [(.int (11 : Int32)), (.ref b23), (.ref b23)])) _
    refine st46 _ ?_
    show Steps p.tables e below (T46.setTop (mkF m 82 #[.val (.int p1), .val (.int p2), .val (.int p3), .val (.int p4), .unset, .unset, .unset, .unset, .unset, .unset] [(.ref a_DIVIDE), (.int (11 : Int32)), (.ref b23), (.ref b23)])) _
    refine st47 _ ?_
    show Steps p.tables e below (T47.setTop (mkF m 83 #[.val (.int p1), .val (.int p2), .val (.int p3), .val (.int p4), .unset, .unset, .unset, .unset, .unset, .unset] [(.ref b23)])) _
    refine XS.dup X47.here hx rfl (hb hby at_83) rfl rfl ?_
    show Steps p.tables e below (T47.setTop (mkF m 84 #[.val (.int p1), .val (.int p2), .val (.int p3), .val (.int p4), .unset, .unset, .unset, .unset, .unset, .unset] [(.ref b23), (.ref b23)])) _
    refine XS.bipush X47.here hx rfl (hb hby at_84) ?_
    show Steps p.tables e below (T47.setTop (mkF m 86 #[.val (.int p1), .val (.int p2), .val (.int p3), .val (.int p4), .unset, .unset, .unset, .unset, .unset, .unset] [(.int (12 : Int32)), (.ref b23), (.ref b23)])) _
    refine st48 _ ?_
    show Steps p.tables e below (T48.setTop (mkF m 89 #[.val (.int p1), .val (.int p2), .val (.int p3), .val (.int p4), .unset, .unset, .unset, .unset, .unset, .unset] [(.ref a_REMAINDER), (.int (12 : Int32)), (.ref b23), (.ref b23)])) _
    refine st49 _ ?_
    show Steps p.tables e below (T49.setTop (mkF m 90 #[.val (.int p1), .val (.int p2), .val (.int p3), .val (.int p4), .unset, .unset, .unset, .unset, .unset, .unset] [(.ref b23)])) _
    exact k
  obtain ⟨cc, hcc, EJ⟩ := own_at (Z := Z) (h0 := h0) (own_rem p1).1 (own_rem p1).2 Ex_OR Ex_AND Ex_EQUAL Ex_NOT_EQUAL Ex_LESS Ex_LESS_OR_EQUAL Ex_GREATER Ex_GREATER_OR_EQUAL Ex_ADD Ex_SUBTRACT Ex_MULTIPLY Ex_DIVIDE Ex_REMAINDER
  obtain ⟨clA, ArA, -, SzA, -, HaA, -⟩ := V49
  have hinA := inb_of SzA (own_rem p1)
  have pre51 : Lead p e below (T49.setTop (mkF m 107 #[.val (.int p1), .val (.int p2), .val (.int p3), .val (.int p4), .val (.ref b23), .val (.ref cc), .unset, .unset, .unset, .unset] [(.int (p3 &&& (1 : Int32)))])) (s₁.setTop (entryFrame m #[(.int p1), (.int p2), (.int p3), (.int p4)] maxLocals)) := fun t k => by
    refine pre50 t ?_
    refine XS.astore X49.here hx rfl (hb hby at_90) rfl rfl (l' := #[.val (.int p1), .val (.int p2), .val (.int p3), .val (.int p4), .val (.ref b23), .unset, .unset, .unset, .unset, .unset]) rfl ?_
    show Steps p.tables e below (T49.setTop (mkF m 92 #[.val (.int p1), .val (.int p2), .val (.int p3), .val (.int p4), .val (.ref b23), .unset, .unset, .unset, .unset, .unset] [])) _
    refine XS.aload X49.here hx rfl (hb hby at_92) rfl rfl ?_
    show Steps p.tables e below (T49.setTop (mkF m 94 #[.val (.int p1), .val (.int p2), .val (.int p3), .val (.int p4), .val (.ref b23), .unset, .unset, .unset, .unset, .unset] [(.ref b23)])) _
    refine XS.iloadN X49.here hx rfl (hb hby at_94) rfl ?_
    show Steps p.tables e below (T49.setTop (mkF m 95 #[.val (.int p1), .val (.int p2), .val (.int p3), .val (.int p4), .val (.ref b23), .unset, .unset, .unset, .unset, .unset] [(.int p1), (.ref b23)])) _
    refine X49.ldcInt hx hown (mvT hZ (hw _ (List.mem_of_getElem? (i := 30) rfl))) (g := (mkF m 95 #[.val (.int p1), .val (.int p2), .val (.int p3), .val (.int p4), .val (.ref b23), .unset, .unset, .unset, .unset, .unset] [(.int p1), (.ref b23)])) rfl (hb hby at_95) _ ?_
    show Steps p.tables e below (T49.setTop (mkF m 97 #[.val (.int p1), .val (.int p2), .val (.int p3), .val (.int p4), .val (.ref b23), .unset, .unset, .unset, .unset, .unset] [(.int (2147483647 : Int32)), (.int p1), (.ref b23)])) _
    refine XS.iand X49.here hx rfl (hb hby at_97) rfl ?_
    show Steps p.tables e below (T49.setTop (mkF m 98 #[.val (.int p1), .val (.int p2), .val (.int p3), .val (.int p4), .val (.ref b23), .unset, .unset, .unset, .unset, .unset] [(.int (p1 &&& (2147483647 : Int32))), (.ref b23)])) _
    refine XS.bipush X49.here hx rfl (hb hby at_98) ?_
    show Steps p.tables e below (T49.setTop (mkF m 100 #[.val (.int p1), .val (.int p2), .val (.int p3), .val (.int p4), .val (.ref b23), .unset, .unset, .unset, .unset, .unset] [(.int (13 : Int32)), (.int (p1 &&& (2147483647 : Int32))), (.ref b23)])) _
    refine iremM (g := (mkF m 100 #[.val (.int p1), .val (.int p2), .val (.int p3), .val (.int p4), .val (.ref b23), .unset, .unset, .unset, .unset, .unset] [(.int (13 : Int32)), (.int (p1 &&& (2147483647 : Int32))), (.ref b23)])) X49 hx rfl (hb hby at_100) rfl (by decide) ?_
    show Steps p.tables e below (T49.setTop (mkF m 101 #[.val (.int p1), .val (.int p2), .val (.int p3), .val (.int p4), .val (.ref b23), .unset, .unset, .unset, .unset, .unset] [(.int ((p1 &&& (2147483647 : Int32)) % (13 : Int32))), (.ref b23)])) _
    refine X49.aaload hx (j := ((p1 &&& (2147483647 : Int32)) % (13 : Int32))) (v := .ref cc) (by rw [e49]; exact ArA.1) (State.isArrayOf_alike hZ.alike ArA.2.1) rfl ArA.2.2 hinA (HaA.at hinA hcc) (g := (mkF m 101 #[.val (.int p1), .val (.int p2), .val (.int p3), .val (.int p4), .val (.ref b23), .unset, .unset, .unset, .unset, .unset] [(.int ((p1 &&& (2147483647 : Int32)) % (13 : Int32))), (.ref b23)])) rfl rfl (hb hby at_101) _ ?_
    show Steps p.tables e below (T49.setTop (mkF m 102 #[.val (.int p1), .val (.int p2), .val (.int p3), .val (.int p4), .val (.ref b23), .unset, .unset, .unset, .unset, .unset] [(.ref cc)])) _
    refine XS.astore X49.here hx rfl (hb hby at_102) rfl rfl (l' := #[.val (.int p1), .val (.int p2), .val (.int p3), .val (.int p4), .val (.ref b23), .val (.ref cc), .unset, .unset, .unset, .unset]) rfl ?_
    show Steps p.tables e below (T49.setTop (mkF m 104 #[.val (.int p1), .val (.int p2), .val (.int p3), .val (.int p4), .val (.ref b23), .val (.ref cc), .unset, .unset, .unset, .unset] [])) _
    refine XS.iloadN X49.here hx rfl (hb hby at_104) rfl ?_
    show Steps p.tables e below (T49.setTop (mkF m 105 #[.val (.int p1), .val (.int p2), .val (.int p3), .val (.int p4), .val (.ref b23), .val (.ref cc), .unset, .unset, .unset, .unset] [(.int p3)])) _
    refine XS.iconst X49.here hx rfl (hb hby at_105) ?_
    show Steps p.tables e below (T49.setTop (mkF m 106 #[.val (.int p1), .val (.int p2), .val (.int p3), .val (.int p4), .val (.ref b23), .val (.ref cc), .unset, .unset, .unset, .unset] [(.int (1 : Int32)), (.int p3)])) _
    refine XS.iand X49.here hx rfl (hb hby at_106) rfl ?_
    show Steps p.tables e below (T49.setTop (mkF m 107 #[.val (.int p1), .val (.int p2), .val (.int p3), .val (.int p4), .val (.ref b23), .val (.ref cc), .unset, .unset, .unset, .unset] [(.int (p3 &&& (1 : Int32)))])) _
    exact k
  obtain ⟨lf, preJ⟩ : ∃ lf : Int32, Lead p e below (T49.setTop (mkF m 119 #[.val (.int p1), .val (.int p2), .val (.int p3), .val (.int p4), .val (.ref b23), .val (.ref cc), .val (.int lf), .unset, .unset, .unset] [])) (s₁.setTop (entryFrame m #[(.int p1), (.int p2), (.int p3), (.int p4)] maxLocals)) := by
    by_cases h107 : (p3 &&& (1 : Int32)) = (0 : Int32)
    · skip
      have pre52 : Lead p e below (T49.setTop (mkF m 119 #[.val (.int p1), .val (.int p2), .val (.int p3), .val (.int p4), .val (.ref b23), .val (.ref cc), .val (.int p2), .unset, .unset, .unset] [])) (s₁.setTop (entryFrame m #[(.int p1), (.int p2), (.int p3), (.int p4)] maxLocals)) := fun t k => by
        refine pre51 t ?_
        refine XS.ifYes X49.here hx rfl (pc0 := 107) (pc' := 116) rfl (hb hby at_107) rfl ((if0 _ _).trans (teq h107).1) (by decide) (by decide) ?_
        show Steps p.tables e below (T49.setTop (mkF m 116 #[.val (.int p1), .val (.int p2), .val (.int p3), .val (.int p4), .val (.ref b23), .val (.ref cc), .unset, .unset, .unset, .unset] [])) _
        refine XS.iloadN X49.here hx rfl (hb hby at_116) rfl ?_
        show Steps p.tables e below (T49.setTop (mkF m 117 #[.val (.int p1), .val (.int p2), .val (.int p3), .val (.int p4), .val (.ref b23), .val (.ref cc), .unset, .unset, .unset, .unset] [(.int p2)])) _
        refine XS.istore X49.here hx rfl (hb hby at_117) rfl (l' := #[.val (.int p1), .val (.int p2), .val (.int p3), .val (.int p4), .val (.ref b23), .val (.ref cc), .val (.int p2), .unset, .unset, .unset]) rfl ?_
        show Steps p.tables e below (T49.setTop (mkF m 119 #[.val (.int p1), .val (.int p2), .val (.int p3), .val (.int p4), .val (.ref b23), .val (.ref cc), .val (.int p2), .unset, .unset, .unset] [])) _
        exact k
      exact ⟨_, pre52⟩
    · skip
      have pre53 : Lead p e below (T49.setTop (mkF m 119 #[.val (.int p1), .val (.int p2), .val (.int p3), .val (.int p4), .val (.ref b23), .val (.ref cc), .val (.int (p2 &&& (1 : Int32))), .unset, .unset, .unset] [])) (s₁.setTop (entryFrame m #[(.int p1), (.int p2), (.int p3), (.int p4)] maxLocals)) := fun t k => by
        refine pre51 t ?_
        refine XS.ifNo X49.here hx rfl (hb hby at_107) rfl ((if0 _ _).trans (feq h107).1) ?_
        show Steps p.tables e below (T49.setTop (mkF m 110 #[.val (.int p1), .val (.int p2), .val (.int p3), .val (.int p4), .val (.ref b23), .val (.ref cc), .unset, .unset, .unset, .unset] [])) _
        refine XS.iloadN X49.here hx rfl (hb hby at_110) rfl ?_
        show Steps p.tables e below (T49.setTop (mkF m 111 #[.val (.int p1), .val (.int p2), .val (.int p3), .val (.int p4), .val (.ref b23), .val (.ref cc), .unset, .unset, .unset, .unset] [(.int p2)])) _
        refine XS.iconst X49.here hx rfl (hb hby at_111) ?_
        show Steps p.tables e below (T49.setTop (mkF m 112 #[.val (.int p1), .val (.int p2), .val (.int p3), .val (.int p4), .val (.ref b23), .val (.ref cc), .unset, .unset, .unset, .unset] [(.int (1 : Int32)), (.int p2)])) _
        refine XS.iand X49.here hx rfl (hb hby at_112) rfl ?_
        show Steps p.tables e below (T49.setTop (mkF m 113 #[.val (.int p1), .val (.int p2), .val (.int p3), .val (.int p4), .val (.ref b23), .val (.ref cc), .unset, .unset, .unset, .unset] [(.int (p2 &&& (1 : Int32)))])) _
        refine XS.goto X49.here hx rfl (pc0 := 113) (pc' := 117) rfl (hb hby at_113) (by decide) (by decide) ?_
        show Steps p.tables e below (T49.setTop (mkF m 117 #[.val (.int p1), .val (.int p2), .val (.int p3), .val (.int p4), .val (.ref b23), .val (.ref cc), .unset, .unset, .unset, .unset] [(.int (p2 &&& (1 : Int32)))])) _
        refine XS.istore X49.here hx rfl (hb hby at_117) rfl (l' := #[.val (.int p1), .val (.int p2), .val (.int p3), .val (.int p4), .val (.ref b23), .val (.ref cc), .val (.int (p2 &&& (1 : Int32))), .unset, .unset, .unset]) rfl ?_
        show Steps p.tables e below (T49.setTop (mkF m 119 #[.val (.int p1), .val (.int p2), .val (.int p3), .val (.int p4), .val (.ref b23), .val (.ref cc), .val (.int (p2 &&& (1 : Int32))), .unset, .unset, .unset] [])) _
        exact k
      exact ⟨_, pre53⟩
  obtain ⟨cq54, kq54, q54a, q54b, q54c⟩ := isOf hZ e49 (EJ.ext E49)
  obtain ⟨_, _, ⟨T54, L54, k54, n54⟩, -, X54, ⟨Lc54, hQ54, l54, y54, z54⟩, st54⟩ := X49.virtualBack hx (y := (⟨"com/example/vertaler/vertaler/core/model/BinaryOperator", "isDecidedBy", "(I)Z"⟩ : MethodName)) (z := (⟨"com/example/vertaler/vertaler/core/model/BinaryOperator", "isDecidedBy", "(I)Z"⟩ : MethodName)) hown (mvT hZ (hw _ (List.mem_of_getElem? (i := 31) rfl))) (mvT hZ (hw _ (List.mem_of_getElem? (i := 32) rfl))) (notFace_of_selects (args := #[]) (mvT hZ (hw _ (List.mem_of_getElem? (i := 34) rfl)))) (mvT hZ (hw _ (List.mem_of_getElem? (i := 34) rfl))) (mvT hZ (hw _ (List.mem_of_getElem? (i := 33) rfl))) (by decide) (backOf (W := 0) (rm1 l Z a0 hw [] cc a_AND a_OR lf h49 n0 (Nat.le_trans Z0 E49.1) (S_AND.ext E49) (S_OR.ext E49)) hZ (hw _ (List.mem_of_getElem? (i := 35) rfl)) (hw _ (List.mem_of_getElem? (i := 3) rfl)) (by decide) (by decide)) q54a q54c (g := (mkF m 123 #[.val (.int p1), .val (.int p2), .val (.int p3), .val (.int p4), .val (.ref b23), .val (.ref cc), .val (.int lf), .unset, .unset, .unset] [(.int lf), (.ref cc)])) rfl (by rw [hml]; rfl) (Steps.refl _) (argsL := [(.int lf)]) (rest := []) (lenOf pd_1 rfl) rfl (by show 2 * 0 + _ ≤ _; exact Nat.le_of_eq rfl) (hb hby at_123) (fun _ _ => ⟨rfl, e49, (by decide : 1 + 0 ≤ _), (by decide : 13 + 0 ≤ _)⟩)
  dsimp only [Pt.U, Pt.locs, Pt.cells, Pt.slots] at X54 l54 y54 z54 st54 hQ54
  subst l54 y54 z54
  obtain ⟨rfl, N54q, e54⟩ := hQ54
  have N54 := Fr.app N49 N54q
  obtain ⟨T55, X55, e55, st55⟩ := getS2 X54 hx hZ hown (host := "") (Or.inl (hw _ (List.mem_of_getElem? (i := 6) rfl))) Via.refl e54 (S_AND.ext E49) (g := (mkF m 130 #[.val (.int p1), .val (.int p2), .val (.int p3), .val (.int p4), .val (.ref b23), .val (.ref cc), .val (.int lf), .val (.int (dcv cc a_AND a_OR lf)), .unset, .unset] [(.ref cc)])) rfl (hb hby at_130)
  have pre56 : Lead p e below (T55.setTop (mkF m 133 #[.val (.int p1), .val (.int p2), .val (.int p3), .val (.int p4), .val (.ref b23), .val (.ref cc), .val (.int lf), .val (.int (dcv cc a_AND a_OR lf)), .unset, .unset] [(.ref a_AND), (.ref cc)])) (s₁.setTop (entryFrame m #[(.int p1), (.int p2), (.int p3), (.int p4)] maxLocals)) := fun t k => by
    refine preJ t ?_
    refine XS.aload X49.here hx rfl (hb hby at_119) rfl rfl ?_
    show Steps p.tables e below (T49.setTop (mkF m 121 #[.val (.int p1), .val (.int p2), .val (.int p3), .val (.int p4), .val (.ref b23), .val (.ref cc), .val (.int lf), .unset, .unset, .unset] [(.ref cc)])) _
    refine XS.iload X49.here hx rfl (hb hby at_121) rfl ?_
    show Steps p.tables e below (T49.setTop (mkF m 123 #[.val (.int p1), .val (.int p2), .val (.int p3), .val (.int p4), .val (.ref b23), .val (.ref cc), .val (.int lf), .unset, .unset, .unset] [(.int lf), (.ref cc)])) _
    refine st54.trans ?_
    show Steps p.tables e below (T54.setTop (mkF m 126 #[.val (.int p1), .val (.int p2), .val (.int p3), .val (.int p4), .val (.ref b23), .val (.ref cc), .val (.int lf), .unset, .unset, .unset] [(.int (dcv cc a_AND a_OR lf))])) _
    refine XS.istore X54.here hx rfl (hb hby at_126) rfl (l' := #[.val (.int p1), .val (.int p2), .val (.int p3), .val (.int p4), .val (.ref b23), .val (.ref cc), .val (.int lf), .val (.int (dcv cc a_AND a_OR lf)), .unset, .unset]) rfl ?_
    show Steps p.tables e below (T54.setTop (mkF m 128 #[.val (.int p1), .val (.int p2), .val (.int p3), .val (.int p4), .val (.ref b23), .val (.ref cc), .val (.int lf), .val (.int (dcv cc a_AND a_OR lf)), .unset, .unset] [])) _
    refine XS.aload X54.here hx rfl (hb hby at_128) rfl rfl ?_
    show Steps p.tables e below (T54.setTop (mkF m 130 #[.val (.int p1), .val (.int p2), .val (.int p3), .val (.int p4), .val (.ref b23), .val (.ref cc), .val (.int lf), .val (.int (dcv cc a_AND a_OR lf)), .unset, .unset] [(.ref cc)])) _
    refine st55 _ ?_
    show Steps p.tables e below (T55.setTop (mkF m 133 #[.val (.int p1), .val (.int p2), .val (.int p3), .val (.int p4), .val (.ref b23), .val (.ref cc), .val (.int lf), .val (.int (dcv cc a_AND a_OR lf)), .unset, .unset] [(.ref a_AND), (.ref cc)])) _
    exact k
  by_cases c1 : cc = a_AND
  · skip
    have pre57 : Lead p e below (T55.setTop (mkF m 157 #[.val (.int p1), .val (.int p2), .val (.int p3), .val (.int p4), .val (.ref b23), .val (.ref cc), .val (.int lf), .val (.int (dcv cc a_AND a_OR lf)), .unset, .unset] [(.int lf)])) (s₁.setTop (entryFrame m #[(.int p1), (.int p2), (.int p3), (.int p4)] maxLocals)) := fun t k => by
      refine pre56 t ?_
      refine Jvm.RoadKit.acmp (g := (mkF m 133 #[.val (.int p1), .val (.int p2), .val (.int p3), .val (.int p4), .val (.ref b23), .val (.ref cc), .val (.int lf), .val (.int (dcv cc a_AND a_OR lf)), .unset, .unset] [(.ref a_AND), (.ref cc)])) X55 hx rfl rfl rfl (pc0 := 133) (pc' := 155) (same := true) rfl (hb hby at_133) rfl (decide_eq_true (congrArg Value.ref c1)) (by decide) (by decide) ?_
      show Steps p.tables e below (T55.setTop (mkF m 155 #[.val (.int p1), .val (.int p2), .val (.int p3), .val (.int p4), .val (.ref b23), .val (.ref cc), .val (.int lf), .val (.int (dcv cc a_AND a_OR lf)), .unset, .unset] [])) _
      refine XS.iload X55.here hx rfl (hb hby at_155) rfl ?_
      show Steps p.tables e below (T55.setTop (mkF m 157 #[.val (.int p1), .val (.int p2), .val (.int p3), .val (.int p4), .val (.ref b23), .val (.ref cc), .val (.int lf), .val (.int (dcv cc a_AND a_OR lf)), .unset, .unset] [(.int lf)])) _
      exact k
    by_cases l0 : lf = (0 : Int32)
    · skip
      obtain ⟨cq58, kq58, q58a, q58b, q58c⟩ := isOf hZ e55 (EJ.ext E49)
      obtain ⟨_, _, ⟨T58, L58, k58, n58⟩, -, X58, ⟨Lc58, hQ58, l58, y58, z58⟩, st58⟩ := X55.virtualBack hx (y := (⟨"com/example/vertaler/vertaler/core/model/BinaryOperator", "apply", "(II)I"⟩ : MethodName)) (z := (⟨"com/example/vertaler/vertaler/core/model/BinaryOperator", "apply", "(II)I"⟩ : MethodName)) hown (mvT hZ (hw _ (List.mem_of_getElem? (i := 38) rfl))) (mvT hZ (hw _ (List.mem_of_getElem? (i := 39) rfl))) (notFace_of_selects (args := #[]) (mvT hZ (hw _ (List.mem_of_getElem? (i := 41) rfl)))) (mvT hZ (hw _ (List.mem_of_getElem? (i := 41) rfl))) (mvT hZ (hw _ (List.mem_of_getElem? (i := 40) rfl))) (by decide) (backOf (W := 0) (rm2a l Z a0 hw [] cc lf (p4 &&& (1 : Int32)) h49 n0 (Nat.le_trans Z0 E49.1) (EJ.ext E49) ((c1.symm ▸ F_AND).ext E49)) hZ (hw _ (List.mem_of_getElem? (i := 42) rfl)) (hw _ (List.mem_of_getElem? (i := 3) rfl)) (by decide) (by decide)) q58a q58c (g := (mkF m 188 #[.val (.int p1), .val (.int p2), .val (.int p3), .val (.int p4), .val (.ref b23), .val (.ref cc), .val (.int lf), .val (.int (dcv cc a_AND a_OR lf)), .val (.int (p4 &&& (1 : Int32))), .unset] [(.int (p4 &&& (1 : Int32))), (.int lf), (.ref cc)])) rfl (by rw [hml]; rfl) (Steps.refl _) (argsL := [(.int lf), (.int (p4 &&& (1 : Int32)))]) (rest := []) (lenOf pd_2 rfl) rfl (by show 2 * 0 + _ ≤ _; exact Nat.le_of_eq rfl) (hb hby at_188) (fun _ _ => ⟨rfl, e55, (by decide : 1 + 0 ≤ _), (by decide : 13 + 0 ≤ _)⟩)
      dsimp only [Pt.U, Pt.locs, Pt.cells, Pt.slots] at X58 l58 y58 z58 st58 hQ58
      subst l58 y58 z58
      obtain ⟨rfl, N58q, e58⟩ := hQ58
      have N58 := Fr.app N54 N58q
      have pre59 : Lead p e below (T58.setTop (mkF m 225 #[.val (.int p1), .val (.int p2), .val (.int p3), .val (.int p4), .val (.ref b23), .val (.ref cc), .val (.int lf), .val (.int (dcv cc a_AND a_OR lf)), .val (.int (p4 &&& (1 : Int32))), .val (.int (lf &&& (p4 &&& (1 : Int32))))] [(.int (1 : Int32))])) (s₁.setTop (entryFrame m #[(.int p1), (.int p2), (.int p3), (.int p4)] maxLocals)) := fun t k => by
        refine pre57 t ?_
        refine XS.ifYes X55.here hx rfl (pc0 := 157) (pc' := 177) rfl (hb hby at_157) rfl ((if0 _ _).trans (teq l0).1) (by decide) (by decide) ?_
        show Steps p.tables e below (T55.setTop (mkF m 177 #[.val (.int p1), .val (.int p2), .val (.int p3), .val (.int p4), .val (.ref b23), .val (.ref cc), .val (.int lf), .val (.int (dcv cc a_AND a_OR lf)), .unset, .unset] [])) _
        refine XS.iloadN X55.here hx rfl (hb hby at_177) rfl ?_
        show Steps p.tables e below (T55.setTop (mkF m 178 #[.val (.int p1), .val (.int p2), .val (.int p3), .val (.int p4), .val (.ref b23), .val (.ref cc), .val (.int lf), .val (.int (dcv cc a_AND a_OR lf)), .unset, .unset] [(.int p4)])) _
        refine XS.iconst X55.here hx rfl (hb hby at_178) ?_
        show Steps p.tables e below (T55.setTop (mkF m 179 #[.val (.int p1), .val (.int p2), .val (.int p3), .val (.int p4), .val (.ref b23), .val (.ref cc), .val (.int lf), .val (.int (dcv cc a_AND a_OR lf)), .unset, .unset] [(.int (1 : Int32)), (.int p4)])) _
        refine XS.iand X55.here hx rfl (hb hby at_179) rfl ?_
        show Steps p.tables e below (T55.setTop (mkF m 180 #[.val (.int p1), .val (.int p2), .val (.int p3), .val (.int p4), .val (.ref b23), .val (.ref cc), .val (.int lf), .val (.int (dcv cc a_AND a_OR lf)), .unset, .unset] [(.int (p4 &&& (1 : Int32)))])) _
        refine XS.istore X55.here hx rfl (hb hby at_180) rfl (l' := #[.val (.int p1), .val (.int p2), .val (.int p3), .val (.int p4), .val (.ref b23), .val (.ref cc), .val (.int lf), .val (.int (dcv cc a_AND a_OR lf)), .val (.int (p4 &&& (1 : Int32))), .unset]) rfl ?_
        show Steps p.tables e below (T55.setTop (mkF m 182 #[.val (.int p1), .val (.int p2), .val (.int p3), .val (.int p4), .val (.ref b23), .val (.ref cc), .val (.int lf), .val (.int (dcv cc a_AND a_OR lf)), .val (.int (p4 &&& (1 : Int32))), .unset] [])) _
        refine XS.aload X55.here hx rfl (hb hby at_182) rfl rfl ?_
        show Steps p.tables e below (T55.setTop (mkF m 184 #[.val (.int p1), .val (.int p2), .val (.int p3), .val (.int p4), .val (.ref b23), .val (.ref cc), .val (.int lf), .val (.int (dcv cc a_AND a_OR lf)), .val (.int (p4 &&& (1 : Int32))), .unset] [(.ref cc)])) _
        refine XS.iload X55.here hx rfl (hb hby at_184) rfl ?_
        show Steps p.tables e below (T55.setTop (mkF m 186 #[.val (.int p1), .val (.int p2), .val (.int p3), .val (.int p4), .val (.ref b23), .val (.ref cc), .val (.int lf), .val (.int (dcv cc a_AND a_OR lf)), .val (.int (p4 &&& (1 : Int32))), .unset] [(.int lf), (.ref cc)])) _
        refine XS.iload X55.here hx rfl (hb hby at_186) rfl ?_
        show Steps p.tables e below (T55.setTop (mkF m 188 #[.val (.int p1), .val (.int p2), .val (.int p3), .val (.int p4), .val (.ref b23), .val (.ref cc), .val (.int lf), .val (.int (dcv cc a_AND a_OR lf)), .val (.int (p4 &&& (1 : Int32))), .unset] [(.int (p4 &&& (1 : Int32))), (.int lf), (.ref cc)])) _
        refine st58.trans ?_
        show Steps p.tables e below (T58.setTop (mkF m 191 #[.val (.int p1), .val (.int p2), .val (.int p3), .val (.int p4), .val (.ref b23), .val (.ref cc), .val (.int lf), .val (.int (dcv cc a_AND a_OR lf)), .val (.int (p4 &&& (1 : Int32))), .unset] [(.int (lf &&& (p4 &&& (1 : Int32))))])) _
        refine XS.istore X58.here hx rfl (hb hby at_191) rfl (l' := #[.val (.int p1), .val (.int p2), .val (.int p3), .val (.int p4), .val (.ref b23), .val (.ref cc), .val (.int lf), .val (.int (dcv cc a_AND a_OR lf)), .val (.int (p4 &&& (1 : Int32))), .val (.int (lf &&& (p4 &&& (1 : Int32))))]) rfl ?_
        show Steps p.tables e below (T58.setTop (mkF m 193 #[.val (.int p1), .val (.int p2), .val (.int p3), .val (.int p4), .val (.ref b23), .val (.ref cc), .val (.int lf), .val (.int (dcv cc a_AND a_OR lf)), .val (.int (p4 &&& (1 : Int32))), .val (.int (lf &&& (p4 &&& (1 : Int32))))] [])) _
        refine XS.iload X58.here hx rfl (hb hby at_193) rfl ?_
        show Steps p.tables e below (T58.setTop (mkF m 195 #[.val (.int p1), .val (.int p2), .val (.int p3), .val (.int p4), .val (.ref b23), .val (.ref cc), .val (.int lf), .val (.int (dcv cc a_AND a_OR lf)), .val (.int (p4 &&& (1 : Int32))), .val (.int (lf &&& (p4 &&& (1 : Int32))))] [(.int (dcv cc a_AND a_OR lf))])) _
        refine XS.ifNo X58.here hx rfl (hb hby at_195) rfl ((if0 _ _).trans (feq (show ¬ (dcv cc a_AND a_OR lf) = (0 : Int32) from by rw [dcv, if_pos ⟨c1, l0⟩]; decide)).1) ?_
        show Steps p.tables e below (T58.setTop (mkF m 198 #[.val (.int p1), .val (.int p2), .val (.int p3), .val (.int p4), .val (.ref b23), .val (.ref cc), .val (.int lf), .val (.int (dcv cc a_AND a_OR lf)), .val (.int (p4 &&& (1 : Int32))), .val (.int (lf &&& (p4 &&& (1 : Int32))))] [])) _
        refine XS.iload X58.here hx rfl (hb hby at_198) rfl ?_
        show Steps p.tables e below (T58.setTop (mkF m 200 #[.val (.int p1), .val (.int p2), .val (.int p3), .val (.int p4), .val (.ref b23), .val (.ref cc), .val (.int lf), .val (.int (dcv cc a_AND a_OR lf)), .val (.int (p4 &&& (1 : Int32))), .val (.int (lf &&& (p4 &&& (1 : Int32))))] [(.int (lf &&& (p4 &&& (1 : Int32))))])) _
        refine XS.iload X58.here hx rfl (hb hby at_200) rfl ?_
        show Steps p.tables e below (T58.setTop (mkF m 202 #[.val (.int p1), .val (.int p2), .val (.int p3), .val (.int p4), .val (.ref b23), .val (.ref cc), .val (.int lf), .val (.int (dcv cc a_AND a_OR lf)), .val (.int (p4 &&& (1 : Int32))), .val (.int (lf &&& (p4 &&& (1 : Int32))))] [(.int lf), (.int (lf &&& (p4 &&& (1 : Int32))))])) _
        refine XS.icmpNo X58.here hx rfl (hb hby at_202) rfl (teq (show (lf &&& (p4 &&& (1 : Int32))) = lf from own_AND0 l0 p4)).2 ?_
        show Steps p.tables e below (T58.setTop (mkF m 205 #[.val (.int p1), .val (.int p2), .val (.int p3), .val (.int p4), .val (.ref b23), .val (.ref cc), .val (.int lf), .val (.int (dcv cc a_AND a_OR lf)), .val (.int (p4 &&& (1 : Int32))), .val (.int (lf &&& (p4 &&& (1 : Int32))))] [])) _
        refine XS.iconst X58.here hx rfl (hb hby at_205) ?_
        show Steps p.tables e below (T58.setTop (mkF m 206 #[.val (.int p1), .val (.int p2), .val (.int p3), .val (.int p4), .val (.ref b23), .val (.ref cc), .val (.int lf), .val (.int (dcv cc a_AND a_OR lf)), .val (.int (p4 &&& (1 : Int32))), .val (.int (lf &&& (p4 &&& (1 : Int32))))] [(.int (1 : Int32))])) _
        refine XS.goto X58.here hx rfl (pc0 := 206) (pc' := 225) rfl (hb hby at_206) (by decide) (by decide) ?_
        show Steps p.tables e below (T58.setTop (mkF m 225 #[.val (.int p1), .val (.int p2), .val (.int p3), .val (.int p4), .val (.ref b23), .val (.ref cc), .val (.int lf), .val (.int (dcv cc a_AND a_OR lf)), .val (.int (p4 &&& (1 : Int32))), .val (.int (lf &&& (p4 &&& (1 : Int32))))] [(.int (1 : Int32))])) _
        exact k
      obtain ⟨fs, hr, hrun, hended, hW, hsame⟩ := X58.leave (v := some (.int (1 : Int32))) (fun h => by rw [Bd.returns] at h; cases h)
      refine ⟨_, _, pre59 _ ?_, hrun, hended, _, _, rfl, ?_, ⟨_, rfl⟩, hW, hsame.mono (by decide) (by decide)⟩
      · exact retN X58 hx (t := .boolean) Bd.returns (by simp) (hb hby at_225) hr
      · show Q0 Z p1 p2 p3 p4 h0 n0 _ T58.heap _
        rw [e58]
        exact ⟨rfl, N58⟩
    · skip
      have pre60 : Lead p e below (T55.setTop (mkF m 163 #[.val (.int p1), .val (.int p2), .val (.int p3), .val (.int p4), .val (.ref b23), .val (.ref cc), .val (.int lf), .val (.int (dcv cc a_AND a_OR lf)), .unset, .unset] [(.int (1 : Int32)), (.int lf)])) (s₁.setTop (entryFrame m #[(.int p1), (.int p2), (.int p3), (.int p4)] maxLocals)) := fun t k => by
        refine pre57 t ?_
        refine XS.ifNo X55.here hx rfl (hb hby at_157) rfl ((if0 _ _).trans (feq l0).1) ?_
        show Steps p.tables e below (T55.setTop (mkF m 160 #[.val (.int p1), .val (.int p2), .val (.int p3), .val (.int p4), .val (.ref b23), .val (.ref cc), .val (.int lf), .val (.int (dcv cc a_AND a_OR lf)), .unset, .unset] [])) _
        refine XS.iload X55.here hx rfl (hb hby at_160) rfl ?_
        show Steps p.tables e below (T55.setTop (mkF m 162 #[.val (.int p1), .val (.int p2), .val (.int p3), .val (.int p4), .val (.ref b23), .val (.ref cc), .val (.int lf), .val (.int (dcv cc a_AND a_OR lf)), .unset, .unset] [(.int lf)])) _
        refine XS.iconst X55.here hx rfl (hb hby at_162) ?_
        show Steps p.tables e below (T55.setTop (mkF m 163 #[.val (.int p1), .val (.int p2), .val (.int p3), .val (.int p4), .val (.ref b23), .val (.ref cc), .val (.int lf), .val (.int (dcv cc a_AND a_OR lf)), .unset, .unset] [(.int (1 : Int32)), (.int lf)])) _
        exact k
      by_cases l1 : lf = (1 : Int32)
      · skip
        obtain ⟨cq61, kq61, q61a, q61b, q61c⟩ := isOf hZ e55 (EJ.ext E49)
        obtain ⟨_, _, ⟨T61, L61, k61, n61⟩, -, X61, ⟨Lc61, hQ61, l61, y61, z61⟩, st61⟩ := X55.virtualBack hx (y := (⟨"com/example/vertaler/vertaler/core/model/BinaryOperator", "apply", "(II)I"⟩ : MethodName)) (z := (⟨"com/example/vertaler/vertaler/core/model/BinaryOperator", "apply", "(II)I"⟩ : MethodName)) hown (mvT hZ (hw _ (List.mem_of_getElem? (i := 38) rfl))) (mvT hZ (hw _ (List.mem_of_getElem? (i := 39) rfl))) (notFace_of_selects (args := #[]) (mvT hZ (hw _ (List.mem_of_getElem? (i := 41) rfl)))) (mvT hZ (hw _ (List.mem_of_getElem? (i := 41) rfl))) (mvT hZ (hw _ (List.mem_of_getElem? (i := 40) rfl))) (by decide) (backOf (W := 0) (rm2a l Z a0 hw [] cc lf (p4 &&& (1 : Int32)) h49 n0 (Nat.le_trans Z0 E49.1) (EJ.ext E49) ((c1.symm ▸ F_AND).ext E49)) hZ (hw _ (List.mem_of_getElem? (i := 42) rfl)) (hw _ (List.mem_of_getElem? (i := 3) rfl)) (by decide) (by decide)) q61a q61c (g := (mkF m 188 #[.val (.int p1), .val (.int p2), .val (.int p3), .val (.int p4), .val (.ref b23), .val (.ref cc), .val (.int lf), .val (.int (dcv cc a_AND a_OR lf)), .val (.int (p4 &&& (1 : Int32))), .unset] [(.int (p4 &&& (1 : Int32))), (.int lf), (.ref cc)])) rfl (by rw [hml]; rfl) (Steps.refl _) (argsL := [(.int lf), (.int (p4 &&& (1 : Int32)))]) (rest := []) (lenOf pd_2 rfl) rfl (by show 2 * 0 + _ ≤ _; exact Nat.le_of_eq rfl) (hb hby at_188) (fun _ _ => ⟨rfl, e55, (by decide : 1 + 0 ≤ _), (by decide : 13 + 0 ≤ _)⟩)
        dsimp only [Pt.U, Pt.locs, Pt.cells, Pt.slots] at X61 l61 y61 z61 st61 hQ61
        subst l61 y61 z61
        obtain ⟨rfl, N61q, e61⟩ := hQ61
        have N61 := Fr.app N54 N61q
        have pre62 : Lead p e below (T61.setTop (mkF m 225 #[.val (.int p1), .val (.int p2), .val (.int p3), .val (.int p4), .val (.ref b23), .val (.ref cc), .val (.int lf), .val (.int (dcv cc a_AND a_OR lf)), .val (.int (p4 &&& (1 : Int32))), .val (.int (lf &&& (p4 &&& (1 : Int32))))] [(.int (1 : Int32))])) (s₁.setTop (entryFrame m #[(.int p1), (.int p2), (.int p3), (.int p4)] maxLocals)) := fun t k => by
          refine pre60 t ?_
          refine XS.icmpYes X55.here hx rfl (pc0 := 163) (pc' := 177) rfl (hb hby at_163) rfl (teq l1).1 (by decide) (by decide) ?_
          show Steps p.tables e below (T55.setTop (mkF m 177 #[.val (.int p1), .val (.int p2), .val (.int p3), .val (.int p4), .val (.ref b23), .val (.ref cc), .val (.int lf), .val (.int (dcv cc a_AND a_OR lf)), .unset, .unset] [])) _
          refine XS.iloadN X55.here hx rfl (hb hby at_177) rfl ?_
          show Steps p.tables e below (T55.setTop (mkF m 178 #[.val (.int p1), .val (.int p2), .val (.int p3), .val (.int p4), .val (.ref b23), .val (.ref cc), .val (.int lf), .val (.int (dcv cc a_AND a_OR lf)), .unset, .unset] [(.int p4)])) _
          refine XS.iconst X55.here hx rfl (hb hby at_178) ?_
          show Steps p.tables e below (T55.setTop (mkF m 179 #[.val (.int p1), .val (.int p2), .val (.int p3), .val (.int p4), .val (.ref b23), .val (.ref cc), .val (.int lf), .val (.int (dcv cc a_AND a_OR lf)), .unset, .unset] [(.int (1 : Int32)), (.int p4)])) _
          refine XS.iand X55.here hx rfl (hb hby at_179) rfl ?_
          show Steps p.tables e below (T55.setTop (mkF m 180 #[.val (.int p1), .val (.int p2), .val (.int p3), .val (.int p4), .val (.ref b23), .val (.ref cc), .val (.int lf), .val (.int (dcv cc a_AND a_OR lf)), .unset, .unset] [(.int (p4 &&& (1 : Int32)))])) _
          refine XS.istore X55.here hx rfl (hb hby at_180) rfl (l' := #[.val (.int p1), .val (.int p2), .val (.int p3), .val (.int p4), .val (.ref b23), .val (.ref cc), .val (.int lf), .val (.int (dcv cc a_AND a_OR lf)), .val (.int (p4 &&& (1 : Int32))), .unset]) rfl ?_
          show Steps p.tables e below (T55.setTop (mkF m 182 #[.val (.int p1), .val (.int p2), .val (.int p3), .val (.int p4), .val (.ref b23), .val (.ref cc), .val (.int lf), .val (.int (dcv cc a_AND a_OR lf)), .val (.int (p4 &&& (1 : Int32))), .unset] [])) _
          refine XS.aload X55.here hx rfl (hb hby at_182) rfl rfl ?_
          show Steps p.tables e below (T55.setTop (mkF m 184 #[.val (.int p1), .val (.int p2), .val (.int p3), .val (.int p4), .val (.ref b23), .val (.ref cc), .val (.int lf), .val (.int (dcv cc a_AND a_OR lf)), .val (.int (p4 &&& (1 : Int32))), .unset] [(.ref cc)])) _
          refine XS.iload X55.here hx rfl (hb hby at_184) rfl ?_
          show Steps p.tables e below (T55.setTop (mkF m 186 #[.val (.int p1), .val (.int p2), .val (.int p3), .val (.int p4), .val (.ref b23), .val (.ref cc), .val (.int lf), .val (.int (dcv cc a_AND a_OR lf)), .val (.int (p4 &&& (1 : Int32))), .unset] [(.int lf), (.ref cc)])) _
          refine XS.iload X55.here hx rfl (hb hby at_186) rfl ?_
          show Steps p.tables e below (T55.setTop (mkF m 188 #[.val (.int p1), .val (.int p2), .val (.int p3), .val (.int p4), .val (.ref b23), .val (.ref cc), .val (.int lf), .val (.int (dcv cc a_AND a_OR lf)), .val (.int (p4 &&& (1 : Int32))), .unset] [(.int (p4 &&& (1 : Int32))), (.int lf), (.ref cc)])) _
          refine st61.trans ?_
          show Steps p.tables e below (T61.setTop (mkF m 191 #[.val (.int p1), .val (.int p2), .val (.int p3), .val (.int p4), .val (.ref b23), .val (.ref cc), .val (.int lf), .val (.int (dcv cc a_AND a_OR lf)), .val (.int (p4 &&& (1 : Int32))), .unset] [(.int (lf &&& (p4 &&& (1 : Int32))))])) _
          refine XS.istore X61.here hx rfl (hb hby at_191) rfl (l' := #[.val (.int p1), .val (.int p2), .val (.int p3), .val (.int p4), .val (.ref b23), .val (.ref cc), .val (.int lf), .val (.int (dcv cc a_AND a_OR lf)), .val (.int (p4 &&& (1 : Int32))), .val (.int (lf &&& (p4 &&& (1 : Int32))))]) rfl ?_
          show Steps p.tables e below (T61.setTop (mkF m 193 #[.val (.int p1), .val (.int p2), .val (.int p3), .val (.int p4), .val (.ref b23), .val (.ref cc), .val (.int lf), .val (.int (dcv cc a_AND a_OR lf)), .val (.int (p4 &&& (1 : Int32))), .val (.int (lf &&& (p4 &&& (1 : Int32))))] [])) _
          refine XS.iload X61.here hx rfl (hb hby at_193) rfl ?_
          show Steps p.tables e below (T61.setTop (mkF m 195 #[.val (.int p1), .val (.int p2), .val (.int p3), .val (.int p4), .val (.ref b23), .val (.ref cc), .val (.int lf), .val (.int (dcv cc a_AND a_OR lf)), .val (.int (p4 &&& (1 : Int32))), .val (.int (lf &&& (p4 &&& (1 : Int32))))] [(.int (dcv cc a_AND a_OR lf))])) _
          refine XS.ifYes X61.here hx rfl (pc0 := 195) (pc' := 213) rfl (hb hby at_195) rfl ((if0 _ _).trans (teq (show (dcv cc a_AND a_OR lf) = (0 : Int32) from by rw [dcv, if_neg (fun q => absurd (l1.symm.trans q.2) (by decide)), if_neg (fun q => ne_AO (c1.symm.trans q.1))])).1) (by decide) (by decide) ?_
          show Steps p.tables e below (T61.setTop (mkF m 213 #[.val (.int p1), .val (.int p2), .val (.int p3), .val (.int p4), .val (.ref b23), .val (.ref cc), .val (.int lf), .val (.int (dcv cc a_AND a_OR lf)), .val (.int (p4 &&& (1 : Int32))), .val (.int (lf &&& (p4 &&& (1 : Int32))))] [])) _
          refine XS.iload X61.here hx rfl (hb hby at_213) rfl ?_
          show Steps p.tables e below (T61.setTop (mkF m 215 #[.val (.int p1), .val (.int p2), .val (.int p3), .val (.int p4), .val (.ref b23), .val (.ref cc), .val (.int lf), .val (.int (dcv cc a_AND a_OR lf)), .val (.int (p4 &&& (1 : Int32))), .val (.int (lf &&& (p4 &&& (1 : Int32))))] [(.int (lf &&& (p4 &&& (1 : Int32))))])) _
          refine XS.iload X61.here hx rfl (hb hby at_215) rfl ?_
          show Steps p.tables e below (T61.setTop (mkF m 217 #[.val (.int p1), .val (.int p2), .val (.int p3), .val (.int p4), .val (.ref b23), .val (.ref cc), .val (.int lf), .val (.int (dcv cc a_AND a_OR lf)), .val (.int (p4 &&& (1 : Int32))), .val (.int (lf &&& (p4 &&& (1 : Int32))))] [(.int (p4 &&& (1 : Int32))), (.int (lf &&& (p4 &&& (1 : Int32))))])) _
          refine XS.icmpNo X61.here hx rfl (hb hby at_217) rfl (teq (show (lf &&& (p4 &&& (1 : Int32))) = (p4 &&& (1 : Int32)) from own_AND1 l1 p4)).2 ?_
          show Steps p.tables e below (T61.setTop (mkF m 220 #[.val (.int p1), .val (.int p2), .val (.int p3), .val (.int p4), .val (.ref b23), .val (.ref cc), .val (.int lf), .val (.int (dcv cc a_AND a_OR lf)), .val (.int (p4 &&& (1 : Int32))), .val (.int (lf &&& (p4 &&& (1 : Int32))))] [])) _
          refine XS.iconst X61.here hx rfl (hb hby at_220) ?_
          show Steps p.tables e below (T61.setTop (mkF m 221 #[.val (.int p1), .val (.int p2), .val (.int p3), .val (.int p4), .val (.ref b23), .val (.ref cc), .val (.int lf), .val (.int (dcv cc a_AND a_OR lf)), .val (.int (p4 &&& (1 : Int32))), .val (.int (lf &&& (p4 &&& (1 : Int32))))] [(.int (1 : Int32))])) _
          refine XS.goto X61.here hx rfl (pc0 := 221) (pc' := 225) rfl (hb hby at_221) (by decide) (by decide) ?_
          show Steps p.tables e below (T61.setTop (mkF m 225 #[.val (.int p1), .val (.int p2), .val (.int p3), .val (.int p4), .val (.ref b23), .val (.ref cc), .val (.int lf), .val (.int (dcv cc a_AND a_OR lf)), .val (.int (p4 &&& (1 : Int32))), .val (.int (lf &&& (p4 &&& (1 : Int32))))] [(.int (1 : Int32))])) _
          exact k
        obtain ⟨fs, hr, hrun, hended, hW, hsame⟩ := X61.leave (v := some (.int (1 : Int32))) (fun h => by rw [Bd.returns] at h; cases h)
        refine ⟨_, _, pre62 _ ?_, hrun, hended, _, _, rfl, ?_, ⟨_, rfl⟩, hW, hsame.mono (by decide) (by decide)⟩
        · exact retN X61 hx (t := .boolean) Bd.returns (by simp) (hb hby at_225) hr
        · show Q0 Z p1 p2 p3 p4 h0 n0 _ T61.heap _
          rw [e61]
          exact ⟨rfl, N61⟩
      · skip
        have pre63 : Lead p e below (T55.setTop (mkF m 176 #[.val (.int p1), .val (.int p2), .val (.int p3), .val (.int p4), .val (.ref b23), .val (.ref cc), .val (.int lf), .val (.int (dcv cc a_AND a_OR lf)), .unset, .unset] [(.int (1 : Int32))])) (s₁.setTop (entryFrame m #[(.int p1), (.int p2), (.int p3), (.int p4)] maxLocals)) := fun t k => by
          refine pre60 t ?_
          refine XS.icmpNo X55.here hx rfl (hb hby at_163) rfl (feq l1).1 ?_
          show Steps p.tables e below (T55.setTop (mkF m 166 #[.val (.int p1), .val (.int p2), .val (.int p3), .val (.int p4), .val (.ref b23), .val (.ref cc), .val (.int lf), .val (.int (dcv cc a_AND a_OR lf)), .unset, .unset] [])) _
          refine XS.iload X55.here hx rfl (hb hby at_166) rfl ?_
          show Steps p.tables e below (T55.setTop (mkF m 168 #[.val (.int p1), .val (.int p2), .val (.int p3), .val (.int p4), .val (.ref b23), .val (.ref cc), .val (.int lf), .val (.int (dcv cc a_AND a_OR lf)), .unset, .unset] [(.int (dcv cc a_AND a_OR lf))])) _
          refine XS.ifNo X55.here hx rfl (hb hby at_168) rfl ((if0 _ _).trans (teq (show (dcv cc a_AND a_OR lf) = (0 : Int32) from by rw [dcv, if_neg (fun q => l0 q.2), if_neg (fun q => l1 q.2)])).2) ?_
          show Steps p.tables e below (T55.setTop (mkF m 171 #[.val (.int p1), .val (.int p2), .val (.int p3), .val (.int p4), .val (.ref b23), .val (.ref cc), .val (.int lf), .val (.int (dcv cc a_AND a_OR lf)), .unset, .unset] [])) _
          refine XS.iconst X55.here hx rfl (hb hby at_171) ?_
          show Steps p.tables e below (T55.setTop (mkF m 172 #[.val (.int p1), .val (.int p2), .val (.int p3), .val (.int p4), .val (.ref b23), .val (.ref cc), .val (.int lf), .val (.int (dcv cc a_AND a_OR lf)), .unset, .unset] [(.int (1 : Int32))])) _
          refine XS.goto X55.here hx rfl (pc0 := 172) (pc' := 176) rfl (hb hby at_172) (by decide) (by decide) ?_
          show Steps p.tables e below (T55.setTop (mkF m 176 #[.val (.int p1), .val (.int p2), .val (.int p3), .val (.int p4), .val (.ref b23), .val (.ref cc), .val (.int lf), .val (.int (dcv cc a_AND a_OR lf)), .unset, .unset] [(.int (1 : Int32))])) _
          exact k
        obtain ⟨fs, hr, hrun, hended, hW, hsame⟩ := X55.leave (v := some (.int (1 : Int32))) (fun h => by rw [Bd.returns] at h; cases h)
        refine ⟨_, _, pre63 _ ?_, hrun, hended, _, _, rfl, ?_, ⟨_, rfl⟩, hW, hsame.mono (by decide) (by decide)⟩
        · exact retN X55 hx (t := .boolean) Bd.returns (by simp) (hb hby at_176) hr
        · show Q0 Z p1 p2 p3 p4 h0 n0 _ T55.heap _
          rw [e55]
          exact ⟨rfl, N54⟩
  · skip
    obtain ⟨T64, X64, e64, st64⟩ := getS2 X55 hx hZ hown (host := "") (Or.inl (hw _ (List.mem_of_getElem? (i := 2) rfl))) Via.refl e55 (S_OR.ext E49) (g := (mkF m 138 #[.val (.int p1), .val (.int p2), .val (.int p3), .val (.int p4), .val (.ref b23), .val (.ref cc), .val (.int lf), .val (.int (dcv cc a_AND a_OR lf)), .unset, .unset] [(.ref cc)])) rfl (hb hby at_138)
    have pre65 : Lead p e below (T64.setTop (mkF m 141 #[.val (.int p1), .val (.int p2), .val (.int p3), .val (.int p4), .val (.ref b23), .val (.ref cc), .val (.int lf), .val (.int (dcv cc a_AND a_OR lf)), .unset, .unset] [(.ref a_OR), (.ref cc)])) (s₁.setTop (entryFrame m #[(.int p1), (.int p2), (.int p3), (.int p4)] maxLocals)) := fun t k => by
      refine pre56 t ?_
      refine Jvm.RoadKit.acmp (g := (mkF m 133 #[.val (.int p1), .val (.int p2), .val (.int p3), .val (.int p4), .val (.ref b23), .val (.ref cc), .val (.int lf), .val (.int (dcv cc a_AND a_OR lf)), .unset, .unset] [(.ref a_AND), (.ref cc)])) X55 hx rfl rfl rfl (pc0 := 133) (pc' := 136) (same := false) rfl (hb hby at_133) rfl (decide_eq_false fun q => c1 (Value.ref.inj q)) (by decide) (by decide) ?_
      show Steps p.tables e below (T55.setTop (mkF m 136 #[.val (.int p1), .val (.int p2), .val (.int p3), .val (.int p4), .val (.ref b23), .val (.ref cc), .val (.int lf), .val (.int (dcv cc a_AND a_OR lf)), .unset, .unset] [])) _
      refine XS.aload X55.here hx rfl (hb hby at_136) rfl rfl ?_
      show Steps p.tables e below (T55.setTop (mkF m 138 #[.val (.int p1), .val (.int p2), .val (.int p3), .val (.int p4), .val (.ref b23), .val (.ref cc), .val (.int lf), .val (.int (dcv cc a_AND a_OR lf)), .unset, .unset] [(.ref cc)])) _
      refine st64 _ ?_
      show Steps p.tables e below (T64.setTop (mkF m 141 #[.val (.int p1), .val (.int p2), .val (.int p3), .val (.int p4), .val (.ref b23), .val (.ref cc), .val (.int lf), .val (.int (dcv cc a_AND a_OR lf)), .unset, .unset] [(.ref a_OR), (.ref cc)])) _
      exact k
    by_cases c2 : cc = a_OR
    · skip
      have pre66 : Lead p e below (T64.setTop (mkF m 157 #[.val (.int p1), .val (.int p2), .val (.int p3), .val (.int p4), .val (.ref b23), .val (.ref cc), .val (.int lf), .val (.int (dcv cc a_AND a_OR lf)), .unset, .unset] [(.int lf)])) (s₁.setTop (entryFrame m #[(.int p1), (.int p2), (.int p3), (.int p4)] maxLocals)) := fun t k => by
        refine pre65 t ?_
        refine Jvm.RoadKit.acmp (g := (mkF m 141 #[.val (.int p1), .val (.int p2), .val (.int p3), .val (.int p4), .val (.ref b23), .val (.ref cc), .val (.int lf), .val (.int (dcv cc a_AND a_OR lf)), .unset, .unset] [(.ref a_OR), (.ref cc)])) X64 hx rfl rfl rfl (pc0 := 141) (pc' := 155) (same := true) rfl (hb hby at_141) rfl (decide_eq_true (congrArg Value.ref c2)) (by decide) (by decide) ?_
        show Steps p.tables e below (T64.setTop (mkF m 155 #[.val (.int p1), .val (.int p2), .val (.int p3), .val (.int p4), .val (.ref b23), .val (.ref cc), .val (.int lf), .val (.int (dcv cc a_AND a_OR lf)), .unset, .unset] [])) _
        refine XS.iload X64.here hx rfl (hb hby at_155) rfl ?_
        show Steps p.tables e below (T64.setTop (mkF m 157 #[.val (.int p1), .val (.int p2), .val (.int p3), .val (.int p4), .val (.ref b23), .val (.ref cc), .val (.int lf), .val (.int (dcv cc a_AND a_OR lf)), .unset, .unset] [(.int lf)])) _
        exact k
      by_cases l0 : lf = (0 : Int32)
      · skip
        obtain ⟨cq67, kq67, q67a, q67b, q67c⟩ := isOf hZ e64 (EJ.ext E49)
        obtain ⟨_, _, ⟨T67, L67, k67, n67⟩, -, X67, ⟨Lc67, hQ67, l67, y67, z67⟩, st67⟩ := X64.virtualBack hx (y := (⟨"com/example/vertaler/vertaler/core/model/BinaryOperator", "apply", "(II)I"⟩ : MethodName)) (z := (⟨"com/example/vertaler/vertaler/core/model/BinaryOperator", "apply", "(II)I"⟩ : MethodName)) hown (mvT hZ (hw _ (List.mem_of_getElem? (i := 38) rfl))) (mvT hZ (hw _ (List.mem_of_getElem? (i := 39) rfl))) (notFace_of_selects (args := #[]) (mvT hZ (hw _ (List.mem_of_getElem? (i := 41) rfl)))) (mvT hZ (hw _ (List.mem_of_getElem? (i := 41) rfl))) (mvT hZ (hw _ (List.mem_of_getElem? (i := 40) rfl))) (by decide) (backOf (W := 0) (rm2o l Z a0 hw [] cc lf (p4 &&& (1 : Int32)) h49 n0 (Nat.le_trans Z0 E49.1) (EJ.ext E49) ((c2.symm ▸ F_OR).ext E49)) hZ (hw _ (List.mem_of_getElem? (i := 42) rfl)) (hw _ (List.mem_of_getElem? (i := 3) rfl)) (by decide) (by decide)) q67a q67c (g := (mkF m 188 #[.val (.int p1), .val (.int p2), .val (.int p3), .val (.int p4), .val (.ref b23), .val (.ref cc), .val (.int lf), .val (.int (dcv cc a_AND a_OR lf)), .val (.int (p4 &&& (1 : Int32))), .unset] [(.int (p4 &&& (1 : Int32))), (.int lf), (.ref cc)])) rfl (by rw [hml]; rfl) (Steps.refl _) (argsL := [(.int lf), (.int (p4 &&& (1 : Int32)))]) (rest := []) (lenOf pd_2 rfl) rfl (by show 2 * 0 + _ ≤ _; exact Nat.le_of_eq rfl) (hb hby at_188) (fun _ _ => ⟨rfl, e64, (by decide : 1 + 0 ≤ _), (by decide : 13 + 0 ≤ _)⟩)
        dsimp only [Pt.U, Pt.locs, Pt.cells, Pt.slots] at X67 l67 y67 z67 st67 hQ67
        subst l67 y67 z67
        obtain ⟨rfl, N67q, e67⟩ := hQ67
        have N67 := Fr.app N54 N67q
        have pre68 : Lead p e below (T67.setTop (mkF m 225 #[.val (.int p1), .val (.int p2), .val (.int p3), .val (.int p4), .val (.ref b23), .val (.ref cc), .val (.int lf), .val (.int (dcv cc a_AND a_OR lf)), .val (.int (p4 &&& (1 : Int32))), .val (.int (lf ||| (p4 &&& (1 : Int32))))] [(.int (1 : Int32))])) (s₁.setTop (entryFrame m #[(.int p1), (.int p2), (.int p3), (.int p4)] maxLocals)) := fun t k => by
          refine pre66 t ?_
          refine XS.ifYes X64.here hx rfl (pc0 := 157) (pc' := 177) rfl (hb hby at_157) rfl ((if0 _ _).trans (teq l0).1) (by decide) (by decide) ?_
          show Steps p.tables e below (T64.setTop (mkF m 177 #[.val (.int p1), .val (.int p2), .val (.int p3), .val (.int p4), .val (.ref b23), .val (.ref cc), .val (.int lf), .val (.int (dcv cc a_AND a_OR lf)), .unset, .unset] [])) _
          refine XS.iloadN X64.here hx rfl (hb hby at_177) rfl ?_
          show Steps p.tables e below (T64.setTop (mkF m 178 #[.val (.int p1), .val (.int p2), .val (.int p3), .val (.int p4), .val (.ref b23), .val (.ref cc), .val (.int lf), .val (.int (dcv cc a_AND a_OR lf)), .unset, .unset] [(.int p4)])) _
          refine XS.iconst X64.here hx rfl (hb hby at_178) ?_
          show Steps p.tables e below (T64.setTop (mkF m 179 #[.val (.int p1), .val (.int p2), .val (.int p3), .val (.int p4), .val (.ref b23), .val (.ref cc), .val (.int lf), .val (.int (dcv cc a_AND a_OR lf)), .unset, .unset] [(.int (1 : Int32)), (.int p4)])) _
          refine XS.iand X64.here hx rfl (hb hby at_179) rfl ?_
          show Steps p.tables e below (T64.setTop (mkF m 180 #[.val (.int p1), .val (.int p2), .val (.int p3), .val (.int p4), .val (.ref b23), .val (.ref cc), .val (.int lf), .val (.int (dcv cc a_AND a_OR lf)), .unset, .unset] [(.int (p4 &&& (1 : Int32)))])) _
          refine XS.istore X64.here hx rfl (hb hby at_180) rfl (l' := #[.val (.int p1), .val (.int p2), .val (.int p3), .val (.int p4), .val (.ref b23), .val (.ref cc), .val (.int lf), .val (.int (dcv cc a_AND a_OR lf)), .val (.int (p4 &&& (1 : Int32))), .unset]) rfl ?_
          show Steps p.tables e below (T64.setTop (mkF m 182 #[.val (.int p1), .val (.int p2), .val (.int p3), .val (.int p4), .val (.ref b23), .val (.ref cc), .val (.int lf), .val (.int (dcv cc a_AND a_OR lf)), .val (.int (p4 &&& (1 : Int32))), .unset] [])) _
          refine XS.aload X64.here hx rfl (hb hby at_182) rfl rfl ?_
          show Steps p.tables e below (T64.setTop (mkF m 184 #[.val (.int p1), .val (.int p2), .val (.int p3), .val (.int p4), .val (.ref b23), .val (.ref cc), .val (.int lf), .val (.int (dcv cc a_AND a_OR lf)), .val (.int (p4 &&& (1 : Int32))), .unset] [(.ref cc)])) _
          refine XS.iload X64.here hx rfl (hb hby at_184) rfl ?_
          show Steps p.tables e below (T64.setTop (mkF m 186 #[.val (.int p1), .val (.int p2), .val (.int p3), .val (.int p4), .val (.ref b23), .val (.ref cc), .val (.int lf), .val (.int (dcv cc a_AND a_OR lf)), .val (.int (p4 &&& (1 : Int32))), .unset] [(.int lf), (.ref cc)])) _
          refine XS.iload X64.here hx rfl (hb hby at_186) rfl ?_
          show Steps p.tables e below (T64.setTop (mkF m 188 #[.val (.int p1), .val (.int p2), .val (.int p3), .val (.int p4), .val (.ref b23), .val (.ref cc), .val (.int lf), .val (.int (dcv cc a_AND a_OR lf)), .val (.int (p4 &&& (1 : Int32))), .unset] [(.int (p4 &&& (1 : Int32))), (.int lf), (.ref cc)])) _
          refine st67.trans ?_
          show Steps p.tables e below (T67.setTop (mkF m 191 #[.val (.int p1), .val (.int p2), .val (.int p3), .val (.int p4), .val (.ref b23), .val (.ref cc), .val (.int lf), .val (.int (dcv cc a_AND a_OR lf)), .val (.int (p4 &&& (1 : Int32))), .unset] [(.int (lf ||| (p4 &&& (1 : Int32))))])) _
          refine XS.istore X67.here hx rfl (hb hby at_191) rfl (l' := #[.val (.int p1), .val (.int p2), .val (.int p3), .val (.int p4), .val (.ref b23), .val (.ref cc), .val (.int lf), .val (.int (dcv cc a_AND a_OR lf)), .val (.int (p4 &&& (1 : Int32))), .val (.int (lf ||| (p4 &&& (1 : Int32))))]) rfl ?_
          show Steps p.tables e below (T67.setTop (mkF m 193 #[.val (.int p1), .val (.int p2), .val (.int p3), .val (.int p4), .val (.ref b23), .val (.ref cc), .val (.int lf), .val (.int (dcv cc a_AND a_OR lf)), .val (.int (p4 &&& (1 : Int32))), .val (.int (lf ||| (p4 &&& (1 : Int32))))] [])) _
          refine XS.iload X67.here hx rfl (hb hby at_193) rfl ?_
          show Steps p.tables e below (T67.setTop (mkF m 195 #[.val (.int p1), .val (.int p2), .val (.int p3), .val (.int p4), .val (.ref b23), .val (.ref cc), .val (.int lf), .val (.int (dcv cc a_AND a_OR lf)), .val (.int (p4 &&& (1 : Int32))), .val (.int (lf ||| (p4 &&& (1 : Int32))))] [(.int (dcv cc a_AND a_OR lf))])) _
          refine XS.ifYes X67.here hx rfl (pc0 := 195) (pc' := 213) rfl (hb hby at_195) rfl ((if0 _ _).trans (teq (show (dcv cc a_AND a_OR lf) = (0 : Int32) from by rw [dcv, if_neg (fun q => ne_AO (q.1.symm.trans c2)), if_neg (fun q => absurd (l0.symm.trans q.2) (by decide))])).1) (by decide) (by decide) ?_
          show Steps p.tables e below (T67.setTop (mkF m 213 #[.val (.int p1), .val (.int p2), .val (.int p3), .val (.int p4), .val (.ref b23), .val (.ref cc), .val (.int lf), .val (.int (dcv cc a_AND a_OR lf)), .val (.int (p4 &&& (1 : Int32))), .val (.int (lf ||| (p4 &&& (1 : Int32))))] [])) _
          refine XS.iload X67.here hx rfl (hb hby at_213) rfl ?_
          show Steps p.tables e below (T67.setTop (mkF m 215 #[.val (.int p1), .val (.int p2), .val (.int p3), .val (.int p4), .val (.ref b23), .val (.ref cc), .val (.int lf), .val (.int (dcv cc a_AND a_OR lf)), .val (.int (p4 &&& (1 : Int32))), .val (.int (lf ||| (p4 &&& (1 : Int32))))] [(.int (lf ||| (p4 &&& (1 : Int32))))])) _
          refine XS.iload X67.here hx rfl (hb hby at_215) rfl ?_
          show Steps p.tables e below (T67.setTop (mkF m 217 #[.val (.int p1), .val (.int p2), .val (.int p3), .val (.int p4), .val (.ref b23), .val (.ref cc), .val (.int lf), .val (.int (dcv cc a_AND a_OR lf)), .val (.int (p4 &&& (1 : Int32))), .val (.int (lf ||| (p4 &&& (1 : Int32))))] [(.int (p4 &&& (1 : Int32))), (.int (lf ||| (p4 &&& (1 : Int32))))])) _
          refine XS.icmpNo X67.here hx rfl (hb hby at_217) rfl (teq (show (lf ||| (p4 &&& (1 : Int32))) = (p4 &&& (1 : Int32)) from own_OR0 l0 p4)).2 ?_
          show Steps p.tables e below (T67.setTop (mkF m 220 #[.val (.int p1), .val (.int p2), .val (.int p3), .val (.int p4), .val (.ref b23), .val (.ref cc), .val (.int lf), .val (.int (dcv cc a_AND a_OR lf)), .val (.int (p4 &&& (1 : Int32))), .val (.int (lf ||| (p4 &&& (1 : Int32))))] [])) _
          refine XS.iconst X67.here hx rfl (hb hby at_220) ?_
          show Steps p.tables e below (T67.setTop (mkF m 221 #[.val (.int p1), .val (.int p2), .val (.int p3), .val (.int p4), .val (.ref b23), .val (.ref cc), .val (.int lf), .val (.int (dcv cc a_AND a_OR lf)), .val (.int (p4 &&& (1 : Int32))), .val (.int (lf ||| (p4 &&& (1 : Int32))))] [(.int (1 : Int32))])) _
          refine XS.goto X67.here hx rfl (pc0 := 221) (pc' := 225) rfl (hb hby at_221) (by decide) (by decide) ?_
          show Steps p.tables e below (T67.setTop (mkF m 225 #[.val (.int p1), .val (.int p2), .val (.int p3), .val (.int p4), .val (.ref b23), .val (.ref cc), .val (.int lf), .val (.int (dcv cc a_AND a_OR lf)), .val (.int (p4 &&& (1 : Int32))), .val (.int (lf ||| (p4 &&& (1 : Int32))))] [(.int (1 : Int32))])) _
          exact k
        obtain ⟨fs, hr, hrun, hended, hW, hsame⟩ := X67.leave (v := some (.int (1 : Int32))) (fun h => by rw [Bd.returns] at h; cases h)
        refine ⟨_, _, pre68 _ ?_, hrun, hended, _, _, rfl, ?_, ⟨_, rfl⟩, hW, hsame.mono (by decide) (by decide)⟩
        · exact retN X67 hx (t := .boolean) Bd.returns (by simp) (hb hby at_225) hr
        · show Q0 Z p1 p2 p3 p4 h0 n0 _ T67.heap _
          rw [e67]
          exact ⟨rfl, N67⟩
      · skip
        have pre69 : Lead p e below (T64.setTop (mkF m 163 #[.val (.int p1), .val (.int p2), .val (.int p3), .val (.int p4), .val (.ref b23), .val (.ref cc), .val (.int lf), .val (.int (dcv cc a_AND a_OR lf)), .unset, .unset] [(.int (1 : Int32)), (.int lf)])) (s₁.setTop (entryFrame m #[(.int p1), (.int p2), (.int p3), (.int p4)] maxLocals)) := fun t k => by
          refine pre66 t ?_
          refine XS.ifNo X64.here hx rfl (hb hby at_157) rfl ((if0 _ _).trans (feq l0).1) ?_
          show Steps p.tables e below (T64.setTop (mkF m 160 #[.val (.int p1), .val (.int p2), .val (.int p3), .val (.int p4), .val (.ref b23), .val (.ref cc), .val (.int lf), .val (.int (dcv cc a_AND a_OR lf)), .unset, .unset] [])) _
          refine XS.iload X64.here hx rfl (hb hby at_160) rfl ?_
          show Steps p.tables e below (T64.setTop (mkF m 162 #[.val (.int p1), .val (.int p2), .val (.int p3), .val (.int p4), .val (.ref b23), .val (.ref cc), .val (.int lf), .val (.int (dcv cc a_AND a_OR lf)), .unset, .unset] [(.int lf)])) _
          refine XS.iconst X64.here hx rfl (hb hby at_162) ?_
          show Steps p.tables e below (T64.setTop (mkF m 163 #[.val (.int p1), .val (.int p2), .val (.int p3), .val (.int p4), .val (.ref b23), .val (.ref cc), .val (.int lf), .val (.int (dcv cc a_AND a_OR lf)), .unset, .unset] [(.int (1 : Int32)), (.int lf)])) _
          exact k
        by_cases l1 : lf = (1 : Int32)
        · skip
          obtain ⟨cq70, kq70, q70a, q70b, q70c⟩ := isOf hZ e64 (EJ.ext E49)
          obtain ⟨_, _, ⟨T70, L70, k70, n70⟩, -, X70, ⟨Lc70, hQ70, l70, y70, z70⟩, st70⟩ := X64.virtualBack hx (y := (⟨"com/example/vertaler/vertaler/core/model/BinaryOperator", "apply", "(II)I"⟩ : MethodName)) (z := (⟨"com/example/vertaler/vertaler/core/model/BinaryOperator", "apply", "(II)I"⟩ : MethodName)) hown (mvT hZ (hw _ (List.mem_of_getElem? (i := 38) rfl))) (mvT hZ (hw _ (List.mem_of_getElem? (i := 39) rfl))) (notFace_of_selects (args := #[]) (mvT hZ (hw _ (List.mem_of_getElem? (i := 41) rfl)))) (mvT hZ (hw _ (List.mem_of_getElem? (i := 41) rfl))) (mvT hZ (hw _ (List.mem_of_getElem? (i := 40) rfl))) (by decide) (backOf (W := 0) (rm2o l Z a0 hw [] cc lf (p4 &&& (1 : Int32)) h49 n0 (Nat.le_trans Z0 E49.1) (EJ.ext E49) ((c2.symm ▸ F_OR).ext E49)) hZ (hw _ (List.mem_of_getElem? (i := 42) rfl)) (hw _ (List.mem_of_getElem? (i := 3) rfl)) (by decide) (by decide)) q70a q70c (g := (mkF m 188 #[.val (.int p1), .val (.int p2), .val (.int p3), .val (.int p4), .val (.ref b23), .val (.ref cc), .val (.int lf), .val (.int (dcv cc a_AND a_OR lf)), .val (.int (p4 &&& (1 : Int32))), .unset] [(.int (p4 &&& (1 : Int32))), (.int lf), (.ref cc)])) rfl (by rw [hml]; rfl) (Steps.refl _) (argsL := [(.int lf), (.int (p4 &&& (1 : Int32)))]) (rest := []) (lenOf pd_2 rfl) rfl (by show 2 * 0 + _ ≤ _; exact Nat.le_of_eq rfl) (hb hby at_188) (fun _ _ => ⟨rfl, e64, (by decide : 1 + 0 ≤ _), (by decide : 13 + 0 ≤ _)⟩)
          dsimp only [Pt.U, Pt.locs, Pt.cells, Pt.slots] at X70 l70 y70 z70 st70 hQ70
          subst l70 y70 z70
          obtain ⟨rfl, N70q, e70⟩ := hQ70
          have N70 := Fr.app N54 N70q
          have pre71 : Lead p e below (T70.setTop (mkF m 225 #[.val (.int p1), .val (.int p2), .val (.int p3), .val (.int p4), .val (.ref b23), .val (.ref cc), .val (.int lf), .val (.int (dcv cc a_AND a_OR lf)), .val (.int (p4 &&& (1 : Int32))), .val (.int (lf ||| (p4 &&& (1 : Int32))))] [(.int (1 : Int32))])) (s₁.setTop (entryFrame m #[(.int p1), (.int p2), (.int p3), (.int p4)] maxLocals)) := fun t k => by
            refine pre69 t ?_
            refine XS.icmpYes X64.here hx rfl (pc0 := 163) (pc' := 177) rfl (hb hby at_163) rfl (teq l1).1 (by decide) (by decide) ?_
            show Steps p.tables e below (T64.setTop (mkF m 177 #[.val (.int p1), .val (.int p2), .val (.int p3), .val (.int p4), .val (.ref b23), .val (.ref cc), .val (.int lf), .val (.int (dcv cc a_AND a_OR lf)), .unset, .unset] [])) _
            refine XS.iloadN X64.here hx rfl (hb hby at_177) rfl ?_
            show Steps p.tables e below (T64.setTop (mkF m 178 #[.val (.int p1), .val (.int p2), .val (.int p3), .val (.int p4), .val (.ref b23), .val (.ref cc), .val (.int lf), .val (.int (dcv cc a_AND a_OR lf)), .unset, .unset] [(.int p4)])) _
            refine XS.iconst X64.here hx rfl (hb hby at_178) ?_
            show Steps p.tables e below (T64.setTop (mkF m 179 #[.val (.int p1), .val (.int p2), .val (.int p3), .val (.int p4), .val (.ref b23), .val (.ref cc), .val (.int lf), .val (.int (dcv cc a_AND a_OR lf)), .unset, .unset] [(.int (1 : Int32)), (.int p4)])) _
            refine XS.iand X64.here hx rfl (hb hby at_179) rfl ?_
            show Steps p.tables e below (T64.setTop (mkF m 180 #[.val (.int p1), .val (.int p2), .val (.int p3), .val (.int p4), .val (.ref b23), .val (.ref cc), .val (.int lf), .val (.int (dcv cc a_AND a_OR lf)), .unset, .unset] [(.int (p4 &&& (1 : Int32)))])) _
            refine XS.istore X64.here hx rfl (hb hby at_180) rfl (l' := #[.val (.int p1), .val (.int p2), .val (.int p3), .val (.int p4), .val (.ref b23), .val (.ref cc), .val (.int lf), .val (.int (dcv cc a_AND a_OR lf)), .val (.int (p4 &&& (1 : Int32))), .unset]) rfl ?_
            show Steps p.tables e below (T64.setTop (mkF m 182 #[.val (.int p1), .val (.int p2), .val (.int p3), .val (.int p4), .val (.ref b23), .val (.ref cc), .val (.int lf), .val (.int (dcv cc a_AND a_OR lf)), .val (.int (p4 &&& (1 : Int32))), .unset] [])) _
            refine XS.aload X64.here hx rfl (hb hby at_182) rfl rfl ?_
            show Steps p.tables e below (T64.setTop (mkF m 184 #[.val (.int p1), .val (.int p2), .val (.int p3), .val (.int p4), .val (.ref b23), .val (.ref cc), .val (.int lf), .val (.int (dcv cc a_AND a_OR lf)), .val (.int (p4 &&& (1 : Int32))), .unset] [(.ref cc)])) _
            refine XS.iload X64.here hx rfl (hb hby at_184) rfl ?_
            show Steps p.tables e below (T64.setTop (mkF m 186 #[.val (.int p1), .val (.int p2), .val (.int p3), .val (.int p4), .val (.ref b23), .val (.ref cc), .val (.int lf), .val (.int (dcv cc a_AND a_OR lf)), .val (.int (p4 &&& (1 : Int32))), .unset] [(.int lf), (.ref cc)])) _
            refine XS.iload X64.here hx rfl (hb hby at_186) rfl ?_
            show Steps p.tables e below (T64.setTop (mkF m 188 #[.val (.int p1), .val (.int p2), .val (.int p3), .val (.int p4), .val (.ref b23), .val (.ref cc), .val (.int lf), .val (.int (dcv cc a_AND a_OR lf)), .val (.int (p4 &&& (1 : Int32))), .unset] [(.int (p4 &&& (1 : Int32))), (.int lf), (.ref cc)])) _
            refine st70.trans ?_
            show Steps p.tables e below (T70.setTop (mkF m 191 #[.val (.int p1), .val (.int p2), .val (.int p3), .val (.int p4), .val (.ref b23), .val (.ref cc), .val (.int lf), .val (.int (dcv cc a_AND a_OR lf)), .val (.int (p4 &&& (1 : Int32))), .unset] [(.int (lf ||| (p4 &&& (1 : Int32))))])) _
            refine XS.istore X70.here hx rfl (hb hby at_191) rfl (l' := #[.val (.int p1), .val (.int p2), .val (.int p3), .val (.int p4), .val (.ref b23), .val (.ref cc), .val (.int lf), .val (.int (dcv cc a_AND a_OR lf)), .val (.int (p4 &&& (1 : Int32))), .val (.int (lf ||| (p4 &&& (1 : Int32))))]) rfl ?_
            show Steps p.tables e below (T70.setTop (mkF m 193 #[.val (.int p1), .val (.int p2), .val (.int p3), .val (.int p4), .val (.ref b23), .val (.ref cc), .val (.int lf), .val (.int (dcv cc a_AND a_OR lf)), .val (.int (p4 &&& (1 : Int32))), .val (.int (lf ||| (p4 &&& (1 : Int32))))] [])) _
            refine XS.iload X70.here hx rfl (hb hby at_193) rfl ?_
            show Steps p.tables e below (T70.setTop (mkF m 195 #[.val (.int p1), .val (.int p2), .val (.int p3), .val (.int p4), .val (.ref b23), .val (.ref cc), .val (.int lf), .val (.int (dcv cc a_AND a_OR lf)), .val (.int (p4 &&& (1 : Int32))), .val (.int (lf ||| (p4 &&& (1 : Int32))))] [(.int (dcv cc a_AND a_OR lf))])) _
            refine XS.ifNo X70.here hx rfl (hb hby at_195) rfl ((if0 _ _).trans (feq (show ¬ (dcv cc a_AND a_OR lf) = (0 : Int32) from by rw [dcv, if_neg (fun q => ne_AO (q.1.symm.trans c2)), if_pos ⟨c2, l1⟩]; decide)).1) ?_
            show Steps p.tables e below (T70.setTop (mkF m 198 #[.val (.int p1), .val (.int p2), .val (.int p3), .val (.int p4), .val (.ref b23), .val (.ref cc), .val (.int lf), .val (.int (dcv cc a_AND a_OR lf)), .val (.int (p4 &&& (1 : Int32))), .val (.int (lf ||| (p4 &&& (1 : Int32))))] [])) _
            refine XS.iload X70.here hx rfl (hb hby at_198) rfl ?_
            show Steps p.tables e below (T70.setTop (mkF m 200 #[.val (.int p1), .val (.int p2), .val (.int p3), .val (.int p4), .val (.ref b23), .val (.ref cc), .val (.int lf), .val (.int (dcv cc a_AND a_OR lf)), .val (.int (p4 &&& (1 : Int32))), .val (.int (lf ||| (p4 &&& (1 : Int32))))] [(.int (lf ||| (p4 &&& (1 : Int32))))])) _
            refine XS.iload X70.here hx rfl (hb hby at_200) rfl ?_
            show Steps p.tables e below (T70.setTop (mkF m 202 #[.val (.int p1), .val (.int p2), .val (.int p3), .val (.int p4), .val (.ref b23), .val (.ref cc), .val (.int lf), .val (.int (dcv cc a_AND a_OR lf)), .val (.int (p4 &&& (1 : Int32))), .val (.int (lf ||| (p4 &&& (1 : Int32))))] [(.int lf), (.int (lf ||| (p4 &&& (1 : Int32))))])) _
            refine XS.icmpNo X70.here hx rfl (hb hby at_202) rfl (teq (show (lf ||| (p4 &&& (1 : Int32))) = lf from own_OR1 l1 p4)).2 ?_
            show Steps p.tables e below (T70.setTop (mkF m 205 #[.val (.int p1), .val (.int p2), .val (.int p3), .val (.int p4), .val (.ref b23), .val (.ref cc), .val (.int lf), .val (.int (dcv cc a_AND a_OR lf)), .val (.int (p4 &&& (1 : Int32))), .val (.int (lf ||| (p4 &&& (1 : Int32))))] [])) _
            refine XS.iconst X70.here hx rfl (hb hby at_205) ?_
            show Steps p.tables e below (T70.setTop (mkF m 206 #[.val (.int p1), .val (.int p2), .val (.int p3), .val (.int p4), .val (.ref b23), .val (.ref cc), .val (.int lf), .val (.int (dcv cc a_AND a_OR lf)), .val (.int (p4 &&& (1 : Int32))), .val (.int (lf ||| (p4 &&& (1 : Int32))))] [(.int (1 : Int32))])) _
            refine XS.goto X70.here hx rfl (pc0 := 206) (pc' := 225) rfl (hb hby at_206) (by decide) (by decide) ?_
            show Steps p.tables e below (T70.setTop (mkF m 225 #[.val (.int p1), .val (.int p2), .val (.int p3), .val (.int p4), .val (.ref b23), .val (.ref cc), .val (.int lf), .val (.int (dcv cc a_AND a_OR lf)), .val (.int (p4 &&& (1 : Int32))), .val (.int (lf ||| (p4 &&& (1 : Int32))))] [(.int (1 : Int32))])) _
            exact k
          obtain ⟨fs, hr, hrun, hended, hW, hsame⟩ := X70.leave (v := some (.int (1 : Int32))) (fun h => by rw [Bd.returns] at h; cases h)
          refine ⟨_, _, pre71 _ ?_, hrun, hended, _, _, rfl, ?_, ⟨_, rfl⟩, hW, hsame.mono (by decide) (by decide)⟩
          · exact retN X70 hx (t := .boolean) Bd.returns (by simp) (hb hby at_225) hr
          · show Q0 Z p1 p2 p3 p4 h0 n0 _ T70.heap _
            rw [e70]
            exact ⟨rfl, N70⟩
        · skip
          have pre72 : Lead p e below (T64.setTop (mkF m 176 #[.val (.int p1), .val (.int p2), .val (.int p3), .val (.int p4), .val (.ref b23), .val (.ref cc), .val (.int lf), .val (.int (dcv cc a_AND a_OR lf)), .unset, .unset] [(.int (1 : Int32))])) (s₁.setTop (entryFrame m #[(.int p1), (.int p2), (.int p3), (.int p4)] maxLocals)) := fun t k => by
            refine pre69 t ?_
            refine XS.icmpNo X64.here hx rfl (hb hby at_163) rfl (feq l1).1 ?_
            show Steps p.tables e below (T64.setTop (mkF m 166 #[.val (.int p1), .val (.int p2), .val (.int p3), .val (.int p4), .val (.ref b23), .val (.ref cc), .val (.int lf), .val (.int (dcv cc a_AND a_OR lf)), .unset, .unset] [])) _
            refine XS.iload X64.here hx rfl (hb hby at_166) rfl ?_
            show Steps p.tables e below (T64.setTop (mkF m 168 #[.val (.int p1), .val (.int p2), .val (.int p3), .val (.int p4), .val (.ref b23), .val (.ref cc), .val (.int lf), .val (.int (dcv cc a_AND a_OR lf)), .unset, .unset] [(.int (dcv cc a_AND a_OR lf))])) _
            refine XS.ifNo X64.here hx rfl (hb hby at_168) rfl ((if0 _ _).trans (teq (show (dcv cc a_AND a_OR lf) = (0 : Int32) from by rw [dcv, if_neg (fun q => l0 q.2), if_neg (fun q => l1 q.2)])).2) ?_
            show Steps p.tables e below (T64.setTop (mkF m 171 #[.val (.int p1), .val (.int p2), .val (.int p3), .val (.int p4), .val (.ref b23), .val (.ref cc), .val (.int lf), .val (.int (dcv cc a_AND a_OR lf)), .unset, .unset] [])) _
            refine XS.iconst X64.here hx rfl (hb hby at_171) ?_
            show Steps p.tables e below (T64.setTop (mkF m 172 #[.val (.int p1), .val (.int p2), .val (.int p3), .val (.int p4), .val (.ref b23), .val (.ref cc), .val (.int lf), .val (.int (dcv cc a_AND a_OR lf)), .unset, .unset] [(.int (1 : Int32))])) _
            refine XS.goto X64.here hx rfl (pc0 := 172) (pc' := 176) rfl (hb hby at_172) (by decide) (by decide) ?_
            show Steps p.tables e below (T64.setTop (mkF m 176 #[.val (.int p1), .val (.int p2), .val (.int p3), .val (.int p4), .val (.ref b23), .val (.ref cc), .val (.int lf), .val (.int (dcv cc a_AND a_OR lf)), .unset, .unset] [(.int (1 : Int32))])) _
            exact k
          obtain ⟨fs, hr, hrun, hended, hW, hsame⟩ := X64.leave (v := some (.int (1 : Int32))) (fun h => by rw [Bd.returns] at h; cases h)
          refine ⟨_, _, pre72 _ ?_, hrun, hended, _, _, rfl, ?_, ⟨_, rfl⟩, hW, hsame.mono (by decide) (by decide)⟩
          · exact retN X64 hx (t := .boolean) Bd.returns (by simp) (hb hby at_176) hr
          · show Q0 Z p1 p2 p3 p4 h0 n0 _ T64.heap _
            rw [e64]
            exact ⟨rfl, N54⟩
    · skip
      have pre73 : Lead p e below (T64.setTop (mkF m 154 #[.val (.int p1), .val (.int p2), .val (.int p3), .val (.int p4), .val (.ref b23), .val (.ref cc), .val (.int lf), .val (.int (dcv cc a_AND a_OR lf)), .unset, .unset] [(.int (1 : Int32))])) (s₁.setTop (entryFrame m #[(.int p1), (.int p2), (.int p3), (.int p4)] maxLocals)) := fun t k => by
        refine pre65 t ?_
        refine Jvm.RoadKit.acmp (g := (mkF m 141 #[.val (.int p1), .val (.int p2), .val (.int p3), .val (.int p4), .val (.ref b23), .val (.ref cc), .val (.int lf), .val (.int (dcv cc a_AND a_OR lf)), .unset, .unset] [(.ref a_OR), (.ref cc)])) X64 hx rfl rfl rfl (pc0 := 141) (pc' := 144) (same := false) rfl (hb hby at_141) rfl (decide_eq_false fun q => c2 (Value.ref.inj q)) (by decide) (by decide) ?_
        show Steps p.tables e below (T64.setTop (mkF m 144 #[.val (.int p1), .val (.int p2), .val (.int p3), .val (.int p4), .val (.ref b23), .val (.ref cc), .val (.int lf), .val (.int (dcv cc a_AND a_OR lf)), .unset, .unset] [])) _
        refine XS.iload X64.here hx rfl (hb hby at_144) rfl ?_
        show Steps p.tables e below (T64.setTop (mkF m 146 #[.val (.int p1), .val (.int p2), .val (.int p3), .val (.int p4), .val (.ref b23), .val (.ref cc), .val (.int lf), .val (.int (dcv cc a_AND a_OR lf)), .unset, .unset] [(.int (dcv cc a_AND a_OR lf))])) _
        refine XS.ifNo X64.here hx rfl (hb hby at_146) rfl ((if0 _ _).trans (teq (show (dcv cc a_AND a_OR lf) = (0 : Int32) from by rw [dcv, if_neg (fun q => c1 q.1), if_neg (fun q => c2 q.1)])).2) ?_
        show Steps p.tables e below (T64.setTop (mkF m 149 #[.val (.int p1), .val (.int p2), .val (.int p3), .val (.int p4), .val (.ref b23), .val (.ref cc), .val (.int lf), .val (.int (dcv cc a_AND a_OR lf)), .unset, .unset] [])) _
        refine XS.iconst X64.here hx rfl (hb hby at_149) ?_
        show Steps p.tables e below (T64.setTop (mkF m 150 #[.val (.int p1), .val (.int p2), .val (.int p3), .val (.int p4), .val (.ref b23), .val (.ref cc), .val (.int lf), .val (.int (dcv cc a_AND a_OR lf)), .unset, .unset] [(.int (1 : Int32))])) _
        refine XS.goto X64.here hx rfl (pc0 := 150) (pc' := 154) rfl (hb hby at_150) (by decide) (by decide) ?_
        show Steps p.tables e below (T64.setTop (mkF m 154 #[.val (.int p1), .val (.int p2), .val (.int p3), .val (.int p4), .val (.ref b23), .val (.ref cc), .val (.int lf), .val (.int (dcv cc a_AND a_OR lf)), .unset, .unset] [(.int (1 : Int32))])) _
        exact k
      obtain ⟨fs, hr, hrun, hended, hW, hsame⟩ := X64.leave (v := some (.int (1 : Int32))) (fun h => by rw [Bd.returns] at h; cases h)
      refine ⟨_, _, pre73 _ ?_, hrun, hended, _, _, rfl, ?_, ⟨_, rfl⟩, hW, hsame.mono (by decide) (by decide)⟩
      · exact retN X64 hx (t := .boolean) Bd.returns (by simp) (hb hby at_154) hr
      · show Q0 Z p1 p2 p3 p4 h0 n0 _ T64.heap _
        rw [e64]
        exact ⟨rfl, N54⟩
set_option maxRecDepth 65536 in
set_option maxHeartbeats 40000000 in
theorem comes_1 {Post : Tables → Env → Array Value → State → Outcome → State → Prop} (hpost : ∀ tb e args s v u, (limb_1_1.after args s (.returned v) u = true ∧ limb_1_2.after args s (.returned v) u = true ∧ True) → FrameEnd s (.returned v) u (Jvm.fieldLocs frame_1_writes args s ++ Jvm.arrayLocs frame_1_arrays args s ++ Jvm.staticLocs frame_1_statics s) 16 128 → Post tb e args s (.returned v) u) :
    ArmFor flags0 classFile x code maxLocals ret World_1 tables_1 room_1 Calls_1 rest_1 Pre_1 Post := by
  intro l hfl _ _ p e ha hc hk s m args below hf hA hF happ hP
  obtain ⟨hcalls, hrest, hpre⟩ := hP
  obtain ⟨-, -, -, hnamed, -, -, -, hat⟩ := (Spec.applies_iff hf).mp happ
  obtain ⟨hg, hn⟩ := and_e (Cond.before_iff.mp (show (Jvm.Cond.and given_1 narrow_1).before args s = true from hpre))
  obtain ⟨hcount, gg⟩ := and_e hg
  obtain ⟨g0, gr1⟩ := and_e gg
  obtain ⟨g1, gr2⟩ := and_e gr1
  obtain ⟨g2, g3⟩ := and_e gr2
  obtain ⟨n0, nr1⟩ := and_e hn
  obtain ⟨n1, nr2⟩ := and_e nr1
  obtain ⟨n2, nr3⟩ := and_e nr2
  obtain ⟨n3, nr4⟩ := and_e nr3
  obtain ⟨n4, nr5⟩ := and_e nr4
  obtain ⟨n5, nr6⟩ := and_e nr5
  obtain ⟨n6, nr7⟩ := and_e nr6
  obtain ⟨n7, nr8⟩ := and_e nr7
  obtain ⟨n8, nr9⟩ := and_e nr8
  obtain ⟨n9, nr10⟩ := and_e nr9
  obtain ⟨n10, nr11⟩ := and_e nr10
  obtain ⟨n11, nr12⟩ := and_e nr11
  obtain ⟨n12, nr13⟩ := and_e nr12
  obtain ⟨n13, nr14⟩ := and_e nr13
  obtain ⟨n14, nr15⟩ := and_e nr14
  obtain ⟨n15, nr16⟩ := and_e nr15
  obtain ⟨n16, nr17⟩ := and_e nr16
  obtain ⟨n17, nr18⟩ := and_e nr17
  obtain ⟨n18, nr19⟩ := and_e nr18
  obtain ⟨n19, nr20⟩ := and_e nr19
  obtain ⟨n20, nr21⟩ := and_e nr20
  obtain ⟨n21, nr22⟩ := and_e nr21
  obtain ⟨n22, nr23⟩ := and_e nr22
  obtain ⟨n23, nr24⟩ := and_e nr23
  obtain ⟨n24, n25⟩ := and_e nr24
  obtain ⟨w0, w1, w2, w3, rfl⟩ : ∃ w0 w1 w2 w3 : Value, args = #[w0, w1, w2, w3] := by
    have hs : args.size = 4 := by simpa [Cond.value, given_1] using hcount
    obtain ⟨L⟩ := args
    match L, hs with
    | [w0, w1, w2, w3], _ => exact ⟨w0, w1, w2, w3, rfl⟩
  have hw := fun d (hd : d ∈ tables_1) => atoms_spec (ws := Jvm.Cond.code x code maxLocals ret :: tables_1) hat d (List.mem_cons_of_mem _ hd)
  have hfit : Fit s := fun {y c} hc i hi => by
    obtain ⟨ha, rfl⟩ := Array.getElem?_eq_some_iff.mp hc
    have q := List.all_eq_true.mp ((Array.all_eq_true_iff_forall_mem.mp hF) _ (Array.getElem_mem ha)) i (List.mem_range.mpr hi)
    simpa [Array.getElem?_eq_getElem hi] using q
  obtain ⟨i0, ei0⟩ := is_v g0
  obtain rfl : w0 = (.int i0) := Option.some.inj ei0
  obtain ⟨i1, ei1⟩ := is_v g1
  obtain rfl : w1 = (.int i1) := Option.some.inj ei1
  obtain ⟨i2, ei2⟩ := is_v g2
  obtain rfl : w2 = (.int i2) := Option.some.inj ei2
  obtain ⟨i3, ei3⟩ := is_v g3
  obtain rfl : w3 = (.int i3) := Option.some.inj ei3
  obtain ⟨a_OR, ev_OR⟩ := exa_v n0
  have Ex_OR := Exa.start ev_OR n0
  have S_OR := Sta.start ev_OR (Or.inr ⟨(hw _ (List.mem_of_getElem? (i := 3) rfl)), (hw _ (List.mem_of_getElem? (i := 4) rfl))⟩)
  obtain ⟨a_AND, ev_AND⟩ := exa_v n1
  have Ex_AND := Exa.start ev_AND n1
  have S_AND := Sta.start ev_AND (Or.inr ⟨(hw _ (List.mem_of_getElem? (i := 3) rfl)), (hw _ (List.mem_of_getElem? (i := 7) rfl))⟩)
  obtain ⟨a_EQUAL, ev_EQUAL⟩ := exa_v n2
  have Ex_EQUAL := Exa.start ev_EQUAL n2
  have S_EQUAL := Sta.start ev_EQUAL (Or.inr ⟨(hw _ (List.mem_of_getElem? (i := 3) rfl)), (hw _ (List.mem_of_getElem? (i := 9) rfl))⟩)
  obtain ⟨a_NOT_EQUAL, ev_NOT_EQUAL⟩ := exa_v n3
  have Ex_NOT_EQUAL := Exa.start ev_NOT_EQUAL n3
  have S_NOT_EQUAL := Sta.start ev_NOT_EQUAL (Or.inr ⟨(hw _ (List.mem_of_getElem? (i := 3) rfl)), (hw _ (List.mem_of_getElem? (i := 11) rfl))⟩)
  obtain ⟨a_LESS, ev_LESS⟩ := exa_v n4
  have Ex_LESS := Exa.start ev_LESS n4
  have S_LESS := Sta.start ev_LESS (Or.inr ⟨(hw _ (List.mem_of_getElem? (i := 3) rfl)), (hw _ (List.mem_of_getElem? (i := 13) rfl))⟩)
  obtain ⟨a_LESS_OR_EQUAL, ev_LESS_OR_EQUAL⟩ := exa_v n5
  have Ex_LESS_OR_EQUAL := Exa.start ev_LESS_OR_EQUAL n5
  have S_LESS_OR_EQUAL := Sta.start ev_LESS_OR_EQUAL (Or.inr ⟨(hw _ (List.mem_of_getElem? (i := 3) rfl)), (hw _ (List.mem_of_getElem? (i := 15) rfl))⟩)
  obtain ⟨a_GREATER, ev_GREATER⟩ := exa_v n6
  have Ex_GREATER := Exa.start ev_GREATER n6
  have S_GREATER := Sta.start ev_GREATER (Or.inr ⟨(hw _ (List.mem_of_getElem? (i := 3) rfl)), (hw _ (List.mem_of_getElem? (i := 17) rfl))⟩)
  obtain ⟨a_GREATER_OR_EQUAL, ev_GREATER_OR_EQUAL⟩ := exa_v n7
  have Ex_GREATER_OR_EQUAL := Exa.start ev_GREATER_OR_EQUAL n7
  have S_GREATER_OR_EQUAL := Sta.start ev_GREATER_OR_EQUAL (Or.inr ⟨(hw _ (List.mem_of_getElem? (i := 3) rfl)), (hw _ (List.mem_of_getElem? (i := 19) rfl))⟩)
  obtain ⟨a_ADD, ev_ADD⟩ := exa_v n8
  have Ex_ADD := Exa.start ev_ADD n8
  have S_ADD := Sta.start ev_ADD (Or.inr ⟨(hw _ (List.mem_of_getElem? (i := 3) rfl)), (hw _ (List.mem_of_getElem? (i := 21) rfl))⟩)
  obtain ⟨a_SUBTRACT, ev_SUBTRACT⟩ := exa_v n9
  have Ex_SUBTRACT := Exa.start ev_SUBTRACT n9
  have S_SUBTRACT := Sta.start ev_SUBTRACT (Or.inr ⟨(hw _ (List.mem_of_getElem? (i := 3) rfl)), (hw _ (List.mem_of_getElem? (i := 23) rfl))⟩)
  obtain ⟨a_MULTIPLY, ev_MULTIPLY⟩ := exa_v n10
  have Ex_MULTIPLY := Exa.start ev_MULTIPLY n10
  have S_MULTIPLY := Sta.start ev_MULTIPLY (Or.inr ⟨(hw _ (List.mem_of_getElem? (i := 3) rfl)), (hw _ (List.mem_of_getElem? (i := 25) rfl))⟩)
  obtain ⟨a_DIVIDE, ev_DIVIDE⟩ := exa_v n11
  have Ex_DIVIDE := Exa.start ev_DIVIDE n11
  have S_DIVIDE := Sta.start ev_DIVIDE (Or.inr ⟨(hw _ (List.mem_of_getElem? (i := 3) rfl)), (hw _ (List.mem_of_getElem? (i := 27) rfl))⟩)
  obtain ⟨a_REMAINDER, ev_REMAINDER⟩ := exa_v n12
  have Ex_REMAINDER := Exa.start ev_REMAINDER n12
  have S_REMAINDER := Sta.start ev_REMAINDER (Or.inr ⟨(hw _ (List.mem_of_getElem? (i := 3) rfl)), (hw _ (List.mem_of_getElem? (i := 29) rfl))⟩)
  have o_OR : s.fieldOf? a_OR "java/lang/Enum" "ordinal" "I" = some (.int (0 : Int32)) := (fld_at ev_OR).symm.trans (eqv_i (F := .int (0 : Int32)) (y := (0 : Int32)) rfl n13)
  have o_AND : s.fieldOf? a_AND "java/lang/Enum" "ordinal" "I" = some (.int (1 : Int32)) := (fld_at ev_AND).symm.trans (eqv_i (F := .int (1 : Int32)) (y := (1 : Int32)) rfl n14)
  have o_REMAINDER : s.fieldOf? a_REMAINDER "java/lang/Enum" "ordinal" "I" = some (.int (12 : Int32)) := (fld_at ev_REMAINDER).symm.trans (eqv_i (F := .int (12 : Int32)) (y := (12 : Int32)) rfl n15)
  have o_EQUAL : s.fieldOf? a_EQUAL "java/lang/Enum" "ordinal" "I" = some (.int (2 : Int32)) := (fld_at ev_EQUAL).symm.trans (eqv_i (F := .int (2 : Int32)) (y := (2 : Int32)) rfl n16)
  have o_NOT_EQUAL : s.fieldOf? a_NOT_EQUAL "java/lang/Enum" "ordinal" "I" = some (.int (3 : Int32)) := (fld_at ev_NOT_EQUAL).symm.trans (eqv_i (F := .int (3 : Int32)) (y := (3 : Int32)) rfl n17)
  have o_ADD : s.fieldOf? a_ADD "java/lang/Enum" "ordinal" "I" = some (.int (8 : Int32)) := (fld_at ev_ADD).symm.trans (eqv_i (F := .int (8 : Int32)) (y := (8 : Int32)) rfl n18)
  have o_GREATER : s.fieldOf? a_GREATER "java/lang/Enum" "ordinal" "I" = some (.int (6 : Int32)) := (fld_at ev_GREATER).symm.trans (eqv_i (F := .int (6 : Int32)) (y := (6 : Int32)) rfl n19)
  have o_LESS_OR_EQUAL : s.fieldOf? a_LESS_OR_EQUAL "java/lang/Enum" "ordinal" "I" = some (.int (5 : Int32)) := (fld_at ev_LESS_OR_EQUAL).symm.trans (eqv_i (F := .int (5 : Int32)) (y := (5 : Int32)) rfl n20)
  have o_LESS : s.fieldOf? a_LESS "java/lang/Enum" "ordinal" "I" = some (.int (4 : Int32)) := (fld_at ev_LESS).symm.trans (eqv_i (F := .int (4 : Int32)) (y := (4 : Int32)) rfl n21)
  have o_SUBTRACT : s.fieldOf? a_SUBTRACT "java/lang/Enum" "ordinal" "I" = some (.int (9 : Int32)) := (fld_at ev_SUBTRACT).symm.trans (eqv_i (F := .int (9 : Int32)) (y := (9 : Int32)) rfl n22)
  have o_GREATER_OR_EQUAL : s.fieldOf? a_GREATER_OR_EQUAL "java/lang/Enum" "ordinal" "I" = some (.int (7 : Int32)) := (fld_at ev_GREATER_OR_EQUAL).symm.trans (eqv_i (F := .int (7 : Int32)) (y := (7 : Int32)) rfl n23)
  have o_MULTIPLY : s.fieldOf? a_MULTIPLY "java/lang/Enum" "ordinal" "I" = some (.int (10 : Int32)) := (fld_at ev_MULTIPLY).symm.trans (eqv_i (F := .int (10 : Int32)) (y := (10 : Int32)) rfl n24)
  have o_DIVIDE : s.fieldOf? a_DIVIDE "java/lang/Enum" "ordinal" "I" = some (.int (11 : Int32)) := (fld_at ev_DIVIDE).symm.trans (eqv_i (F := .int (11 : Int32)) (y := (11 : Int32)) rfl n25)
  have ne_AND_OR : a_AND ≠ a_OR := fun q => by rw [q] at o_AND; exact absurd (Option.some.inj (o_AND.symm.trans o_OR)) (by decide)
  obtain ⟨n, o, h1, h2, h3, _, L, rfl, ⟨rfl, N⟩, hq⟩ := rm0 l s _ hw tables_1 i0 i1 i2 i3 a_OR a_AND a_EQUAL a_NOT_EQUAL a_LESS a_LESS_OR_EQUAL a_GREATER a_GREATER_OR_EQUAL a_ADD a_SUBTRACT a_MULTIPLY a_DIVIDE a_REMAINDER s.heap s.heap.size (Nat.le_refl _) S_OR S_AND S_EQUAL S_NOT_EQUAL S_LESS S_LESS_OR_EQUAL S_GREATER S_GREATER_OR_EQUAL S_ADD S_SUBTRACT S_MULTIPLY S_DIVIDE S_REMAINDER Ex_OR Ex_AND Ex_EQUAL Ex_NOT_EQUAL Ex_LESS Ex_LESS_OR_EQUAL Ex_GREATER Ex_GREATER_OR_EQUAL Ex_ADD Ex_SUBTRACT Ex_MULTIPLY Ex_DIVIDE Ex_REMAINDER ne_AND_OR (Fld.start o_OR) (Fld.start o_AND) p e ha hc hk s m _ below hf ((Spec.applies_iff_loose hf).mp happ).1 ⟨rfl, State.Warmed39.refl s, rfl⟩ trivial
  refine ⟨n, _, h1, h2, h3, hpost _ _ _ _ _ _ ⟨Cond.after_iff.mpr rfl, Cond.after_iff.mpr (eq_i res_at (Term.int_eval (1)) rfl), trivial⟩ ⟨hq.1, hq.2.1, (hq.2.2.sift fun y hy => Or.inr (N y hy)).mono (by decide) (by decide)⟩⟩
theorem main_1_1 : Claimed_1_1 := comes_1 fun _ _ _ _ _ _ h hF => ⟨h.1, hF⟩
theorem main_1_2 : Claimed_1_2 := comes_1 fun _ _ _ _ _ _ h hF => ⟨h.2.1, hF⟩

end Jvm.Pilot.@@N@@
namespace Jvm.Pilot.@@N@@
open Jvm Jvm.ClassFile Sem Op Lib Jvm.Free Jvm.Stand Jvm.Pilot.@@N@@.Jvm.D
/-! MADE BY PROGRAM (witnessworld.py) out of the Statement's table words and the real class files: 13 classes; the members and pool entries that the words name. The judged class is class 1, her method 1. -/
namespace start1
open Jvm.ClassFile
def u (s : String) : CpInfo := .utf8 (stringToUtf16 s)
/-- a pool by its gaps: so many unusable entries, then the entry; so many at the end -/
def gap : Nat → List CpInfo → List CpInfo
  | 0, r => r
  | n + 1, r => .unusable :: gap n r
def poolList (es : List (Nat × CpInfo)) (last : Nat) : List CpInfo := es.foldr (fun e r => gap e.1 (e.2 :: r)) (gap last [])
def pool (es : List (Nat × CpInfo)) (last : Nat) : Array CpInfo := ⟨poolList es last⟩
def fileOf (pool : Array CpInfo) (this : Nat) (attrs : Array Attribute := #[]) (ms : Array MethodInfo := #[]) (fl : Nat := 33) (sup : Nat := 0) (ifs : Array Nat := #[]) (fds : Array FieldInfo := #[]) : ClassFile where
  minorVersion := 0
  majorVersion := 65
  constantPool := pool
  accessFlags := fl
  thisClass := this
  superClass := sup
  interfaces := ifs
  fields := fds
  methods := ms
  attributes := attrs
def plain (name : String) (sup : Option ClassId) : Class where
  name := name
  kind := .ordinary
  loader := none
  accessFlags := 33
  super := sup
  interfaces := #[]
  cf := none
  fields := #[]
  methods := #[]
  instanceTypes := #[]
  staticTypes := #[]
  resolved := #[]
  callSites := []
  init := .initialized
  statics := none
  mirror := none

def pool0 : Array CpInfo := pool [(5, u "<init>"), (0, u "()V"), (1, .class_ 10), (1, u "java/lang/Object")] 113

def k0m0 : Method := { name := "<init>", desc := "()V", sig := { parameters := [], returnType := none }, accessFlags := 1, code := none }
/-- java/lang/Object -/
def k0 : Class := { plain "java/lang/Object" none with
  accessFlags := 33
  interfaces := #[]
  cf := some (fileOf pool0 8 #[] #[{ accessFlags := 1, nameIndex := 5, descriptorIndex := 6, attributes := #[] }] 33 0 #[] #[])
  fields := #[]
  methods := #[k0m0]
  instanceTypes := #[]
  staticTypes := #[]
  resolved := Array.replicate 124 none
  statics := none }

def pool1 : Array CpInfo := pool [(2, .class_ 4), (1, u "java/lang/Object"), (0, u "<init>"), (0, u "()V"), (0, .class_ 8), (0, u "com/example/vertaler/vertaler/core/model/BinaryOperator"), (0, .fieldref 7 10), (0, .nameAndType 11 12), (0, u "OR"), (0, u "Lcom/example/vertaler/vertaler/core/model/BinaryOperator;"), (0, .fieldref 7 14), (0, .nameAndType 15 12), (0, u "AND"), (0, .fieldref 7 17), (0, .nameAndType 18 12), (0, u "EQUAL"), (0, .fieldref 7 20), (0, .nameAndType 21 12), (0, u "NOT_EQUAL"), (0, .fieldref 7 23), (0, .nameAndType 24 12), (0, u "LESS"), (0, .fieldref 7 26), (0, .nameAndType 27 12), (0, u "LESS_OR_EQUAL"), (0, .fieldref 7 29), (0, .nameAndType 30 12), (0, u "GREATER"), (0, .fieldref 7 32), (0, .nameAndType 33 12), (0, u "GREATER_OR_EQUAL"), (0, .fieldref 7 35), (0, .nameAndType 36 12), (0, u "ADD"), (0, .fieldref 7 38), (0, .nameAndType 39 12), (0, u "SUBTRACT"), (0, .fieldref 7 41), (0, .nameAndType 42 12), (0, u "MULTIPLY"), (0, .fieldref 7 44), (0, .nameAndType 45 12), (0, u "DIVIDE"), (0, .fieldref 7 47), (0, .nameAndType 48 12), (0, u "REMAINDER"), (0, .integer 2147483647), (0, .methodref 7 51), (0, .nameAndType 52 53), (0, u "isDecidedBy"), (0, u "(I)Z"), (0, .methodref 7 55), (0, .nameAndType 56 57), (0, u "apply"), (0, u "(II)I"), (0, .class_ 59), (0, u "com/example/vertaler/vertaler/core/model/BinaryOperatorIsDecidedByPinLaw"), (2, u "law"), (0, u "(IIII)Z")] 8

def k1m0 : Method := { name := "<init>", desc := "()V", sig := { parameters := [], returnType := none }, accessFlags := 1, code := none }
def k1c1 : Code := { maxStack := 4, maxLocals := 10, code := code, exceptionTable := #[], attributes := #[] }
def k1m1 : Method := { name := "law", desc := "(IIII)Z", sig := { parameters := [.int, .int, .int, .int], returnType := some .boolean }, accessFlags := 9, code := some k1c1 }
/-- com/example/vertaler/vertaler/core/model/BinaryOperatorIsDecidedByPinLaw -/
def k1 : Class := { plain "com/example/vertaler/vertaler/core/model/BinaryOperatorIsDecidedByPinLaw" (some 0) with
  accessFlags := 49
  interfaces := #[]
  cf := some (fileOf pool1 58 #[] #[{ accessFlags := 1, nameIndex := 5, descriptorIndex := 6, attributes := #[] }, { accessFlags := 9, nameIndex := 62, descriptorIndex := 63, attributes := #[] }] 49 2 #[] #[])
  fields := #[]
  methods := #[k1m0, k1m1]
  instanceTypes := #[]
  staticTypes := #[]
  resolved := Array.replicate 72 none
  statics := none }

def pool2 : Array CpInfo := pool [(1, .class_ 2), (0, u "java/lang/constant/Constable"), (0, .class_ 4), (0, u "java/lang/Object")] 6

/-- java/lang/constant/Constable -/
def k2 : Class := { plain "java/lang/constant/Constable" (some 0) with
  accessFlags := 1537
  interfaces := #[]
  cf := some (fileOf pool2 1 #[] #[] 1537 3 #[] #[])
  fields := #[]
  methods := #[]
  instanceTypes := #[]
  staticTypes := #[]
  resolved := Array.replicate 11 none
  statics := none }

def pool3 : Array CpInfo := pool [(1, .class_ 2), (0, u "java/lang/Comparable"), (0, .class_ 4), (0, u "java/lang/Object")] 7

/-- java/lang/Comparable -/
def k3 : Class := { plain "java/lang/Comparable" (some 0) with
  accessFlags := 1537
  interfaces := #[]
  cf := some (fileOf pool3 1 #[] #[] 1537 3 #[] #[])
  fields := #[]
  methods := #[]
  instanceTypes := #[]
  staticTypes := #[]
  resolved := Array.replicate 12 none
  statics := none }

def pool4 : Array CpInfo := pool [(1, .class_ 2), (0, u "java/io/Serializable"), (0, .class_ 4), (0, u "java/lang/Object")] 2

/-- java/io/Serializable -/
def k4 : Class := { plain "java/io/Serializable" (some 0) with
  accessFlags := 1537
  interfaces := #[]
  cf := some (fileOf pool4 1 #[] #[] 1537 3 #[] #[])
  fields := #[]
  methods := #[]
  instanceTypes := #[]
  staticTypes := #[]
  resolved := Array.replicate 7 none
  statics := none }

def pool5 : Array CpInfo := pool [(2, .class_ 4), (1, u "java/lang/Enum"), (0, u "name"), (0, u "Ljava/lang/String;"), (0, .fieldref 2 8), (0, .nameAndType 9 10), (0, u "ordinal"), (0, u "I"), (1, .class_ 14), (1, u "java/lang/Object"), (4, u "hash"), (86, .class_ 108), (1, u "java/lang/Enum$EnumDesc"), (2, .class_ 112), (0, u "java/lang/constant/Constable"), (0, .class_ 114), (0, u "java/lang/Comparable"), (0, .class_ 116), (0, u "java/io/Serializable"), (9, u "()I")] 77

def k5c0 : Code := { maxStack := 1, maxLocals := 1, code := jdk_37_method_2_code, exceptionTable := #[], attributes := #[] }
def k5m0 : Method := { name := "ordinal", desc := "()I", sig := { parameters := [], returnType := some .int }, accessFlags := 17, code := some k5c0 }
/-- java/lang/Enum -/
def k5 : Class := { plain "java/lang/Enum" (some 0) with
  accessFlags := 1057
  interfaces := #[2, 3, 4]
  cf := some (fileOf pool5 2 #[.nestMembers #[106]] #[{ accessFlags := 17, nameIndex := 9, descriptorIndex := 126, attributes := #[] }] 1057 12 #[111, 113, 115] #[{ accessFlags := 18, nameIndex := 5, descriptorIndex := 6, attributes := #[] }, { accessFlags := 18, nameIndex := 9, descriptorIndex := 10, attributes := #[] }, { accessFlags := 2, nameIndex := 19, descriptorIndex := 10, attributes := #[] }])
  fields := #[{ name := "name", type := (.object "java/lang/String"), accessFlags := 18, slot := 0, constantValue := 0 }, { name := "ordinal", type := .int, accessFlags := 18, slot := 1, constantValue := 0 }, { name := "hash", type := .int, accessFlags := 2, slot := 2, constantValue := 0 }]
  methods := #[k5m0]
  instanceTypes := #[(.object "java/lang/String"), .int, .int]
  staticTypes := #[]
  resolved := Array.replicate 204 none
  statics := none }

def pool6 : Array CpInfo := pool [(1, .class_ 2), (0, u "com/example/vertaler/vertaler/core/model/BinaryOperator"), (0, .fieldref 1 4), (0, .nameAndType 5 6), (0, u "OR"), (0, u "Lcom/example/vertaler/vertaler/core/model/BinaryOperator;"), (0, .fieldref 1 8), (0, .nameAndType 9 6), (0, u "AND"), (2, u "EQUAL"), (2, u "NOT_EQUAL"), (2, u "LESS"), (2, u "LESS_OR_EQUAL"), (2, u "GREATER"), (2, u "GREATER_OR_EQUAL"), (2, u "ADD"), (2, u "SUBTRACT"), (2, u "MULTIPLY"), (2, u "DIVIDE"), (2, u "REMAINDER"), (2, u "$VALUES"), (0, u "[Lcom/example/vertaler/vertaler/core/model/BinaryOperator;"), (6, .class_ 55), (1, u "java/lang/Enum"), (8, u "symbol"), (0, u "Ljava/lang/String;"), (2, u "precedence"), (0, u "I"), (2, u "operandType"), (0, u "Lcom/example/vertaler/vertaler/core/model/Type;"), (2, u "resultType"), (0, .methodref 1 78), (0, .nameAndType 79 80), (0, u "ordinal"), (0, u "()I"), (13, u "(II)I"), (116, u "COMPARISON"), (18, u "isDecidedBy"), (0, u "(I)Z"), (0, u "apply")] 29

def k6c0 : Code := { maxStack := 2, maxLocals := 2, code := prog_16_method_9_code, exceptionTable := #[], attributes := #[] }
def k6m0 : Method := { name := "isDecidedBy", desc := "(I)Z", sig := { parameters := [.int], returnType := some .boolean }, accessFlags := 1, code := some k6c0 }
def k6c1 : Code := { maxStack := 5, maxLocals := 5, code := prog_16_method_10_code, exceptionTable := #[], attributes := #[] }
def k6m1 : Method := { name := "apply", desc := "(II)I", sig := { parameters := [.int, .int], returnType := some .int }, accessFlags := 1, code := some k6c1 }
/-- com/example/vertaler/vertaler/core/model/BinaryOperator -/
def k6 : Class := { plain "com/example/vertaler/vertaler/core/model/BinaryOperator" (some 5) with
  accessFlags := 16433
  interfaces := #[]
  cf := some (fileOf pool6 1 #[] #[{ accessFlags := 1, nameIndex := 230, descriptorIndex := 231, attributes := #[] }, { accessFlags := 1, nameIndex := 232, descriptorIndex := 94, attributes := #[] }] 16433 53 #[] #[{ accessFlags := 16409, nameIndex := 5, descriptorIndex := 6, attributes := #[] }, { accessFlags := 16409, nameIndex := 9, descriptorIndex := 6, attributes := #[] }, { accessFlags := 16409, nameIndex := 12, descriptorIndex := 6, attributes := #[] }, { accessFlags := 16409, nameIndex := 15, descriptorIndex := 6, attributes := #[] }, { accessFlags := 16409, nameIndex := 18, descriptorIndex := 6, attributes := #[] }, { accessFlags := 16409, nameIndex := 21, descriptorIndex := 6, attributes := #[] }, { accessFlags := 16409, nameIndex := 24, descriptorIndex := 6, attributes := #[] }, { accessFlags := 16409, nameIndex := 27, descriptorIndex := 6, attributes := #[] }, { accessFlags := 16409, nameIndex := 30, descriptorIndex := 6, attributes := #[] }, { accessFlags := 16409, nameIndex := 33, descriptorIndex := 6, attributes := #[] }, { accessFlags := 16409, nameIndex := 36, descriptorIndex := 6, attributes := #[] }, { accessFlags := 16409, nameIndex := 39, descriptorIndex := 6, attributes := #[] }, { accessFlags := 16409, nameIndex := 42, descriptorIndex := 6, attributes := #[] }, { accessFlags := 26, nameIndex := 211, descriptorIndex := 69, attributes := #[] }, { accessFlags := 18, nameIndex := 64, descriptorIndex := 65, attributes := #[] }, { accessFlags := 18, nameIndex := 68, descriptorIndex := 69, attributes := #[] }, { accessFlags := 18, nameIndex := 72, descriptorIndex := 73, attributes := #[] }, { accessFlags := 18, nameIndex := 76, descriptorIndex := 73, attributes := #[] }, { accessFlags := 4122, nameIndex := 45, descriptorIndex := 46, attributes := #[] }])
  fields := #[{ name := "OR", type := (.object "com/example/vertaler/vertaler/core/model/BinaryOperator"), accessFlags := 16409, slot := 0, constantValue := 0 }, { name := "AND", type := (.object "com/example/vertaler/vertaler/core/model/BinaryOperator"), accessFlags := 16409, slot := 1, constantValue := 0 }, { name := "EQUAL", type := (.object "com/example/vertaler/vertaler/core/model/BinaryOperator"), accessFlags := 16409, slot := 2, constantValue := 0 }, { name := "NOT_EQUAL", type := (.object "com/example/vertaler/vertaler/core/model/BinaryOperator"), accessFlags := 16409, slot := 3, constantValue := 0 }, { name := "LESS", type := (.object "com/example/vertaler/vertaler/core/model/BinaryOperator"), accessFlags := 16409, slot := 4, constantValue := 0 }, { name := "LESS_OR_EQUAL", type := (.object "com/example/vertaler/vertaler/core/model/BinaryOperator"), accessFlags := 16409, slot := 5, constantValue := 0 }, { name := "GREATER", type := (.object "com/example/vertaler/vertaler/core/model/BinaryOperator"), accessFlags := 16409, slot := 6, constantValue := 0 }, { name := "GREATER_OR_EQUAL", type := (.object "com/example/vertaler/vertaler/core/model/BinaryOperator"), accessFlags := 16409, slot := 7, constantValue := 0 }, { name := "ADD", type := (.object "com/example/vertaler/vertaler/core/model/BinaryOperator"), accessFlags := 16409, slot := 8, constantValue := 0 }, { name := "SUBTRACT", type := (.object "com/example/vertaler/vertaler/core/model/BinaryOperator"), accessFlags := 16409, slot := 9, constantValue := 0 }, { name := "MULTIPLY", type := (.object "com/example/vertaler/vertaler/core/model/BinaryOperator"), accessFlags := 16409, slot := 10, constantValue := 0 }, { name := "DIVIDE", type := (.object "com/example/vertaler/vertaler/core/model/BinaryOperator"), accessFlags := 16409, slot := 11, constantValue := 0 }, { name := "REMAINDER", type := (.object "com/example/vertaler/vertaler/core/model/BinaryOperator"), accessFlags := 16409, slot := 12, constantValue := 0 }, { name := "COMPARISON", type := .int, accessFlags := 26, slot := 13, constantValue := 0 }, { name := "symbol", type := (.object "java/lang/String"), accessFlags := 18, slot := 3, constantValue := 0 }, { name := "precedence", type := .int, accessFlags := 18, slot := 4, constantValue := 0 }, { name := "operandType", type := (.object "com/example/vertaler/vertaler/core/model/Type"), accessFlags := 18, slot := 5, constantValue := 0 }, { name := "resultType", type := (.object "com/example/vertaler/vertaler/core/model/Type"), accessFlags := 18, slot := 6, constantValue := 0 }, { name := "$VALUES", type := (.array (.object "com/example/vertaler/vertaler/core/model/BinaryOperator")), accessFlags := 4122, slot := 14, constantValue := 0 }]
  methods := #[k6m0, k6m1]
  instanceTypes := #[(.object "java/lang/String"), .int, .int, (.object "java/lang/String"), .int, (.object "com/example/vertaler/vertaler/core/model/Type"), (.object "com/example/vertaler/vertaler/core/model/Type")]
  staticTypes := #[(.object "com/example/vertaler/vertaler/core/model/BinaryOperator"), (.object "com/example/vertaler/vertaler/core/model/BinaryOperator"), (.object "com/example/vertaler/vertaler/core/model/BinaryOperator"), (.object "com/example/vertaler/vertaler/core/model/BinaryOperator"), (.object "com/example/vertaler/vertaler/core/model/BinaryOperator"), (.object "com/example/vertaler/vertaler/core/model/BinaryOperator"), (.object "com/example/vertaler/vertaler/core/model/BinaryOperator"), (.object "com/example/vertaler/vertaler/core/model/BinaryOperator"), (.object "com/example/vertaler/vertaler/core/model/BinaryOperator"), (.object "com/example/vertaler/vertaler/core/model/BinaryOperator"), (.object "com/example/vertaler/vertaler/core/model/BinaryOperator"), (.object "com/example/vertaler/vertaler/core/model/BinaryOperator"), (.object "com/example/vertaler/vertaler/core/model/BinaryOperator"), .int, (.array (.object "com/example/vertaler/vertaler/core/model/BinaryOperator"))]
  resolved := Array.replicate 262 none
  statics := some 0 }

def pool7 : Array CpInfo := pool [(1, u "java/lang/Cloneable"), (0, .class_ 1), (0, u "java/lang/Object"), (0, .class_ 3)] 3

/-- java/lang/Cloneable -/
def k7 : Class := { plain "java/lang/Cloneable" (some 0) with
  accessFlags := 1537
  interfaces := #[]
  cf := some (fileOf pool7 2 #[] #[] 1537 4 #[] #[])
  fields := #[]
  methods := #[]
  instanceTypes := #[]
  staticTypes := #[]
  resolved := Array.replicate 8 none
  statics := none }

/-- the primitive byte -/
def k8 : Class := { plain "byte" none with kind := .primitive 'B', accessFlags := 0x411 }
/-- [B -/
def k9 : Class := { plain "[B" (some 0) with kind := .array 8 .byte, interfaces := #[7, 4], accessFlags := 1041 }

/-- the primitive int -/
def k10 : Class := { plain "int" none with kind := .primitive 'I', accessFlags := 0x411 }
/-- [I -/
def k11 : Class := { plain "[I" (some 0) with kind := .array 10 .int, interfaces := #[7, 4], accessFlags := 1041 }

/-- [Lcom/example/vertaler/vertaler/core/model/BinaryOperator; -/
def k12 : Class := { plain "[Lcom/example/vertaler/vertaler/core/model/BinaryOperator;" (some 0) with kind := .array 6 (.object "com/example/vertaler/vertaler/core/model/BinaryOperator"), interfaces := #[7, 4], accessFlags := 1041 }

def heap : Heap := #[{ cls := 6, slots := #[.ref 1, .ref 2, .ref 3, .ref 4, .ref 5, .ref 6, .ref 7, .ref 8, .ref 9, .ref 10, .ref 11, .ref 12, .ref 13, .int 0, .null], vm := .statics 6 },
  { cls := 6, slots := #[.null, .int 0, .int 0, .null, .int 0, .null, .null], vm := .none },
  { cls := 6, slots := #[.null, .int 1, .int 0, .null, .int 0, .null, .null], vm := .none },
  { cls := 6, slots := #[.null, .int 2, .int 0, .null, .int 0, .null, .null], vm := .none },
  { cls := 6, slots := #[.null, .int 3, .int 0, .null, .int 0, .null, .null], vm := .none },
  { cls := 6, slots := #[.null, .int 4, .int 0, .null, .int 0, .null, .null], vm := .none },
  { cls := 6, slots := #[.null, .int 5, .int 0, .null, .int 0, .null, .null], vm := .none },
  { cls := 6, slots := #[.null, .int 6, .int 0, .null, .int 0, .null, .null], vm := .none },
  { cls := 6, slots := #[.null, .int 7, .int 0, .null, .int 0, .null, .null], vm := .none },
  { cls := 6, slots := #[.null, .int 8, .int 0, .null, .int 0, .null, .null], vm := .none },
  { cls := 6, slots := #[.null, .int 9, .int 0, .null, .int 0, .null, .null], vm := .none },
  { cls := 6, slots := #[.null, .int 10, .int 0, .null, .int 0, .null, .null], vm := .none },
  { cls := 6, slots := #[.null, .int 11, .int 0, .null, .int 0, .null, .null], vm := .none },
  { cls := 6, slots := #[.null, .int 12, .int 0, .null, .int 0, .null, .null], vm := .none }]
def classes : Array Class := #[k0, k1, k2, k3, k4, k5, k6, k7, k8, k9, k10, k11, k12]
def interned : List (Array UInt16 × Addr) := []
def slotsUsed : Nat := 106
def theMethod : MethodId := ⟨1, 1⟩
def args0 : Array Value := #[.int 5, .int 6, .int 7, .int 8]
def aboutOver (below : List Frame) : State where
  vm := { classes := classes, interned := interned.toArray }
  heap := heap
  slotsUsed := slotsUsed
  threads := #[{ frames := .invoking theMethod args0 :: below }]
def below0 : List Frame := [.native { method := ⟨0, 0⟩, args := #[] }]
def about1 : State := aboutOver below0
def p0 : Program := .bare "" "" ""
def e0 : Env := launch0.env 0 0 0
theorem w_frames : about1.frames = Frame.invoking theMethod args0 :: below0 := rfl
set_option maxRecDepth 65536 in
theorem w_args : argsFit about1.vm theMethod args0 = true := by decide +kernel
set_option maxRecDepth 65536 in
theorem w_heap : heapFits about1 = true := by decide +kernel
set_option maxRecDepth 65536 in
theorem w_runnable : about1.curStatus? = some .runnable := by decide +kernel
set_option maxRecDepth 65536 in
theorem w_alone : about1.alone = true := by decide +kernel
set_option maxRecDepth 65536 in
theorem w_named : about1.methodNamed? x = some theMethod := by decide +kernel
set_option maxRecDepth 65536 in
theorem w_hears : about1.hears theMethod below0 = true := by decide +kernel
set_option maxRecDepth 65536 in
theorem w_ripe : about1.ripe theMethod args0 below0 = true := by decide +kernel
theorem w_running : about1.status = .running := rfl
set_option maxRecDepth 65536 in
theorem w_room : about1.hasRoom e0.platform room_1 = true :=
  launch0.hasRoom_least _ room_1 (by decide +kernel) (by decide +kernel) (by decide +kernel) (by decide +kernel) (by decide +kernel) (by decide +kernel)
theorem allAtoms_all (ts : List Jvm.Cond) (a : Array Jvm.Value) (st : Jvm.State) : (allAtoms ts).before a st = ts.all (fun c => c.before a st) := by
  induction ts with
  | nil => rfl
  | cons c t ih =>
    show (Jvm.Cond.and c (allAtoms t)).before a st = _
    rw [Jvm.Cond.before_and, ih, List.all_cons]
def words1 : List Jvm.Cond := Jvm.Cond.code x code maxLocals ret :: tables_1
/-- a 'code' word, met by the world's own term for the bytes: nothing is compared byte by byte -/
theorem code_word {y : MethodName} {bytes : ByteArray} {mx : Nat} {rt : Option FieldType} {a : Array Value} {s : State} {m : MethodId} {meth : Method} {c : Code} (h1 : s.methodNamed? y = some m) (h2 : s.vm.method? m = some meth) (h3 : meth.code = some c) (h4 : c.code = bytes)
    (h5 : (c.maxLocals == mx && c.exceptionTable.isEmpty && decide (c.maxStack ≤ mostOperands) && decide (meth.sig.returnType = rt) && !meth.locks && decide (parseMethodDescriptor y.desc = some meth.sig)) = true) : (Jvm.Cond.code y bytes mx rt).before a s = true := by
  simp only [Bool.and_eq_true, beq_iff_eq, Bool.not_eq_true', decide_eq_true_eq] at h5
  obtain ⟨⟨⟨⟨⟨g1, g2⟩, g3⟩, g4⟩, g5⟩, g6⟩ := h5
  simp [Cond.before, Cond.holds, Cond.value, h1, h2, h3, h4, g1, g2, g3, g4, g5, g6]
def isCode : Jvm.Cond → Bool
  | .code _ _ _ _ => true
  | _ => false
theorem all_split {L : List Jvm.Cond} {P : Jvm.Cond → Bool} (h1 : L.all (fun c => isCode c || P c) = true) (h2 : ∀ c ∈ L.filter isCode, P c = true) : L.all P = true := by
  refine List.all_eq_true.mpr fun c hc => ?_
  have h := List.all_eq_true.mp h1 c hc
  rcases Bool.eq_false_or_eq_true (isCode c) with hi | hi
  · exact h2 c (List.mem_filter.mpr ⟨hc, hi⟩)
  · simpa [hi] using h
set_option maxRecDepth 65536 in
theorem w_c0 : (Jvm.Cond.code x code maxLocals ret).before args0 about1 = true := code_word (m := ⟨1, 1⟩) (meth := k1m1) (c := k1c1) (by decide +kernel) rfl rfl rfl (by decide +kernel)
set_option maxRecDepth 65536 in
theorem w_c1 : (Jvm.Cond.code ({ cls := "com/example/vertaler/vertaler/core/model/BinaryOperator", name := "isDecidedBy", desc := "(I)Z" } : Jvm.MethodName) prog_16_method_9_code (2 : Nat) (Option.some Jvm.ClassFile.FieldType.boolean)).before args0 about1 = true := code_word (m := ⟨6, 0⟩) (meth := k6m0) (c := k6c0) (by decide +kernel) rfl rfl rfl (by decide +kernel)
set_option maxRecDepth 65536 in
theorem w_c2 : (Jvm.Cond.code ({ cls := "com/example/vertaler/vertaler/core/model/BinaryOperator", name := "apply", desc := "(II)I" } : Jvm.MethodName) prog_16_method_10_code (5 : Nat) (Option.some Jvm.ClassFile.FieldType.int)).before args0 about1 = true := code_word (m := ⟨6, 1⟩) (meth := k6m1) (c := k6c1) (by decide +kernel) rfl rfl rfl (by decide +kernel)
set_option maxRecDepth 65536 in
theorem w_c3 : (Jvm.Cond.code ({ cls := "java/lang/Enum", name := "ordinal", desc := "()I" } : Jvm.MethodName) jdk_37_method_2_code (1 : Nat) (Option.some Jvm.ClassFile.FieldType.int)).before args0 about1 = true := code_word (m := ⟨5, 0⟩) (meth := k5m0) (c := k5c0) (by decide +kernel) rfl rfl rfl (by decide +kernel)
def codes1 : List Jvm.Cond := [Jvm.Cond.code x code maxLocals ret, Jvm.Cond.code ({ cls := "com/example/vertaler/vertaler/core/model/BinaryOperator", name := "isDecidedBy", desc := "(I)Z" } : Jvm.MethodName) prog_16_method_9_code (2 : Nat) (Option.some Jvm.ClassFile.FieldType.boolean), Jvm.Cond.code ({ cls := "com/example/vertaler/vertaler/core/model/BinaryOperator", name := "apply", desc := "(II)I" } : Jvm.MethodName) prog_16_method_10_code (5 : Nat) (Option.some Jvm.ClassFile.FieldType.int), Jvm.Cond.code ({ cls := "java/lang/Enum", name := "ordinal", desc := "()I" } : Jvm.MethodName) jdk_37_method_2_code (1 : Nat) (Option.some Jvm.ClassFile.FieldType.int)]
set_option maxRecDepth 65536 in
theorem codes_eq : words1.filter isCode = codes1 := rfl
theorem w_codes : ∀ c ∈ words1.filter isCode, c.before args0 about1 = true := by
  rw [codes_eq]
  intro c hc
  simp only [codes1, List.mem_cons, List.not_mem_nil, or_false] at hc
  rcases hc with rfl | rfl | rfl | rfl
  · exact w_c0
  · exact w_c1
  · exact w_c2
  · exact w_c3
set_option maxRecDepth 65536 in
theorem w_t1 : (words1.take 24).all (fun c => isCode c || c.before args0 about1) = true := by decide +kernel
set_option maxRecDepth 65536 in
theorem w_t2 : ((words1.drop 24).take 24).all (fun c => isCode c || c.before args0 about1) = true := by decide +kernel
set_option maxRecDepth 65536 in
theorem w_t3 : ((words1.drop 24).drop 24).all (fun c => isCode c || c.before args0 about1) = true := by decide +kernel
theorem w_tables : (allAtoms (Jvm.Cond.code x code maxLocals ret :: tables_1)).before args0 about1 = true := by
  rw [allAtoms_all]
  show words1.all (fun c => c.before args0 about1) = true
  refine all_split ?_ w_codes
  rw [← List.take_append_drop 24 words1, List.all_append, w_t1, ← List.take_append_drop 24 (words1.drop 24), List.all_append, w_t2, w_t3]
  rfl
set_option maxRecDepth 65536 in
theorem w_case : (Jvm.Cond.and given_1 narrow_1).before args0 about1 = true := by decide +kernel
theorem w_applies : (headSpec (Jvm.Cond.code x code maxLocals ret :: tables_1) room_1).applies x e0.platform about1 = true :=
  (Spec.applies_iff w_frames).mpr ⟨w_running, w_runnable, w_alone, w_named, w_hears, w_ripe, w_room, w_tables⟩
theorem atStart : AtStart classFile x code maxLocals ret World_1 tables_1 room_1 Calls_1 rest_1 Pre_1 launch0 p0 e0 about1 theMethod args0 below0 :=
  ⟨lists_1, trivial, launch0.admits_env _ _ _, launch0.least_env, fairChoices_fair.cas, fairChoices_fair.clock, w_frames, w_args, w_heap, w_applies, trivial, trivial, w_case⟩
end start1
theorem witness_1 : WitnessClaimed_1 := ⟨start1.p0, start1.e0, start1.about1, start1.theMethod, start1.args0, start1.below0, start1.atStart⟩
end Jvm.Pilot.@@N@@
