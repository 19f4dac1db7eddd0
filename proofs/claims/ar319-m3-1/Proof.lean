import JvmDerived
import JvmDerived.Pilot.@@N@@Statement
import JvmDerived.Pilot.@@N@@Code
set_option linter.unusedVariables false
set_option linter.unusedSimpArgs false
namespace Jvm.Pilot.@@N@@
open Jvm Jvm.ClassFile Sem Op Lib Jvm.Free Jvm.Stand Jvm.LawKit Jvm.RoadKit Bundle Jvm.Pilot.@@N@@.Jvm.D
/-- from A the run comes to wherever it comes from B -/
def Lead (p : Program) (e : Env) (below : List Frame) (A B : State) : Prop := ∀ t, Steps p.tables e below A t → Steps p.tables e below B t
theorem own_lcl (x y : Int64) : lcmpW x y < 0 ↔ x < y := by rw [lcW]; exact lc_lt x y
theorem own_lcg (x y : Int64) : 0 < lcmpW x y ↔ y < x := by rw [lcW]; exact lc_gt x y
theorem own_lce (x y : Int64) : lcmpW x y = 0 ↔ x = y := by rw [lcW]; exact lc_eq x y
theorem pn_0 : plainName "com/example/durable_dispatch/durabledispatch/http/HttpHeadIsTokenBytePinLaw" = true := by first | (simp [plainName, overriddenIn]; done) | decide +kernel
theorem pd_0 : parseMethodDescriptor "(I)Z" = some ⟨[.int], some .boolean⟩ := by decide +kernel
theorem d1_0 : decode prog_30_method_26_code 0 = .ok (.iload_n 0, 1) := by decide +kernel
theorem d1_1 : decode prog_30_method_26_code 1 = .ok (.ifCond .lt 15, 3) := by decide +kernel
theorem d1_4 : decode prog_30_method_26_code 4 = .ok (.getstatic 252, 3) := by decide +kernel
theorem d1_7 : decode prog_30_method_26_code 7 = .ok (.iload_n 0, 1) := by decide +kernel
theorem d1_8 : decode prog_30_method_26_code 8 = .ok (.baload, 1) := by decide +kernel
theorem d1_9 : decode prog_30_method_26_code 9 = .ok (.ifCond .eq 7, 3) := by decide +kernel
theorem d1_12 : decode prog_30_method_26_code 12 = .ok (.iconst 1, 1) := by decide +kernel
theorem d1_13 : decode prog_30_method_26_code 13 = .ok (.goto 4, 3) := by decide +kernel
theorem d1_16 : decode prog_30_method_26_code 16 = .ok (.iconst 0, 1) := by decide +kernel
theorem d1_17 : decode prog_30_method_26_code 17 = .ok (.ireturn, 1) := by decide +kernel
theorem pn_1 : plainName "com/example/durable_dispatch/durabledispatch/http/HttpHead" = true := by first | (simp [plainName, overriddenIn]; done) | decide +kernel
theorem pd_1 : parseMethodDescriptor "(B)Z" = some ⟨[.byte], some .boolean⟩ := by decide +kernel
theorem d2_0 : decode method_3_code 0 = .ok (.iload_n 0, 1) := by decide +kernel
theorem d2_1 : decode method_3_code 1 = .ok (.bipush 97, 2) := by decide +kernel
theorem d2_3 : decode method_3_code 3 = .ok (.if_icmp .lt 11, 3) := by decide +kernel
theorem d2_6 : decode method_3_code 6 = .ok (.iload_n 0, 1) := by decide +kernel
theorem d2_7 : decode method_3_code 7 = .ok (.bipush 122, 2) := by decide +kernel
theorem d2_9 : decode method_3_code 9 = .ok (.if_icmp .gt 5, 3) := by decide +kernel
theorem d2_12 : decode method_3_code 12 = .ok (.iconst 1, 1) := by decide +kernel
theorem d2_13 : decode method_3_code 13 = .ok (.ireturn, 1) := by decide +kernel
theorem d2_14 : decode method_3_code 14 = .ok (.iload_n 0, 1) := by decide +kernel
theorem d2_15 : decode method_3_code 15 = .ok (.bipush 65, 2) := by decide +kernel
theorem d2_17 : decode method_3_code 17 = .ok (.if_icmp .lt 11, 3) := by decide +kernel
theorem d2_20 : decode method_3_code 20 = .ok (.iload_n 0, 1) := by decide +kernel
theorem d2_21 : decode method_3_code 21 = .ok (.bipush 90, 2) := by decide +kernel
theorem d2_23 : decode method_3_code 23 = .ok (.if_icmp .gt 5, 3) := by decide +kernel
theorem d2_26 : decode method_3_code 26 = .ok (.iconst 1, 1) := by decide +kernel
theorem d2_27 : decode method_3_code 27 = .ok (.ireturn, 1) := by decide +kernel
theorem d2_28 : decode method_3_code 28 = .ok (.iload_n 0, 1) := by decide +kernel
theorem d2_29 : decode method_3_code 29 = .ok (.bipush 48, 2) := by decide +kernel
theorem d2_31 : decode method_3_code 31 = .ok (.if_icmp .lt 11, 3) := by decide +kernel
theorem d2_34 : decode method_3_code 34 = .ok (.iload_n 0, 1) := by decide +kernel
theorem d2_35 : decode method_3_code 35 = .ok (.bipush 57, 2) := by decide +kernel
theorem d2_37 : decode method_3_code 37 = .ok (.if_icmp .gt 5, 3) := by decide +kernel
theorem d2_40 : decode method_3_code 40 = .ok (.iconst 1, 1) := by decide +kernel
theorem d2_41 : decode method_3_code 41 = .ok (.ireturn, 1) := by decide +kernel
theorem d2_42 : decode method_3_code 42 = .ok (.iload_n 0, 1) := by decide +kernel
theorem d2_43 : decode method_3_code 43 = .ok (.bipush 33, 2) := by decide +kernel
theorem d2_45 : decode method_3_code 45 = .ok (.if_icmp .eq 87, 3) := by decide +kernel
theorem d2_48 : decode method_3_code 48 = .ok (.iload_n 0, 1) := by decide +kernel
theorem d2_49 : decode method_3_code 49 = .ok (.bipush 35, 2) := by decide +kernel
theorem d2_51 : decode method_3_code 51 = .ok (.if_icmp .eq 81, 3) := by decide +kernel
theorem d2_54 : decode method_3_code 54 = .ok (.iload_n 0, 1) := by decide +kernel
theorem d2_55 : decode method_3_code 55 = .ok (.bipush 36, 2) := by decide +kernel
theorem d2_57 : decode method_3_code 57 = .ok (.if_icmp .eq 75, 3) := by decide +kernel
theorem d2_60 : decode method_3_code 60 = .ok (.iload_n 0, 1) := by decide +kernel
theorem d2_61 : decode method_3_code 61 = .ok (.bipush 37, 2) := by decide +kernel
theorem d2_63 : decode method_3_code 63 = .ok (.if_icmp .eq 69, 3) := by decide +kernel
theorem d2_66 : decode method_3_code 66 = .ok (.iload_n 0, 1) := by decide +kernel
theorem d2_67 : decode method_3_code 67 = .ok (.bipush 38, 2) := by decide +kernel
theorem d2_69 : decode method_3_code 69 = .ok (.if_icmp .eq 63, 3) := by decide +kernel
theorem d2_72 : decode method_3_code 72 = .ok (.iload_n 0, 1) := by decide +kernel
theorem d2_73 : decode method_3_code 73 = .ok (.bipush 39, 2) := by decide +kernel
theorem d2_75 : decode method_3_code 75 = .ok (.if_icmp .eq 57, 3) := by decide +kernel
theorem d2_78 : decode method_3_code 78 = .ok (.iload_n 0, 1) := by decide +kernel
theorem d2_79 : decode method_3_code 79 = .ok (.bipush 42, 2) := by decide +kernel
theorem d2_81 : decode method_3_code 81 = .ok (.if_icmp .eq 51, 3) := by decide +kernel
theorem d2_84 : decode method_3_code 84 = .ok (.iload_n 0, 1) := by decide +kernel
theorem d2_85 : decode method_3_code 85 = .ok (.bipush 43, 2) := by decide +kernel
theorem d2_87 : decode method_3_code 87 = .ok (.if_icmp .eq 45, 3) := by decide +kernel
theorem d2_90 : decode method_3_code 90 = .ok (.iload_n 0, 1) := by decide +kernel
theorem d2_91 : decode method_3_code 91 = .ok (.bipush 45, 2) := by decide +kernel
theorem d2_93 : decode method_3_code 93 = .ok (.if_icmp .eq 39, 3) := by decide +kernel
theorem d2_96 : decode method_3_code 96 = .ok (.iload_n 0, 1) := by decide +kernel
theorem d2_97 : decode method_3_code 97 = .ok (.bipush 46, 2) := by decide +kernel
theorem d2_99 : decode method_3_code 99 = .ok (.if_icmp .eq 33, 3) := by decide +kernel
theorem d2_102 : decode method_3_code 102 = .ok (.iload_n 0, 1) := by decide +kernel
theorem d2_103 : decode method_3_code 103 = .ok (.bipush 94, 2) := by decide +kernel
theorem d2_105 : decode method_3_code 105 = .ok (.if_icmp .eq 27, 3) := by decide +kernel
theorem d2_108 : decode method_3_code 108 = .ok (.iload_n 0, 1) := by decide +kernel
theorem d2_109 : decode method_3_code 109 = .ok (.bipush 95, 2) := by decide +kernel
theorem d2_111 : decode method_3_code 111 = .ok (.if_icmp .eq 21, 3) := by decide +kernel
theorem d2_114 : decode method_3_code 114 = .ok (.iload_n 0, 1) := by decide +kernel
theorem d2_115 : decode method_3_code 115 = .ok (.bipush 96, 2) := by decide +kernel
theorem d2_117 : decode method_3_code 117 = .ok (.if_icmp .eq 15, 3) := by decide +kernel
theorem d2_120 : decode method_3_code 120 = .ok (.iload_n 0, 1) := by decide +kernel
theorem d2_121 : decode method_3_code 121 = .ok (.bipush 124, 2) := by decide +kernel
theorem d2_123 : decode method_3_code 123 = .ok (.if_icmp .eq 9, 3) := by decide +kernel
theorem d2_126 : decode method_3_code 126 = .ok (.iload_n 0, 1) := by decide +kernel
theorem d2_127 : decode method_3_code 127 = .ok (.bipush 126, 2) := by decide +kernel
theorem d2_129 : decode method_3_code 129 = .ok (.if_icmp .ne 7, 3) := by decide +kernel
theorem d2_132 : decode method_3_code 132 = .ok (.iconst 1, 1) := by decide +kernel
theorem d2_133 : decode method_3_code 133 = .ok (.goto 4, 3) := by decide +kernel
theorem d2_136 : decode method_3_code 136 = .ok (.iconst 0, 1) := by decide +kernel
theorem d2_137 : decode method_3_code 137 = .ok (.ireturn, 1) := by decide +kernel
theorem pn_2 : plainName "com/example/durable_dispatch/durabledispatch/http/HttpHeadIsTokenBytePinLaw" = true := by first | (simp [plainName, overriddenIn]; done) | decide +kernel
theorem pd_2 : parseMethodDescriptor "(I)Z" = some ⟨[.int], some .boolean⟩ := by decide +kernel

abbrev expC (c : Int32) : Prop := (97 ≤ c.toInt ∧ c.toInt ≤ 122) ∨ (65 ≤ c.toInt ∧ c.toInt ≤ 90) ∨ (48 ≤ c.toInt ∧ c.toInt ≤ 57) ∨ c.toInt = 33 ∨ c.toInt = 35 ∨ c.toInt = 36 ∨ c.toInt = 37 ∨ c.toInt = 38 ∨ c.toInt = 39 ∨ c.toInt = 42 ∨ c.toInt = 43 ∨ c.toInt = 45 ∨ c.toInt = 46 ∨ c.toInt = 94 ∨ c.toInt = 95 ∨ c.toInt = 96 ∨ c.toInt = 124 ∨ c.toInt = 126
def expV (c : Int32) : Int32 := if expC c then 1 else 0
theorem own_e1 {c : Int32} (h : expC c) : expV c = 1 := if_pos h
theorem own_e0 {c : Int32} (h : ¬ expC c) : expV c = 0 := if_neg h
theorem own_exp1 {c : Int32} (h : ¬ expV c = 0) : expV c = 1 := by
  by_cases q : expC c
  · exact own_e1 q
  · exact absurd (own_e0 q) h
def tkV (c : Int32) : Int32 := if c < 0 then 0 else expV c
theorem own_lt {c k : Int32} {n : Int} (hk : k.toInt = n) (h : c < k) : c.toInt < n := by rw [Int32.lt_iff_toInt_lt, hk] at h; exact h
theorem own_nlt {c k : Int32} {n : Int} (hk : k.toInt = n) (h : ¬ c < k) : ¬ c.toInt < n := by rw [Int32.lt_iff_toInt_lt, hk] at h; exact h
theorem own_gt {c k : Int32} {n : Int} (hk : k.toInt = n) (h : k < c) : n < c.toInt := by rw [Int32.lt_iff_toInt_lt, hk] at h; exact h
theorem own_ngt {c k : Int32} {n : Int} (hk : k.toInt = n) (h : ¬ k < c) : ¬ n < c.toInt := by rw [Int32.lt_iff_toInt_lt, hk] at h; exact h
theorem own_eq {c k : Int32} {n : Int} (hk : k.toInt = n) (h : c = k) : c.toInt = n := by rw [h, hk]
theorem own_neq {c k : Int32} {n : Int} (hk : k.toInt = n) (h : ¬ c = k) : ¬ c.toInt = n := by rw [← hk]; exact fun q => h (Int32.toInt_inj.mp q)
theorem own_tk {c : Int32} : tkV c = expV c := by
  by_cases h : c < 0
  · have := own_lt (n := 0) (by decide) h
    rw [tkV, if_pos h, own_e0 (by unfold expC; omega)]
  · rw [tkV, if_neg h]
def Q1 (Z : State) (p1 : Int32) (h0 : Heap) (n0 : Nat) (v : Option Value) (h : Heap) (L : List Loc) : Prop := v = some (.int (tkV p1)) ∧ Fr n0 L ∧ h = h0
theorem ef_1 (m : MethodId) (p1 : Int32) : entryFrame m #[(.int p1)] 1 = mkF m 0 #[.val (.int p1)] [] := by first | (simp [entryFrame, mkF, argsToLocals, Value.category]; done) | rfl
set_option maxRecDepth 65536 in
set_option maxHeartbeats 40000000 in
theorem rm1 (l : Launch) (Z : State) (a0 : Array Value) (hw : ∀ d ∈ tables_1, d.before a0 Z = true) (ws : List Jvm.Cond) (p1 : Int32) (ta : Addr) (cl : Cell) (h0 : Heap) (n0 : Nat) (Z0 : n0 ≤ h0.size) (S1 : Sta Z h0 "com/example/durable_dispatch/durabledispatch/http/HttpHead" "TOKEN_BYTES" "[Z" (.ref ta)) (Ar : Arr Z h0 ta cl .boolean) (hin : ¬ p1 < 0 → ¬ (p1 < 0 ∨ cl.slots.size ≤ p1.toNatClampNeg)) (hat : ¬ p1 < 0 → cl.slots[p1.toNatClampNeg]? = some (.int (expV p1))) :
    MetFree l (⟨"com/example/durable_dispatch/durabledispatch/http/HttpHead", "isTokenByte", "(B)Z"⟩ : MethodName) (head1 (Jvm.Cond.code (⟨"com/example/durable_dispatch/durabledispatch/http/HttpHead", "isTokenByte", "(B)Z"⟩ : MethodName) prog_30_method_26_code 1 (some .boolean) :: ws) ({ frames := 0, cells := 0, slots := 0, locals := 0 } : Room)) (fun a U => a = #[(.int p1)] ∧ Z.Warmed39 U.vm ∧ U.heap = h0) (fun _ _ _ _ _ => True) (fun _ U o U' => ∃ v L, o = .returned v ∧ Q1 Z p1 h0 n0 v U'.heap L ∧ FrameEnd U o U' L ({ frames := 0, cells := 0, slots := 0, locals := 0 } : Room).cells ({ frames := 0, cells := 0, slots := 0, locals := 0 } : Room).slots) := by
  refine MetFree.of_bodySF (plainFor_of_name pn_1) hisR ?_
  intro p e s m args below meth c s₁ Bd hml0 hP hK
  obtain ⟨rfl, hZ, hh⟩ := hP
  have hx := Bd.exec
  have hby := Bd.bytes
  have hml : c.maxLocals = 1 := hml0
  have hown : s.vm.findClass "com/example/durable_dispatch/durabledispatch/http/HttpHead" = some m.cls := findClass_of_methodNamed Bd.named
  have hnm := (name_of_methodNamed Bd.named Bd.method).1
  have X0 : Stand p l e ({ frames := 0, cells := 0, slots := 0, locals := 0 } : Room) s m #[(.int p1)] below meth c s₁ [] 0 0 := Stand.of_body Bd
  have e0 : s₁.heap = h0 := by rw [← hh, Bd.state]; rfl
  have N0 := Fr.nil n0
  have pre0 : Lead p e below (s₁.setTop (mkF m 0 #[.val (.int p1)] [])) (s₁.setTop (entryFrame m #[(.int p1)] 1)) := fun t k => castTop (ef_1 m p1) k
  have pre1 : Lead p e below (s₁.setTop (mkF m 1 #[.val (.int p1)] [(.int p1)])) (s₁.setTop (entryFrame m #[(.int p1)] 1)) := fun t k => by
    refine pre0 t ?_
    refine XS.iloadN X0.here hx rfl (hb hby d1_0) rfl ?_
    show Steps p.tables e below (s₁.setTop (mkF m 1 #[.val (.int p1)] [(.int p1)])) _
    exact k
  by_cases h1 : p1 < (0 : Int32)
  · skip
    have pre2 : Lead p e below (s₁.setTop (mkF m 17 #[.val (.int p1)] [(.int (0 : Int32))])) (s₁.setTop (entryFrame m #[(.int p1)] 1)) := fun t k => by
      refine pre1 t ?_
      refine XS.ifYes X0.here hx rfl (pc0 := 1) (pc' := 16) rfl (hb hby d1_1) rfl ((if0 _ _).trans (tlt h1).1) (by decide) (by decide) ?_
      show Steps p.tables e below (s₁.setTop (mkF m 16 #[.val (.int p1)] [])) _
      refine XS.iconst X0.here hx rfl (hb hby d1_16) ?_
      show Steps p.tables e below (s₁.setTop (mkF m 17 #[.val (.int p1)] [(.int (0 : Int32))])) _
      exact k
    obtain ⟨fs, hr, hrun, hended, hW, hsame⟩ := X0.leave (v := some (.int (0 : Int32))) (fun h => by rw [Bd.returns] at h; cases h)
    refine ⟨_, _, pre2 _ ?_, hrun, hended, _, _, rfl, ?_, ⟨_, rfl⟩, hW, hsame.mono (by decide) (by decide)⟩
    · exact retN X0 hx (t := .boolean) Bd.returns (by simp) (hb hby d1_17) hr
    · show Q1 Z p1 h0 n0 _ s₁.heap _
      rw [e0]
      exact ⟨by rw [tkV, if_pos h1], N0, rfl⟩
  · skip
    obtain ⟨T3, X3, e3, st3⟩ := getS2 X0 hx hZ hown (host := "") (Or.inl (hw _ (List.mem_of_getElem? (i := 4) rfl))) Via.refl e0 S1 (g := (mkF m 4 #[.val (.int p1)] [])) rfl (hb hby d1_4)
    have pre4 : Lead p e below (T3.setTop (mkF m 9 #[.val (.int p1)] [(.int (expV p1))])) (s₁.setTop (entryFrame m #[(.int p1)] 1)) := fun t k => by
      refine pre1 t ?_
      refine XS.ifNo X0.here hx rfl (hb hby d1_1) rfl ((if0 _ _).trans (flt h1).1) ?_
      show Steps p.tables e below (s₁.setTop (mkF m 4 #[.val (.int p1)] [])) _
      refine st3 _ ?_
      show Steps p.tables e below (T3.setTop (mkF m 7 #[.val (.int p1)] [(.ref ta)])) _
      refine XS.iloadN X3.here hx rfl (hb hby d1_7) rfl ?_
      show Steps p.tables e below (T3.setTop (mkF m 8 #[.val (.int p1)] [(.int p1), (.ref ta)])) _
      refine X3.baloadBooleans hx (j := p1) (v := .int (expV p1)) (by rw [e3]; exact Ar.1) (State.isArrayOf_alike hZ.alike Ar.2.1) Ar.2.2 (hin h1) (hat h1) (g := (mkF m 8 #[.val (.int p1)] [(.int p1), (.ref ta)])) rfl rfl (hb hby d1_8) _ ?_
      show Steps p.tables e below (T3.setTop (mkF m 9 #[.val (.int p1)] [(.int (expV p1))])) _
      exact k
    by_cases h2 : (expV p1) = (0 : Int32)
    · skip
      have pre5 : Lead p e below (T3.setTop (mkF m 17 #[.val (.int p1)] [(.int (0 : Int32))])) (s₁.setTop (entryFrame m #[(.int p1)] 1)) := fun t k => by
        refine pre4 t ?_
        refine XS.ifYes X3.here hx rfl (pc0 := 9) (pc' := 16) rfl (hb hby d1_9) rfl ((if0 _ _).trans (teq h2).1) (by decide) (by decide) ?_
        show Steps p.tables e below (T3.setTop (mkF m 16 #[.val (.int p1)] [])) _
        refine XS.iconst X3.here hx rfl (hb hby d1_16) ?_
        show Steps p.tables e below (T3.setTop (mkF m 17 #[.val (.int p1)] [(.int (0 : Int32))])) _
        exact k
      obtain ⟨fs, hr, hrun, hended, hW, hsame⟩ := X3.leave (v := some (.int (0 : Int32))) (fun h => by rw [Bd.returns] at h; cases h)
      refine ⟨_, _, pre5 _ ?_, hrun, hended, _, _, rfl, ?_, ⟨_, rfl⟩, hW, hsame.mono (by decide) (by decide)⟩
      · exact retN X3 hx (t := .boolean) Bd.returns (by simp) (hb hby d1_17) hr
      · show Q1 Z p1 h0 n0 _ T3.heap _
        rw [e3]
        exact ⟨by rw [tkV, if_neg h1, h2], N0, rfl⟩
    · skip
      have pre6 : Lead p e below (T3.setTop (mkF m 17 #[.val (.int p1)] [(.int (1 : Int32))])) (s₁.setTop (entryFrame m #[(.int p1)] 1)) := fun t k => by
        refine pre4 t ?_
        refine XS.ifNo X3.here hx rfl (hb hby d1_9) rfl ((if0 _ _).trans (feq h2).1) ?_
        show Steps p.tables e below (T3.setTop (mkF m 12 #[.val (.int p1)] [])) _
        refine XS.iconst X3.here hx rfl (hb hby d1_12) ?_
        show Steps p.tables e below (T3.setTop (mkF m 13 #[.val (.int p1)] [(.int (1 : Int32))])) _
        refine XS.goto X3.here hx rfl (pc0 := 13) (pc' := 17) rfl (hb hby d1_13) (by decide) (by decide) ?_
        show Steps p.tables e below (T3.setTop (mkF m 17 #[.val (.int p1)] [(.int (1 : Int32))])) _
        exact k
      obtain ⟨fs, hr, hrun, hended, hW, hsame⟩ := X3.leave (v := some (.int (1 : Int32))) (fun h => by rw [Bd.returns] at h; cases h)
      refine ⟨_, _, pre6 _ ?_, hrun, hended, _, _, rfl, ?_, ⟨_, rfl⟩, hW, hsame.mono (by decide) (by decide)⟩
      · exact retN X3 hx (t := .boolean) Bd.returns (by simp) (hb hby d1_17) hr
      · show Q1 Z p1 h0 n0 _ T3.heap _
        rw [e3]
        exact ⟨by rw [tkV, if_neg h1, own_exp1 h2], N0, rfl⟩
def Q2 (Z : State) (p1 : Int32) (h0 : Heap) (n0 : Nat) (v : Option Value) (h : Heap) (L : List Loc) : Prop := v = some (.int (expV p1)) ∧ Fr n0 L ∧ h = h0
theorem ef_2 (m : MethodId) (p1 : Int32) : entryFrame m #[(.int p1)] 1 = mkF m 0 #[.val (.int p1)] [] := by first | (simp [entryFrame, mkF, argsToLocals, Value.category]; done) | rfl
set_option maxRecDepth 65536 in
set_option maxHeartbeats 40000000 in
theorem rm2 (l : Launch) (Z : State) (a0 : Array Value) (hw : ∀ d ∈ tables_1, d.before a0 Z = true) (ws : List Jvm.Cond) (p1 : Int32) (h0 : Heap) (n0 : Nat) (Z0 : n0 ≤ h0.size) :
    MetFree l (⟨"com/example/durable_dispatch/durabledispatch/http/HttpHeadIsTokenBytePinLaw", "expected", "(I)Z"⟩ : MethodName) (head1 (Jvm.Cond.code (⟨"com/example/durable_dispatch/durabledispatch/http/HttpHeadIsTokenBytePinLaw", "expected", "(I)Z"⟩ : MethodName) method_3_code 1 (some .boolean) :: ws) ({ frames := 0, cells := 0, slots := 0, locals := 0 } : Room)) (fun a U => a = #[(.int p1)] ∧ Z.Warmed39 U.vm ∧ U.heap = h0) (fun _ _ _ _ _ => True) (fun _ U o U' => ∃ v L, o = .returned v ∧ Q2 Z p1 h0 n0 v U'.heap L ∧ FrameEnd U o U' L ({ frames := 0, cells := 0, slots := 0, locals := 0 } : Room).cells ({ frames := 0, cells := 0, slots := 0, locals := 0 } : Room).slots) := by
  refine MetFree.of_bodySF (plainFor_of_name pn_2) hisR ?_
  intro p e s m args below meth c s₁ Bd hml0 hP hK
  obtain ⟨rfl, hZ, hh⟩ := hP
  have hx := Bd.exec
  have hby := Bd.bytes
  have hml : c.maxLocals = 1 := hml0
  have hown : s.vm.findClass "com/example/durable_dispatch/durabledispatch/http/HttpHeadIsTokenBytePinLaw" = some m.cls := findClass_of_methodNamed Bd.named
  have hnm := (name_of_methodNamed Bd.named Bd.method).1
  have X0 : Stand p l e ({ frames := 0, cells := 0, slots := 0, locals := 0 } : Room) s m #[(.int p1)] below meth c s₁ [] 0 0 := Stand.of_body Bd
  have e0 : s₁.heap = h0 := by rw [← hh, Bd.state]; rfl
  have N0 := Fr.nil n0
  have pre0 : Lead p e below (s₁.setTop (mkF m 0 #[.val (.int p1)] [])) (s₁.setTop (entryFrame m #[(.int p1)] 1)) := fun t k => castTop (ef_2 m p1) k
  by_cases g0 : ¬ p1 < (97 : Int32) ∧ ¬ (122 : Int32) < p1
  · skip
    have t0 := own_nlt (n := 97) (by decide) g0.1
    have v0 := own_ngt (n := 122) (by decide) g0.2
    have pre7 : Lead p e below (s₁.setTop (mkF m 13 #[.val (.int p1)] [(.int (1 : Int32))])) (s₁.setTop (entryFrame m #[(.int p1)] 1)) := fun t k => by
      refine pre0 t ?_
      refine XS.iloadN X0.here hx rfl (hb hby d2_0) rfl ?_
      show Steps p.tables e below (s₁.setTop (mkF m 1 #[.val (.int p1)] [(.int p1)])) _
      refine XS.bipush X0.here hx rfl (hb hby d2_1) ?_
      show Steps p.tables e below (s₁.setTop (mkF m 3 #[.val (.int p1)] [(.int (97 : Int32)), (.int p1)])) _
      refine XS.icmpNo X0.here hx rfl (hb hby d2_3) rfl (flt g0.1).1 ?_
      show Steps p.tables e below (s₁.setTop (mkF m 6 #[.val (.int p1)] [])) _
      refine XS.iloadN X0.here hx rfl (hb hby d2_6) rfl ?_
      show Steps p.tables e below (s₁.setTop (mkF m 7 #[.val (.int p1)] [(.int p1)])) _
      refine XS.bipush X0.here hx rfl (hb hby d2_7) ?_
      show Steps p.tables e below (s₁.setTop (mkF m 9 #[.val (.int p1)] [(.int (122 : Int32)), (.int p1)])) _
      refine XS.icmpNo X0.here hx rfl (hb hby d2_9) rfl (flt g0.2).2.2.1 ?_
      show Steps p.tables e below (s₁.setTop (mkF m 12 #[.val (.int p1)] [])) _
      refine XS.iconst X0.here hx rfl (hb hby d2_12) ?_
      show Steps p.tables e below (s₁.setTop (mkF m 13 #[.val (.int p1)] [(.int (1 : Int32))])) _
      exact k
    obtain ⟨fs, hr, hrun, hended, hW, hsame⟩ := X0.leave (v := some (.int (1 : Int32))) (fun h => by rw [Bd.returns] at h; cases h)
    refine ⟨_, _, pre7 _ ?_, hrun, hended, _, _, rfl, ?_, ⟨_, rfl⟩, hW, hsame.mono (by decide) (by decide)⟩
    · exact retN X0 hx (t := .boolean) Bd.returns (by simp) (hb hby d2_13) hr
    · show Q2 Z p1 h0 n0 _ s₁.heap _
      rw [e0]
      exact ⟨by rw [own_e1 (by unfold expC; omega)], N0, rfl⟩
  · skip
    have t0 : ¬ (¬ p1.toInt < 97 ∧ ¬ 122 < p1.toInt) := fun q => g0 ⟨fun r => q.1 (own_lt (by decide) r), fun r => q.2 (own_gt (by decide) r)⟩
    have pre_14 : Lead p e below (s₁.setTop (mkF m 14 #[.val (.int p1)] [])) (s₁.setTop (entryFrame m #[(.int p1)] 1)) := by
      have pre8 : Lead p e below (s₁.setTop (mkF m 3 #[.val (.int p1)] [(.int (97 : Int32)), (.int p1)])) (s₁.setTop (entryFrame m #[(.int p1)] 1)) := fun t k => by
        refine pre0 t ?_
        refine XS.iloadN X0.here hx rfl (hb hby d2_0) rfl ?_
        show Steps p.tables e below (s₁.setTop (mkF m 1 #[.val (.int p1)] [(.int p1)])) _
        refine XS.bipush X0.here hx rfl (hb hby d2_1) ?_
        show Steps p.tables e below (s₁.setTop (mkF m 3 #[.val (.int p1)] [(.int (97 : Int32)), (.int p1)])) _
        exact k
      by_cases r1 : p1 < (97 : Int32)
      · skip
        have pre9 : Lead p e below (s₁.setTop (mkF m 14 #[.val (.int p1)] [])) (s₁.setTop (entryFrame m #[(.int p1)] 1)) := fun t k => by
          refine pre8 t ?_
          refine XS.icmpYes X0.here hx rfl (pc0 := 3) (pc' := 14) rfl (hb hby d2_3) rfl (tlt r1).1 (by decide) (by decide) ?_
          show Steps p.tables e below (s₁.setTop (mkF m 14 #[.val (.int p1)] [])) _
          exact k
        exact pre9
      · skip
        have r2 : (122 : Int32) < p1 := Decidable.byContradiction fun r => g0 ⟨r1, r⟩
        have pre10 : Lead p e below (s₁.setTop (mkF m 14 #[.val (.int p1)] [])) (s₁.setTop (entryFrame m #[(.int p1)] 1)) := fun t k => by
          refine pre8 t ?_
          refine XS.icmpNo X0.here hx rfl (hb hby d2_3) rfl (flt r1).1 ?_
          show Steps p.tables e below (s₁.setTop (mkF m 6 #[.val (.int p1)] [])) _
          refine XS.iloadN X0.here hx rfl (hb hby d2_6) rfl ?_
          show Steps p.tables e below (s₁.setTop (mkF m 7 #[.val (.int p1)] [(.int p1)])) _
          refine XS.bipush X0.here hx rfl (hb hby d2_7) ?_
          show Steps p.tables e below (s₁.setTop (mkF m 9 #[.val (.int p1)] [(.int (122 : Int32)), (.int p1)])) _
          refine XS.icmpYes X0.here hx rfl (pc0 := 9) (pc' := 14) rfl (hb hby d2_9) rfl (tlt r2).2.2.1 (by decide) (by decide) ?_
          show Steps p.tables e below (s₁.setTop (mkF m 14 #[.val (.int p1)] [])) _
          exact k
        exact pre10
    by_cases g1 : ¬ p1 < (65 : Int32) ∧ ¬ (90 : Int32) < p1
    · skip
      have t1 := own_nlt (n := 65) (by decide) g1.1
      have v1 := own_ngt (n := 90) (by decide) g1.2
      have pre11 : Lead p e below (s₁.setTop (mkF m 27 #[.val (.int p1)] [(.int (1 : Int32))])) (s₁.setTop (entryFrame m #[(.int p1)] 1)) := fun t k => by
        refine pre_14 t ?_
        refine XS.iloadN X0.here hx rfl (hb hby d2_14) rfl ?_
        show Steps p.tables e below (s₁.setTop (mkF m 15 #[.val (.int p1)] [(.int p1)])) _
        refine XS.bipush X0.here hx rfl (hb hby d2_15) ?_
        show Steps p.tables e below (s₁.setTop (mkF m 17 #[.val (.int p1)] [(.int (65 : Int32)), (.int p1)])) _
        refine XS.icmpNo X0.here hx rfl (hb hby d2_17) rfl (flt g1.1).1 ?_
        show Steps p.tables e below (s₁.setTop (mkF m 20 #[.val (.int p1)] [])) _
        refine XS.iloadN X0.here hx rfl (hb hby d2_20) rfl ?_
        show Steps p.tables e below (s₁.setTop (mkF m 21 #[.val (.int p1)] [(.int p1)])) _
        refine XS.bipush X0.here hx rfl (hb hby d2_21) ?_
        show Steps p.tables e below (s₁.setTop (mkF m 23 #[.val (.int p1)] [(.int (90 : Int32)), (.int p1)])) _
        refine XS.icmpNo X0.here hx rfl (hb hby d2_23) rfl (flt g1.2).2.2.1 ?_
        show Steps p.tables e below (s₁.setTop (mkF m 26 #[.val (.int p1)] [])) _
        refine XS.iconst X0.here hx rfl (hb hby d2_26) ?_
        show Steps p.tables e below (s₁.setTop (mkF m 27 #[.val (.int p1)] [(.int (1 : Int32))])) _
        exact k
      obtain ⟨fs, hr, hrun, hended, hW, hsame⟩ := X0.leave (v := some (.int (1 : Int32))) (fun h => by rw [Bd.returns] at h; cases h)
      refine ⟨_, _, pre11 _ ?_, hrun, hended, _, _, rfl, ?_, ⟨_, rfl⟩, hW, hsame.mono (by decide) (by decide)⟩
      · exact retN X0 hx (t := .boolean) Bd.returns (by simp) (hb hby d2_27) hr
      · show Q2 Z p1 h0 n0 _ s₁.heap _
        rw [e0]
        exact ⟨by rw [own_e1 (by unfold expC; omega)], N0, rfl⟩
    · skip
      have t1 : ¬ (¬ p1.toInt < 65 ∧ ¬ 90 < p1.toInt) := fun q => g1 ⟨fun r => q.1 (own_lt (by decide) r), fun r => q.2 (own_gt (by decide) r)⟩
      have pre_28 : Lead p e below (s₁.setTop (mkF m 28 #[.val (.int p1)] [])) (s₁.setTop (entryFrame m #[(.int p1)] 1)) := by
        have pre12 : Lead p e below (s₁.setTop (mkF m 17 #[.val (.int p1)] [(.int (65 : Int32)), (.int p1)])) (s₁.setTop (entryFrame m #[(.int p1)] 1)) := fun t k => by
          refine pre_14 t ?_
          refine XS.iloadN X0.here hx rfl (hb hby d2_14) rfl ?_
          show Steps p.tables e below (s₁.setTop (mkF m 15 #[.val (.int p1)] [(.int p1)])) _
          refine XS.bipush X0.here hx rfl (hb hby d2_15) ?_
          show Steps p.tables e below (s₁.setTop (mkF m 17 #[.val (.int p1)] [(.int (65 : Int32)), (.int p1)])) _
          exact k
        by_cases r1 : p1 < (65 : Int32)
        · skip
          have pre13 : Lead p e below (s₁.setTop (mkF m 28 #[.val (.int p1)] [])) (s₁.setTop (entryFrame m #[(.int p1)] 1)) := fun t k => by
            refine pre12 t ?_
            refine XS.icmpYes X0.here hx rfl (pc0 := 17) (pc' := 28) rfl (hb hby d2_17) rfl (tlt r1).1 (by decide) (by decide) ?_
            show Steps p.tables e below (s₁.setTop (mkF m 28 #[.val (.int p1)] [])) _
            exact k
          exact pre13
        · skip
          have r2 : (90 : Int32) < p1 := Decidable.byContradiction fun r => g1 ⟨r1, r⟩
          have pre14 : Lead p e below (s₁.setTop (mkF m 28 #[.val (.int p1)] [])) (s₁.setTop (entryFrame m #[(.int p1)] 1)) := fun t k => by
            refine pre12 t ?_
            refine XS.icmpNo X0.here hx rfl (hb hby d2_17) rfl (flt r1).1 ?_
            show Steps p.tables e below (s₁.setTop (mkF m 20 #[.val (.int p1)] [])) _
            refine XS.iloadN X0.here hx rfl (hb hby d2_20) rfl ?_
            show Steps p.tables e below (s₁.setTop (mkF m 21 #[.val (.int p1)] [(.int p1)])) _
            refine XS.bipush X0.here hx rfl (hb hby d2_21) ?_
            show Steps p.tables e below (s₁.setTop (mkF m 23 #[.val (.int p1)] [(.int (90 : Int32)), (.int p1)])) _
            refine XS.icmpYes X0.here hx rfl (pc0 := 23) (pc' := 28) rfl (hb hby d2_23) rfl (tlt r2).2.2.1 (by decide) (by decide) ?_
            show Steps p.tables e below (s₁.setTop (mkF m 28 #[.val (.int p1)] [])) _
            exact k
          exact pre14
      by_cases g2 : ¬ p1 < (48 : Int32) ∧ ¬ (57 : Int32) < p1
      · skip
        have t2 := own_nlt (n := 48) (by decide) g2.1
        have v2 := own_ngt (n := 57) (by decide) g2.2
        have pre15 : Lead p e below (s₁.setTop (mkF m 41 #[.val (.int p1)] [(.int (1 : Int32))])) (s₁.setTop (entryFrame m #[(.int p1)] 1)) := fun t k => by
          refine pre_28 t ?_
          refine XS.iloadN X0.here hx rfl (hb hby d2_28) rfl ?_
          show Steps p.tables e below (s₁.setTop (mkF m 29 #[.val (.int p1)] [(.int p1)])) _
          refine XS.bipush X0.here hx rfl (hb hby d2_29) ?_
          show Steps p.tables e below (s₁.setTop (mkF m 31 #[.val (.int p1)] [(.int (48 : Int32)), (.int p1)])) _
          refine XS.icmpNo X0.here hx rfl (hb hby d2_31) rfl (flt g2.1).1 ?_
          show Steps p.tables e below (s₁.setTop (mkF m 34 #[.val (.int p1)] [])) _
          refine XS.iloadN X0.here hx rfl (hb hby d2_34) rfl ?_
          show Steps p.tables e below (s₁.setTop (mkF m 35 #[.val (.int p1)] [(.int p1)])) _
          refine XS.bipush X0.here hx rfl (hb hby d2_35) ?_
          show Steps p.tables e below (s₁.setTop (mkF m 37 #[.val (.int p1)] [(.int (57 : Int32)), (.int p1)])) _
          refine XS.icmpNo X0.here hx rfl (hb hby d2_37) rfl (flt g2.2).2.2.1 ?_
          show Steps p.tables e below (s₁.setTop (mkF m 40 #[.val (.int p1)] [])) _
          refine XS.iconst X0.here hx rfl (hb hby d2_40) ?_
          show Steps p.tables e below (s₁.setTop (mkF m 41 #[.val (.int p1)] [(.int (1 : Int32))])) _
          exact k
        obtain ⟨fs, hr, hrun, hended, hW, hsame⟩ := X0.leave (v := some (.int (1 : Int32))) (fun h => by rw [Bd.returns] at h; cases h)
        refine ⟨_, _, pre15 _ ?_, hrun, hended, _, _, rfl, ?_, ⟨_, rfl⟩, hW, hsame.mono (by decide) (by decide)⟩
        · exact retN X0 hx (t := .boolean) Bd.returns (by simp) (hb hby d2_41) hr
        · show Q2 Z p1 h0 n0 _ s₁.heap _
          rw [e0]
          exact ⟨by rw [own_e1 (by unfold expC; omega)], N0, rfl⟩
      · skip
        have t2 : ¬ (¬ p1.toInt < 48 ∧ ¬ 57 < p1.toInt) := fun q => g2 ⟨fun r => q.1 (own_lt (by decide) r), fun r => q.2 (own_gt (by decide) r)⟩
        have pre_42 : Lead p e below (s₁.setTop (mkF m 42 #[.val (.int p1)] [])) (s₁.setTop (entryFrame m #[(.int p1)] 1)) := by
          have pre16 : Lead p e below (s₁.setTop (mkF m 31 #[.val (.int p1)] [(.int (48 : Int32)), (.int p1)])) (s₁.setTop (entryFrame m #[(.int p1)] 1)) := fun t k => by
            refine pre_28 t ?_
            refine XS.iloadN X0.here hx rfl (hb hby d2_28) rfl ?_
            show Steps p.tables e below (s₁.setTop (mkF m 29 #[.val (.int p1)] [(.int p1)])) _
            refine XS.bipush X0.here hx rfl (hb hby d2_29) ?_
            show Steps p.tables e below (s₁.setTop (mkF m 31 #[.val (.int p1)] [(.int (48 : Int32)), (.int p1)])) _
            exact k
          by_cases r1 : p1 < (48 : Int32)
          · skip
            have pre17 : Lead p e below (s₁.setTop (mkF m 42 #[.val (.int p1)] [])) (s₁.setTop (entryFrame m #[(.int p1)] 1)) := fun t k => by
              refine pre16 t ?_
              refine XS.icmpYes X0.here hx rfl (pc0 := 31) (pc' := 42) rfl (hb hby d2_31) rfl (tlt r1).1 (by decide) (by decide) ?_
              show Steps p.tables e below (s₁.setTop (mkF m 42 #[.val (.int p1)] [])) _
              exact k
            exact pre17
          · skip
            have r2 : (57 : Int32) < p1 := Decidable.byContradiction fun r => g2 ⟨r1, r⟩
            have pre18 : Lead p e below (s₁.setTop (mkF m 42 #[.val (.int p1)] [])) (s₁.setTop (entryFrame m #[(.int p1)] 1)) := fun t k => by
              refine pre16 t ?_
              refine XS.icmpNo X0.here hx rfl (hb hby d2_31) rfl (flt r1).1 ?_
              show Steps p.tables e below (s₁.setTop (mkF m 34 #[.val (.int p1)] [])) _
              refine XS.iloadN X0.here hx rfl (hb hby d2_34) rfl ?_
              show Steps p.tables e below (s₁.setTop (mkF m 35 #[.val (.int p1)] [(.int p1)])) _
              refine XS.bipush X0.here hx rfl (hb hby d2_35) ?_
              show Steps p.tables e below (s₁.setTop (mkF m 37 #[.val (.int p1)] [(.int (57 : Int32)), (.int p1)])) _
              refine XS.icmpYes X0.here hx rfl (pc0 := 37) (pc' := 42) rfl (hb hby d2_37) rfl (tlt r2).2.2.1 (by decide) (by decide) ?_
              show Steps p.tables e below (s₁.setTop (mkF m 42 #[.val (.int p1)] [])) _
              exact k
            exact pre18
        have pre19 : Lead p e below (s₁.setTop (mkF m 45 #[.val (.int p1)] [(.int (33 : Int32)), (.int p1)])) (s₁.setTop (entryFrame m #[(.int p1)] 1)) := fun t k => by
          refine pre_42 t ?_
          refine XS.iloadN X0.here hx rfl (hb hby d2_42) rfl ?_
          show Steps p.tables e below (s₁.setTop (mkF m 43 #[.val (.int p1)] [(.int p1)])) _
          refine XS.bipush X0.here hx rfl (hb hby d2_43) ?_
          show Steps p.tables e below (s₁.setTop (mkF m 45 #[.val (.int p1)] [(.int (33 : Int32)), (.int p1)])) _
          exact k
        by_cases e33 : p1 = (33 : Int32)
        · skip
          have s33 := own_eq (n := 33) (by decide) e33
          have pre20 : Lead p e below (s₁.setTop (mkF m 137 #[.val (.int p1)] [(.int (1 : Int32))])) (s₁.setTop (entryFrame m #[(.int p1)] 1)) := fun t k => by
            refine pre19 t ?_
            refine XS.icmpYes X0.here hx rfl (pc0 := 45) (pc' := 132) rfl (hb hby d2_45) rfl (teq e33).1 (by decide) (by decide) ?_
            show Steps p.tables e below (s₁.setTop (mkF m 132 #[.val (.int p1)] [])) _
            refine XS.iconst X0.here hx rfl (hb hby d2_132) ?_
            show Steps p.tables e below (s₁.setTop (mkF m 133 #[.val (.int p1)] [(.int (1 : Int32))])) _
            refine XS.goto X0.here hx rfl (pc0 := 133) (pc' := 137) rfl (hb hby d2_133) (by decide) (by decide) ?_
            show Steps p.tables e below (s₁.setTop (mkF m 137 #[.val (.int p1)] [(.int (1 : Int32))])) _
            exact k
          obtain ⟨fs, hr, hrun, hended, hW, hsame⟩ := X0.leave (v := some (.int (1 : Int32))) (fun h => by rw [Bd.returns] at h; cases h)
          refine ⟨_, _, pre20 _ ?_, hrun, hended, _, _, rfl, ?_, ⟨_, rfl⟩, hW, hsame.mono (by decide) (by decide)⟩
          · exact retN X0 hx (t := .boolean) Bd.returns (by simp) (hb hby d2_137) hr
          · show Q2 Z p1 h0 n0 _ s₁.heap _
            rw [e0]
            exact ⟨by rw [own_e1 (by unfold expC; omega)], N0, rfl⟩
        · skip
          have s33 := own_neq (n := 33) (by decide) e33
          have pre21 : Lead p e below (s₁.setTop (mkF m 51 #[.val (.int p1)] [(.int (35 : Int32)), (.int p1)])) (s₁.setTop (entryFrame m #[(.int p1)] 1)) := fun t k => by
            refine pre19 t ?_
            refine XS.icmpNo X0.here hx rfl (hb hby d2_45) rfl (feq e33).1 ?_
            show Steps p.tables e below (s₁.setTop (mkF m 48 #[.val (.int p1)] [])) _
            refine XS.iloadN X0.here hx rfl (hb hby d2_48) rfl ?_
            show Steps p.tables e below (s₁.setTop (mkF m 49 #[.val (.int p1)] [(.int p1)])) _
            refine XS.bipush X0.here hx rfl (hb hby d2_49) ?_
            show Steps p.tables e below (s₁.setTop (mkF m 51 #[.val (.int p1)] [(.int (35 : Int32)), (.int p1)])) _
            exact k
          by_cases e35 : p1 = (35 : Int32)
          · skip
            have s35 := own_eq (n := 35) (by decide) e35
            have pre22 : Lead p e below (s₁.setTop (mkF m 137 #[.val (.int p1)] [(.int (1 : Int32))])) (s₁.setTop (entryFrame m #[(.int p1)] 1)) := fun t k => by
              refine pre21 t ?_
              refine XS.icmpYes X0.here hx rfl (pc0 := 51) (pc' := 132) rfl (hb hby d2_51) rfl (teq e35).1 (by decide) (by decide) ?_
              show Steps p.tables e below (s₁.setTop (mkF m 132 #[.val (.int p1)] [])) _
              refine XS.iconst X0.here hx rfl (hb hby d2_132) ?_
              show Steps p.tables e below (s₁.setTop (mkF m 133 #[.val (.int p1)] [(.int (1 : Int32))])) _
              refine XS.goto X0.here hx rfl (pc0 := 133) (pc' := 137) rfl (hb hby d2_133) (by decide) (by decide) ?_
              show Steps p.tables e below (s₁.setTop (mkF m 137 #[.val (.int p1)] [(.int (1 : Int32))])) _
              exact k
            obtain ⟨fs, hr, hrun, hended, hW, hsame⟩ := X0.leave (v := some (.int (1 : Int32))) (fun h => by rw [Bd.returns] at h; cases h)
            refine ⟨_, _, pre22 _ ?_, hrun, hended, _, _, rfl, ?_, ⟨_, rfl⟩, hW, hsame.mono (by decide) (by decide)⟩
            · exact retN X0 hx (t := .boolean) Bd.returns (by simp) (hb hby d2_137) hr
            · show Q2 Z p1 h0 n0 _ s₁.heap _
              rw [e0]
              exact ⟨by rw [own_e1 (by unfold expC; omega)], N0, rfl⟩
          · skip
            have s35 := own_neq (n := 35) (by decide) e35
            have pre23 : Lead p e below (s₁.setTop (mkF m 57 #[.val (.int p1)] [(.int (36 : Int32)), (.int p1)])) (s₁.setTop (entryFrame m #[(.int p1)] 1)) := fun t k => by
              refine pre21 t ?_
              refine XS.icmpNo X0.here hx rfl (hb hby d2_51) rfl (feq e35).1 ?_
              show Steps p.tables e below (s₁.setTop (mkF m 54 #[.val (.int p1)] [])) _
              refine XS.iloadN X0.here hx rfl (hb hby d2_54) rfl ?_
              show Steps p.tables e below (s₁.setTop (mkF m 55 #[.val (.int p1)] [(.int p1)])) _
              refine XS.bipush X0.here hx rfl (hb hby d2_55) ?_
              show Steps p.tables e below (s₁.setTop (mkF m 57 #[.val (.int p1)] [(.int (36 : Int32)), (.int p1)])) _
              exact k
            by_cases e36 : p1 = (36 : Int32)
            · skip
              have s36 := own_eq (n := 36) (by decide) e36
              have pre24 : Lead p e below (s₁.setTop (mkF m 137 #[.val (.int p1)] [(.int (1 : Int32))])) (s₁.setTop (entryFrame m #[(.int p1)] 1)) := fun t k => by
                refine pre23 t ?_
                refine XS.icmpYes X0.here hx rfl (pc0 := 57) (pc' := 132) rfl (hb hby d2_57) rfl (teq e36).1 (by decide) (by decide) ?_
                show Steps p.tables e below (s₁.setTop (mkF m 132 #[.val (.int p1)] [])) _
                refine XS.iconst X0.here hx rfl (hb hby d2_132) ?_
                show Steps p.tables e below (s₁.setTop (mkF m 133 #[.val (.int p1)] [(.int (1 : Int32))])) _
                refine XS.goto X0.here hx rfl (pc0 := 133) (pc' := 137) rfl (hb hby d2_133) (by decide) (by decide) ?_
                show Steps p.tables e below (s₁.setTop (mkF m 137 #[.val (.int p1)] [(.int (1 : Int32))])) _
                exact k
              obtain ⟨fs, hr, hrun, hended, hW, hsame⟩ := X0.leave (v := some (.int (1 : Int32))) (fun h => by rw [Bd.returns] at h; cases h)
              refine ⟨_, _, pre24 _ ?_, hrun, hended, _, _, rfl, ?_, ⟨_, rfl⟩, hW, hsame.mono (by decide) (by decide)⟩
              · exact retN X0 hx (t := .boolean) Bd.returns (by simp) (hb hby d2_137) hr
              · show Q2 Z p1 h0 n0 _ s₁.heap _
                rw [e0]
                exact ⟨by rw [own_e1 (by unfold expC; omega)], N0, rfl⟩
            · skip
              have s36 := own_neq (n := 36) (by decide) e36
              have pre25 : Lead p e below (s₁.setTop (mkF m 63 #[.val (.int p1)] [(.int (37 : Int32)), (.int p1)])) (s₁.setTop (entryFrame m #[(.int p1)] 1)) := fun t k => by
                refine pre23 t ?_
                refine XS.icmpNo X0.here hx rfl (hb hby d2_57) rfl (feq e36).1 ?_
                show Steps p.tables e below (s₁.setTop (mkF m 60 #[.val (.int p1)] [])) _
                refine XS.iloadN X0.here hx rfl (hb hby d2_60) rfl ?_
                show Steps p.tables e below (s₁.setTop (mkF m 61 #[.val (.int p1)] [(.int p1)])) _
                refine XS.bipush X0.here hx rfl (hb hby d2_61) ?_
                show Steps p.tables e below (s₁.setTop (mkF m 63 #[.val (.int p1)] [(.int (37 : Int32)), (.int p1)])) _
                exact k
              by_cases e37 : p1 = (37 : Int32)
              · skip
                have s37 := own_eq (n := 37) (by decide) e37
                have pre26 : Lead p e below (s₁.setTop (mkF m 137 #[.val (.int p1)] [(.int (1 : Int32))])) (s₁.setTop (entryFrame m #[(.int p1)] 1)) := fun t k => by
                  refine pre25 t ?_
                  refine XS.icmpYes X0.here hx rfl (pc0 := 63) (pc' := 132) rfl (hb hby d2_63) rfl (teq e37).1 (by decide) (by decide) ?_
                  show Steps p.tables e below (s₁.setTop (mkF m 132 #[.val (.int p1)] [])) _
                  refine XS.iconst X0.here hx rfl (hb hby d2_132) ?_
                  show Steps p.tables e below (s₁.setTop (mkF m 133 #[.val (.int p1)] [(.int (1 : Int32))])) _
                  refine XS.goto X0.here hx rfl (pc0 := 133) (pc' := 137) rfl (hb hby d2_133) (by decide) (by decide) ?_
                  show Steps p.tables e below (s₁.setTop (mkF m 137 #[.val (.int p1)] [(.int (1 : Int32))])) _
                  exact k
                obtain ⟨fs, hr, hrun, hended, hW, hsame⟩ := X0.leave (v := some (.int (1 : Int32))) (fun h => by rw [Bd.returns] at h; cases h)
                refine ⟨_, _, pre26 _ ?_, hrun, hended, _, _, rfl, ?_, ⟨_, rfl⟩, hW, hsame.mono (by decide) (by decide)⟩
                · exact retN X0 hx (t := .boolean) Bd.returns (by simp) (hb hby d2_137) hr
                · show Q2 Z p1 h0 n0 _ s₁.heap _
                  rw [e0]
                  exact ⟨by rw [own_e1 (by unfold expC; omega)], N0, rfl⟩
              · skip
                have s37 := own_neq (n := 37) (by decide) e37
                have pre27 : Lead p e below (s₁.setTop (mkF m 69 #[.val (.int p1)] [(.int (38 : Int32)), (.int p1)])) (s₁.setTop (entryFrame m #[(.int p1)] 1)) := fun t k => by
                  refine pre25 t ?_
                  refine XS.icmpNo X0.here hx rfl (hb hby d2_63) rfl (feq e37).1 ?_
                  show Steps p.tables e below (s₁.setTop (mkF m 66 #[.val (.int p1)] [])) _
                  refine XS.iloadN X0.here hx rfl (hb hby d2_66) rfl ?_
                  show Steps p.tables e below (s₁.setTop (mkF m 67 #[.val (.int p1)] [(.int p1)])) _
                  refine XS.bipush X0.here hx rfl (hb hby d2_67) ?_
                  show Steps p.tables e below (s₁.setTop (mkF m 69 #[.val (.int p1)] [(.int (38 : Int32)), (.int p1)])) _
                  exact k
                by_cases e38 : p1 = (38 : Int32)
                · skip
                  have s38 := own_eq (n := 38) (by decide) e38
                  have pre28 : Lead p e below (s₁.setTop (mkF m 137 #[.val (.int p1)] [(.int (1 : Int32))])) (s₁.setTop (entryFrame m #[(.int p1)] 1)) := fun t k => by
                    refine pre27 t ?_
                    refine XS.icmpYes X0.here hx rfl (pc0 := 69) (pc' := 132) rfl (hb hby d2_69) rfl (teq e38).1 (by decide) (by decide) ?_
                    show Steps p.tables e below (s₁.setTop (mkF m 132 #[.val (.int p1)] [])) _
                    refine XS.iconst X0.here hx rfl (hb hby d2_132) ?_
                    show Steps p.tables e below (s₁.setTop (mkF m 133 #[.val (.int p1)] [(.int (1 : Int32))])) _
                    refine XS.goto X0.here hx rfl (pc0 := 133) (pc' := 137) rfl (hb hby d2_133) (by decide) (by decide) ?_
                    show Steps p.tables e below (s₁.setTop (mkF m 137 #[.val (.int p1)] [(.int (1 : Int32))])) _
                    exact k
                  obtain ⟨fs, hr, hrun, hended, hW, hsame⟩ := X0.leave (v := some (.int (1 : Int32))) (fun h => by rw [Bd.returns] at h; cases h)
                  refine ⟨_, _, pre28 _ ?_, hrun, hended, _, _, rfl, ?_, ⟨_, rfl⟩, hW, hsame.mono (by decide) (by decide)⟩
                  · exact retN X0 hx (t := .boolean) Bd.returns (by simp) (hb hby d2_137) hr
                  · show Q2 Z p1 h0 n0 _ s₁.heap _
                    rw [e0]
                    exact ⟨by rw [own_e1 (by unfold expC; omega)], N0, rfl⟩
                · skip
                  have s38 := own_neq (n := 38) (by decide) e38
                  have pre29 : Lead p e below (s₁.setTop (mkF m 75 #[.val (.int p1)] [(.int (39 : Int32)), (.int p1)])) (s₁.setTop (entryFrame m #[(.int p1)] 1)) := fun t k => by
                    refine pre27 t ?_
                    refine XS.icmpNo X0.here hx rfl (hb hby d2_69) rfl (feq e38).1 ?_
                    show Steps p.tables e below (s₁.setTop (mkF m 72 #[.val (.int p1)] [])) _
                    refine XS.iloadN X0.here hx rfl (hb hby d2_72) rfl ?_
                    show Steps p.tables e below (s₁.setTop (mkF m 73 #[.val (.int p1)] [(.int p1)])) _
                    refine XS.bipush X0.here hx rfl (hb hby d2_73) ?_
                    show Steps p.tables e below (s₁.setTop (mkF m 75 #[.val (.int p1)] [(.int (39 : Int32)), (.int p1)])) _
                    exact k
                  by_cases e39 : p1 = (39 : Int32)
                  · skip
                    have s39 := own_eq (n := 39) (by decide) e39
                    have pre30 : Lead p e below (s₁.setTop (mkF m 137 #[.val (.int p1)] [(.int (1 : Int32))])) (s₁.setTop (entryFrame m #[(.int p1)] 1)) := fun t k => by
                      refine pre29 t ?_
                      refine XS.icmpYes X0.here hx rfl (pc0 := 75) (pc' := 132) rfl (hb hby d2_75) rfl (teq e39).1 (by decide) (by decide) ?_
                      show Steps p.tables e below (s₁.setTop (mkF m 132 #[.val (.int p1)] [])) _
                      refine XS.iconst X0.here hx rfl (hb hby d2_132) ?_
                      show Steps p.tables e below (s₁.setTop (mkF m 133 #[.val (.int p1)] [(.int (1 : Int32))])) _
                      refine XS.goto X0.here hx rfl (pc0 := 133) (pc' := 137) rfl (hb hby d2_133) (by decide) (by decide) ?_
                      show Steps p.tables e below (s₁.setTop (mkF m 137 #[.val (.int p1)] [(.int (1 : Int32))])) _
                      exact k
                    obtain ⟨fs, hr, hrun, hended, hW, hsame⟩ := X0.leave (v := some (.int (1 : Int32))) (fun h => by rw [Bd.returns] at h; cases h)
                    refine ⟨_, _, pre30 _ ?_, hrun, hended, _, _, rfl, ?_, ⟨_, rfl⟩, hW, hsame.mono (by decide) (by decide)⟩
                    · exact retN X0 hx (t := .boolean) Bd.returns (by simp) (hb hby d2_137) hr
                    · show Q2 Z p1 h0 n0 _ s₁.heap _
                      rw [e0]
                      exact ⟨by rw [own_e1 (by unfold expC; omega)], N0, rfl⟩
                  · skip
                    have s39 := own_neq (n := 39) (by decide) e39
                    have pre31 : Lead p e below (s₁.setTop (mkF m 81 #[.val (.int p1)] [(.int (42 : Int32)), (.int p1)])) (s₁.setTop (entryFrame m #[(.int p1)] 1)) := fun t k => by
                      refine pre29 t ?_
                      refine XS.icmpNo X0.here hx rfl (hb hby d2_75) rfl (feq e39).1 ?_
                      show Steps p.tables e below (s₁.setTop (mkF m 78 #[.val (.int p1)] [])) _
                      refine XS.iloadN X0.here hx rfl (hb hby d2_78) rfl ?_
                      show Steps p.tables e below (s₁.setTop (mkF m 79 #[.val (.int p1)] [(.int p1)])) _
                      refine XS.bipush X0.here hx rfl (hb hby d2_79) ?_
                      show Steps p.tables e below (s₁.setTop (mkF m 81 #[.val (.int p1)] [(.int (42 : Int32)), (.int p1)])) _
                      exact k
                    by_cases e42 : p1 = (42 : Int32)
                    · skip
                      have s42 := own_eq (n := 42) (by decide) e42
                      have pre32 : Lead p e below (s₁.setTop (mkF m 137 #[.val (.int p1)] [(.int (1 : Int32))])) (s₁.setTop (entryFrame m #[(.int p1)] 1)) := fun t k => by
                        refine pre31 t ?_
                        refine XS.icmpYes X0.here hx rfl (pc0 := 81) (pc' := 132) rfl (hb hby d2_81) rfl (teq e42).1 (by decide) (by decide) ?_
                        show Steps p.tables e below (s₁.setTop (mkF m 132 #[.val (.int p1)] [])) _
                        refine XS.iconst X0.here hx rfl (hb hby d2_132) ?_
                        show Steps p.tables e below (s₁.setTop (mkF m 133 #[.val (.int p1)] [(.int (1 : Int32))])) _
                        refine XS.goto X0.here hx rfl (pc0 := 133) (pc' := 137) rfl (hb hby d2_133) (by decide) (by decide) ?_
                        show Steps p.tables e below (s₁.setTop (mkF m 137 #[.val (.int p1)] [(.int (1 : Int32))])) _
                        exact k
                      obtain ⟨fs, hr, hrun, hended, hW, hsame⟩ := X0.leave (v := some (.int (1 : Int32))) (fun h => by rw [Bd.returns] at h; cases h)
                      refine ⟨_, _, pre32 _ ?_, hrun, hended, _, _, rfl, ?_, ⟨_, rfl⟩, hW, hsame.mono (by decide) (by decide)⟩
                      · exact retN X0 hx (t := .boolean) Bd.returns (by simp) (hb hby d2_137) hr
                      · show Q2 Z p1 h0 n0 _ s₁.heap _
                        rw [e0]
                        exact ⟨by rw [own_e1 (by unfold expC; omega)], N0, rfl⟩
                    · skip
                      have s42 := own_neq (n := 42) (by decide) e42
                      have pre33 : Lead p e below (s₁.setTop (mkF m 87 #[.val (.int p1)] [(.int (43 : Int32)), (.int p1)])) (s₁.setTop (entryFrame m #[(.int p1)] 1)) := fun t k => by
                        refine pre31 t ?_
                        refine XS.icmpNo X0.here hx rfl (hb hby d2_81) rfl (feq e42).1 ?_
                        show Steps p.tables e below (s₁.setTop (mkF m 84 #[.val (.int p1)] [])) _
                        refine XS.iloadN X0.here hx rfl (hb hby d2_84) rfl ?_
                        show Steps p.tables e below (s₁.setTop (mkF m 85 #[.val (.int p1)] [(.int p1)])) _
                        refine XS.bipush X0.here hx rfl (hb hby d2_85) ?_
                        show Steps p.tables e below (s₁.setTop (mkF m 87 #[.val (.int p1)] [(.int (43 : Int32)), (.int p1)])) _
                        exact k
                      by_cases e43 : p1 = (43 : Int32)
                      · skip
                        have s43 := own_eq (n := 43) (by decide) e43
                        have pre34 : Lead p e below (s₁.setTop (mkF m 137 #[.val (.int p1)] [(.int (1 : Int32))])) (s₁.setTop (entryFrame m #[(.int p1)] 1)) := fun t k => by
                          refine pre33 t ?_
                          refine XS.icmpYes X0.here hx rfl (pc0 := 87) (pc' := 132) rfl (hb hby d2_87) rfl (teq e43).1 (by decide) (by decide) ?_
                          show Steps p.tables e below (s₁.setTop (mkF m 132 #[.val (.int p1)] [])) _
                          refine XS.iconst X0.here hx rfl (hb hby d2_132) ?_
                          show Steps p.tables e below (s₁.setTop (mkF m 133 #[.val (.int p1)] [(.int (1 : Int32))])) _
                          refine XS.goto X0.here hx rfl (pc0 := 133) (pc' := 137) rfl (hb hby d2_133) (by decide) (by decide) ?_
                          show Steps p.tables e below (s₁.setTop (mkF m 137 #[.val (.int p1)] [(.int (1 : Int32))])) _
                          exact k
                        obtain ⟨fs, hr, hrun, hended, hW, hsame⟩ := X0.leave (v := some (.int (1 : Int32))) (fun h => by rw [Bd.returns] at h; cases h)
                        refine ⟨_, _, pre34 _ ?_, hrun, hended, _, _, rfl, ?_, ⟨_, rfl⟩, hW, hsame.mono (by decide) (by decide)⟩
                        · exact retN X0 hx (t := .boolean) Bd.returns (by simp) (hb hby d2_137) hr
                        · show Q2 Z p1 h0 n0 _ s₁.heap _
                          rw [e0]
                          exact ⟨by rw [own_e1 (by unfold expC; omega)], N0, rfl⟩
                      · skip
                        have s43 := own_neq (n := 43) (by decide) e43
                        have pre35 : Lead p e below (s₁.setTop (mkF m 93 #[.val (.int p1)] [(.int (45 : Int32)), (.int p1)])) (s₁.setTop (entryFrame m #[(.int p1)] 1)) := fun t k => by
                          refine pre33 t ?_
                          refine XS.icmpNo X0.here hx rfl (hb hby d2_87) rfl (feq e43).1 ?_
                          show Steps p.tables e below (s₁.setTop (mkF m 90 #[.val (.int p1)] [])) _
                          refine XS.iloadN X0.here hx rfl (hb hby d2_90) rfl ?_
                          show Steps p.tables e below (s₁.setTop (mkF m 91 #[.val (.int p1)] [(.int p1)])) _
                          refine XS.bipush X0.here hx rfl (hb hby d2_91) ?_
                          show Steps p.tables e below (s₁.setTop (mkF m 93 #[.val (.int p1)] [(.int (45 : Int32)), (.int p1)])) _
                          exact k
                        by_cases e45 : p1 = (45 : Int32)
                        · skip
                          have s45 := own_eq (n := 45) (by decide) e45
                          have pre36 : Lead p e below (s₁.setTop (mkF m 137 #[.val (.int p1)] [(.int (1 : Int32))])) (s₁.setTop (entryFrame m #[(.int p1)] 1)) := fun t k => by
                            refine pre35 t ?_
                            refine XS.icmpYes X0.here hx rfl (pc0 := 93) (pc' := 132) rfl (hb hby d2_93) rfl (teq e45).1 (by decide) (by decide) ?_
                            show Steps p.tables e below (s₁.setTop (mkF m 132 #[.val (.int p1)] [])) _
                            refine XS.iconst X0.here hx rfl (hb hby d2_132) ?_
                            show Steps p.tables e below (s₁.setTop (mkF m 133 #[.val (.int p1)] [(.int (1 : Int32))])) _
                            refine XS.goto X0.here hx rfl (pc0 := 133) (pc' := 137) rfl (hb hby d2_133) (by decide) (by decide) ?_
                            show Steps p.tables e below (s₁.setTop (mkF m 137 #[.val (.int p1)] [(.int (1 : Int32))])) _
                            exact k
                          obtain ⟨fs, hr, hrun, hended, hW, hsame⟩ := X0.leave (v := some (.int (1 : Int32))) (fun h => by rw [Bd.returns] at h; cases h)
                          refine ⟨_, _, pre36 _ ?_, hrun, hended, _, _, rfl, ?_, ⟨_, rfl⟩, hW, hsame.mono (by decide) (by decide)⟩
                          · exact retN X0 hx (t := .boolean) Bd.returns (by simp) (hb hby d2_137) hr
                          · show Q2 Z p1 h0 n0 _ s₁.heap _
                            rw [e0]
                            exact ⟨by rw [own_e1 (by unfold expC; omega)], N0, rfl⟩
                        · skip
                          have s45 := own_neq (n := 45) (by decide) e45
                          have pre37 : Lead p e below (s₁.setTop (mkF m 99 #[.val (.int p1)] [(.int (46 : Int32)), (.int p1)])) (s₁.setTop (entryFrame m #[(.int p1)] 1)) := fun t k => by
                            refine pre35 t ?_
                            refine XS.icmpNo X0.here hx rfl (hb hby d2_93) rfl (feq e45).1 ?_
                            show Steps p.tables e below (s₁.setTop (mkF m 96 #[.val (.int p1)] [])) _
                            refine XS.iloadN X0.here hx rfl (hb hby d2_96) rfl ?_
                            show Steps p.tables e below (s₁.setTop (mkF m 97 #[.val (.int p1)] [(.int p1)])) _
                            refine XS.bipush X0.here hx rfl (hb hby d2_97) ?_
                            show Steps p.tables e below (s₁.setTop (mkF m 99 #[.val (.int p1)] [(.int (46 : Int32)), (.int p1)])) _
                            exact k
                          by_cases e46 : p1 = (46 : Int32)
                          · skip
                            have s46 := own_eq (n := 46) (by decide) e46
                            have pre38 : Lead p e below (s₁.setTop (mkF m 137 #[.val (.int p1)] [(.int (1 : Int32))])) (s₁.setTop (entryFrame m #[(.int p1)] 1)) := fun t k => by
                              refine pre37 t ?_
                              refine XS.icmpYes X0.here hx rfl (pc0 := 99) (pc' := 132) rfl (hb hby d2_99) rfl (teq e46).1 (by decide) (by decide) ?_
                              show Steps p.tables e below (s₁.setTop (mkF m 132 #[.val (.int p1)] [])) _
                              refine XS.iconst X0.here hx rfl (hb hby d2_132) ?_
                              show Steps p.tables e below (s₁.setTop (mkF m 133 #[.val (.int p1)] [(.int (1 : Int32))])) _
                              refine XS.goto X0.here hx rfl (pc0 := 133) (pc' := 137) rfl (hb hby d2_133) (by decide) (by decide) ?_
                              show Steps p.tables e below (s₁.setTop (mkF m 137 #[.val (.int p1)] [(.int (1 : Int32))])) _
                              exact k
                            obtain ⟨fs, hr, hrun, hended, hW, hsame⟩ := X0.leave (v := some (.int (1 : Int32))) (fun h => by rw [Bd.returns] at h; cases h)
                            refine ⟨_, _, pre38 _ ?_, hrun, hended, _, _, rfl, ?_, ⟨_, rfl⟩, hW, hsame.mono (by decide) (by decide)⟩
                            · exact retN X0 hx (t := .boolean) Bd.returns (by simp) (hb hby d2_137) hr
                            · show Q2 Z p1 h0 n0 _ s₁.heap _
                              rw [e0]
                              exact ⟨by rw [own_e1 (by unfold expC; omega)], N0, rfl⟩
                          · skip
                            have s46 := own_neq (n := 46) (by decide) e46
                            have pre39 : Lead p e below (s₁.setTop (mkF m 105 #[.val (.int p1)] [(.int (94 : Int32)), (.int p1)])) (s₁.setTop (entryFrame m #[(.int p1)] 1)) := fun t k => by
                              refine pre37 t ?_
                              refine XS.icmpNo X0.here hx rfl (hb hby d2_99) rfl (feq e46).1 ?_
                              show Steps p.tables e below (s₁.setTop (mkF m 102 #[.val (.int p1)] [])) _
                              refine XS.iloadN X0.here hx rfl (hb hby d2_102) rfl ?_
                              show Steps p.tables e below (s₁.setTop (mkF m 103 #[.val (.int p1)] [(.int p1)])) _
                              refine XS.bipush X0.here hx rfl (hb hby d2_103) ?_
                              show Steps p.tables e below (s₁.setTop (mkF m 105 #[.val (.int p1)] [(.int (94 : Int32)), (.int p1)])) _
                              exact k
                            by_cases e94 : p1 = (94 : Int32)
                            · skip
                              have s94 := own_eq (n := 94) (by decide) e94
                              have pre40 : Lead p e below (s₁.setTop (mkF m 137 #[.val (.int p1)] [(.int (1 : Int32))])) (s₁.setTop (entryFrame m #[(.int p1)] 1)) := fun t k => by
                                refine pre39 t ?_
                                refine XS.icmpYes X0.here hx rfl (pc0 := 105) (pc' := 132) rfl (hb hby d2_105) rfl (teq e94).1 (by decide) (by decide) ?_
                                show Steps p.tables e below (s₁.setTop (mkF m 132 #[.val (.int p1)] [])) _
                                refine XS.iconst X0.here hx rfl (hb hby d2_132) ?_
                                show Steps p.tables e below (s₁.setTop (mkF m 133 #[.val (.int p1)] [(.int (1 : Int32))])) _
                                refine XS.goto X0.here hx rfl (pc0 := 133) (pc' := 137) rfl (hb hby d2_133) (by decide) (by decide) ?_
                                show Steps p.tables e below (s₁.setTop (mkF m 137 #[.val (.int p1)] [(.int (1 : Int32))])) _
                                exact k
                              obtain ⟨fs, hr, hrun, hended, hW, hsame⟩ := X0.leave (v := some (.int (1 : Int32))) (fun h => by rw [Bd.returns] at h; cases h)
                              refine ⟨_, _, pre40 _ ?_, hrun, hended, _, _, rfl, ?_, ⟨_, rfl⟩, hW, hsame.mono (by decide) (by decide)⟩
                              · exact retN X0 hx (t := .boolean) Bd.returns (by simp) (hb hby d2_137) hr
                              · show Q2 Z p1 h0 n0 _ s₁.heap _
                                rw [e0]
                                exact ⟨by rw [own_e1 (by unfold expC; omega)], N0, rfl⟩
                            · skip
                              have s94 := own_neq (n := 94) (by decide) e94
                              have pre41 : Lead p e below (s₁.setTop (mkF m 111 #[.val (.int p1)] [(.int (95 : Int32)), (.int p1)])) (s₁.setTop (entryFrame m #[(.int p1)] 1)) := fun t k => by
                                refine pre39 t ?_
                                refine XS.icmpNo X0.here hx rfl (hb hby d2_105) rfl (feq e94).1 ?_
                                show Steps p.tables e below (s₁.setTop (mkF m 108 #[.val (.int p1)] [])) _
                                refine XS.iloadN X0.here hx rfl (hb hby d2_108) rfl ?_
                                show Steps p.tables e below (s₁.setTop (mkF m 109 #[.val (.int p1)] [(.int p1)])) _
                                refine XS.bipush X0.here hx rfl (hb hby d2_109) ?_
                                show Steps p.tables e below (s₁.setTop (mkF m 111 #[.val (.int p1)] [(.int (95 : Int32)), (.int p1)])) _
                                exact k
                              by_cases e95 : p1 = (95 : Int32)
                              · skip
                                have s95 := own_eq (n := 95) (by decide) e95
                                have pre42 : Lead p e below (s₁.setTop (mkF m 137 #[.val (.int p1)] [(.int (1 : Int32))])) (s₁.setTop (entryFrame m #[(.int p1)] 1)) := fun t k => by
                                  refine pre41 t ?_
                                  refine XS.icmpYes X0.here hx rfl (pc0 := 111) (pc' := 132) rfl (hb hby d2_111) rfl (teq e95).1 (by decide) (by decide) ?_
                                  show Steps p.tables e below (s₁.setTop (mkF m 132 #[.val (.int p1)] [])) _
                                  refine XS.iconst X0.here hx rfl (hb hby d2_132) ?_
                                  show Steps p.tables e below (s₁.setTop (mkF m 133 #[.val (.int p1)] [(.int (1 : Int32))])) _
                                  refine XS.goto X0.here hx rfl (pc0 := 133) (pc' := 137) rfl (hb hby d2_133) (by decide) (by decide) ?_
                                  show Steps p.tables e below (s₁.setTop (mkF m 137 #[.val (.int p1)] [(.int (1 : Int32))])) _
                                  exact k
                                obtain ⟨fs, hr, hrun, hended, hW, hsame⟩ := X0.leave (v := some (.int (1 : Int32))) (fun h => by rw [Bd.returns] at h; cases h)
                                refine ⟨_, _, pre42 _ ?_, hrun, hended, _, _, rfl, ?_, ⟨_, rfl⟩, hW, hsame.mono (by decide) (by decide)⟩
                                · exact retN X0 hx (t := .boolean) Bd.returns (by simp) (hb hby d2_137) hr
                                · show Q2 Z p1 h0 n0 _ s₁.heap _
                                  rw [e0]
                                  exact ⟨by rw [own_e1 (by unfold expC; omega)], N0, rfl⟩
                              · skip
                                have s95 := own_neq (n := 95) (by decide) e95
                                have pre43 : Lead p e below (s₁.setTop (mkF m 117 #[.val (.int p1)] [(.int (96 : Int32)), (.int p1)])) (s₁.setTop (entryFrame m #[(.int p1)] 1)) := fun t k => by
                                  refine pre41 t ?_
                                  refine XS.icmpNo X0.here hx rfl (hb hby d2_111) rfl (feq e95).1 ?_
                                  show Steps p.tables e below (s₁.setTop (mkF m 114 #[.val (.int p1)] [])) _
                                  refine XS.iloadN X0.here hx rfl (hb hby d2_114) rfl ?_
                                  show Steps p.tables e below (s₁.setTop (mkF m 115 #[.val (.int p1)] [(.int p1)])) _
                                  refine XS.bipush X0.here hx rfl (hb hby d2_115) ?_
                                  show Steps p.tables e below (s₁.setTop (mkF m 117 #[.val (.int p1)] [(.int (96 : Int32)), (.int p1)])) _
                                  exact k
                                by_cases e96 : p1 = (96 : Int32)
                                · skip
                                  have s96 := own_eq (n := 96) (by decide) e96
                                  have pre44 : Lead p e below (s₁.setTop (mkF m 137 #[.val (.int p1)] [(.int (1 : Int32))])) (s₁.setTop (entryFrame m #[(.int p1)] 1)) := fun t k => by
                                    refine pre43 t ?_
                                    refine XS.icmpYes X0.here hx rfl (pc0 := 117) (pc' := 132) rfl (hb hby d2_117) rfl (teq e96).1 (by decide) (by decide) ?_
                                    show Steps p.tables e below (s₁.setTop (mkF m 132 #[.val (.int p1)] [])) _
                                    refine XS.iconst X0.here hx rfl (hb hby d2_132) ?_
                                    show Steps p.tables e below (s₁.setTop (mkF m 133 #[.val (.int p1)] [(.int (1 : Int32))])) _
                                    refine XS.goto X0.here hx rfl (pc0 := 133) (pc' := 137) rfl (hb hby d2_133) (by decide) (by decide) ?_
                                    show Steps p.tables e below (s₁.setTop (mkF m 137 #[.val (.int p1)] [(.int (1 : Int32))])) _
                                    exact k
                                  obtain ⟨fs, hr, hrun, hended, hW, hsame⟩ := X0.leave (v := some (.int (1 : Int32))) (fun h => by rw [Bd.returns] at h; cases h)
                                  refine ⟨_, _, pre44 _ ?_, hrun, hended, _, _, rfl, ?_, ⟨_, rfl⟩, hW, hsame.mono (by decide) (by decide)⟩
                                  · exact retN X0 hx (t := .boolean) Bd.returns (by simp) (hb hby d2_137) hr
                                  · show Q2 Z p1 h0 n0 _ s₁.heap _
                                    rw [e0]
                                    exact ⟨by rw [own_e1 (by unfold expC; omega)], N0, rfl⟩
                                · skip
                                  have s96 := own_neq (n := 96) (by decide) e96
                                  have pre45 : Lead p e below (s₁.setTop (mkF m 123 #[.val (.int p1)] [(.int (124 : Int32)), (.int p1)])) (s₁.setTop (entryFrame m #[(.int p1)] 1)) := fun t k => by
                                    refine pre43 t ?_
                                    refine XS.icmpNo X0.here hx rfl (hb hby d2_117) rfl (feq e96).1 ?_
                                    show Steps p.tables e below (s₁.setTop (mkF m 120 #[.val (.int p1)] [])) _
                                    refine XS.iloadN X0.here hx rfl (hb hby d2_120) rfl ?_
                                    show Steps p.tables e below (s₁.setTop (mkF m 121 #[.val (.int p1)] [(.int p1)])) _
                                    refine XS.bipush X0.here hx rfl (hb hby d2_121) ?_
                                    show Steps p.tables e below (s₁.setTop (mkF m 123 #[.val (.int p1)] [(.int (124 : Int32)), (.int p1)])) _
                                    exact k
                                  by_cases e124 : p1 = (124 : Int32)
                                  · skip
                                    have s124 := own_eq (n := 124) (by decide) e124
                                    have pre46 : Lead p e below (s₁.setTop (mkF m 137 #[.val (.int p1)] [(.int (1 : Int32))])) (s₁.setTop (entryFrame m #[(.int p1)] 1)) := fun t k => by
                                      refine pre45 t ?_
                                      refine XS.icmpYes X0.here hx rfl (pc0 := 123) (pc' := 132) rfl (hb hby d2_123) rfl (teq e124).1 (by decide) (by decide) ?_
                                      show Steps p.tables e below (s₁.setTop (mkF m 132 #[.val (.int p1)] [])) _
                                      refine XS.iconst X0.here hx rfl (hb hby d2_132) ?_
                                      show Steps p.tables e below (s₁.setTop (mkF m 133 #[.val (.int p1)] [(.int (1 : Int32))])) _
                                      refine XS.goto X0.here hx rfl (pc0 := 133) (pc' := 137) rfl (hb hby d2_133) (by decide) (by decide) ?_
                                      show Steps p.tables e below (s₁.setTop (mkF m 137 #[.val (.int p1)] [(.int (1 : Int32))])) _
                                      exact k
                                    obtain ⟨fs, hr, hrun, hended, hW, hsame⟩ := X0.leave (v := some (.int (1 : Int32))) (fun h => by rw [Bd.returns] at h; cases h)
                                    refine ⟨_, _, pre46 _ ?_, hrun, hended, _, _, rfl, ?_, ⟨_, rfl⟩, hW, hsame.mono (by decide) (by decide)⟩
                                    · exact retN X0 hx (t := .boolean) Bd.returns (by simp) (hb hby d2_137) hr
                                    · show Q2 Z p1 h0 n0 _ s₁.heap _
                                      rw [e0]
                                      exact ⟨by rw [own_e1 (by unfold expC; omega)], N0, rfl⟩
                                  · skip
                                    have s124 := own_neq (n := 124) (by decide) e124
                                    have pre47 : Lead p e below (s₁.setTop (mkF m 129 #[.val (.int p1)] [(.int (126 : Int32)), (.int p1)])) (s₁.setTop (entryFrame m #[(.int p1)] 1)) := fun t k => by
                                      refine pre45 t ?_
                                      refine XS.icmpNo X0.here hx rfl (hb hby d2_123) rfl (feq e124).1 ?_
                                      show Steps p.tables e below (s₁.setTop (mkF m 126 #[.val (.int p1)] [])) _
                                      refine XS.iloadN X0.here hx rfl (hb hby d2_126) rfl ?_
                                      show Steps p.tables e below (s₁.setTop (mkF m 127 #[.val (.int p1)] [(.int p1)])) _
                                      refine XS.bipush X0.here hx rfl (hb hby d2_127) ?_
                                      show Steps p.tables e below (s₁.setTop (mkF m 129 #[.val (.int p1)] [(.int (126 : Int32)), (.int p1)])) _
                                      exact k
                                    by_cases e126 : p1 = (126 : Int32)
                                    · skip
                                      have s126 := own_eq (n := 126) (by decide) e126
                                      have pre48 : Lead p e below (s₁.setTop (mkF m 137 #[.val (.int p1)] [(.int (1 : Int32))])) (s₁.setTop (entryFrame m #[(.int p1)] 1)) := fun t k => by
                                        refine pre47 t ?_
                                        refine XS.icmpNo X0.here hx rfl (hb hby d2_129) rfl (teq e126).2 ?_
                                        show Steps p.tables e below (s₁.setTop (mkF m 132 #[.val (.int p1)] [])) _
                                        refine XS.iconst X0.here hx rfl (hb hby d2_132) ?_
                                        show Steps p.tables e below (s₁.setTop (mkF m 133 #[.val (.int p1)] [(.int (1 : Int32))])) _
                                        refine XS.goto X0.here hx rfl (pc0 := 133) (pc' := 137) rfl (hb hby d2_133) (by decide) (by decide) ?_
                                        show Steps p.tables e below (s₁.setTop (mkF m 137 #[.val (.int p1)] [(.int (1 : Int32))])) _
                                        exact k
                                      obtain ⟨fs, hr, hrun, hended, hW, hsame⟩ := X0.leave (v := some (.int (1 : Int32))) (fun h => by rw [Bd.returns] at h; cases h)
                                      refine ⟨_, _, pre48 _ ?_, hrun, hended, _, _, rfl, ?_, ⟨_, rfl⟩, hW, hsame.mono (by decide) (by decide)⟩
                                      · exact retN X0 hx (t := .boolean) Bd.returns (by simp) (hb hby d2_137) hr
                                      · show Q2 Z p1 h0 n0 _ s₁.heap _
                                        rw [e0]
                                        exact ⟨by rw [own_e1 (by unfold expC; omega)], N0, rfl⟩
                                    · skip
                                      have s126 := own_neq (n := 126) (by decide) e126
                                      have pre49 : Lead p e below (s₁.setTop (mkF m 137 #[.val (.int p1)] [(.int (0 : Int32))])) (s₁.setTop (entryFrame m #[(.int p1)] 1)) := fun t k => by
                                        refine pre47 t ?_
                                        refine XS.icmpYes X0.here hx rfl (pc0 := 129) (pc' := 136) rfl (hb hby d2_129) rfl (feq e126).2 (by decide) (by decide) ?_
                                        show Steps p.tables e below (s₁.setTop (mkF m 136 #[.val (.int p1)] [])) _
                                        refine XS.iconst X0.here hx rfl (hb hby d2_136) ?_
                                        show Steps p.tables e below (s₁.setTop (mkF m 137 #[.val (.int p1)] [(.int (0 : Int32))])) _
                                        exact k
                                      obtain ⟨fs, hr, hrun, hended, hW, hsame⟩ := X0.leave (v := some (.int (0 : Int32))) (fun h => by rw [Bd.returns] at h; cases h)
                                      refine ⟨_, _, pre49 _ ?_, hrun, hended, _, _, rfl, ?_, ⟨_, rfl⟩, hW, hsame.mono (by decide) (by decide)⟩
                                      · exact retN X0 hx (t := .boolean) Bd.returns (by simp) (hb hby d2_137) hr
                                      · show Q2 Z p1 h0 n0 _ s₁.heap _
                                        rw [e0]
                                        exact ⟨by rw [own_e0 (by unfold expC; omega)], N0, rfl⟩
theorem own_b8 (x : Int32) : (x.toInt8.toInt32).toInt < 128 := by
  have h1 : (x.toInt8.toInt32).toInt = x.toInt8.toInt := by simp
  rw [h1]; exact Int8.toInt_lt _
def Q0 (Z : State) (p1 : Int32) (h0 : Heap) (n0 : Nat) (v : Option Value) (h : Heap) (L : List Loc) : Prop := v = some (.int (1 : Int32)) ∧ Fr n0 L
theorem ef_0 (m : MethodId) (p1 : Int32) : entryFrame m #[(.int p1)] maxLocals = mkF m 0 #[.val (.int p1), .unset, .unset] [] := by first | (simp [entryFrame, mkF, argsToLocals, Value.category, maxLocals]; done) | rfl
set_option maxRecDepth 65536 in
set_option maxHeartbeats 40000000 in
theorem rm0 (l : Launch) (Z : State) (a0 : Array Value) (hw : ∀ d ∈ tables_1, d.before a0 Z = true) (ws : List Jvm.Cond) (p1 : Int32) (ta : Addr) (cl : Cell) (h0 : Heap) (n0 : Nat) (Z0 : n0 ≤ h0.size) (S1 : Sta Z h0 "com/example/durable_dispatch/durabledispatch/http/HttpHead" "TOKEN_BYTES" "[Z" (.ref ta)) (Ar : Arr Z h0 ta cl .boolean) (hin : ∀ j : Int32, ¬ j < 0 → j.toInt < 128 → ¬ (j < 0 ∨ cl.slots.size ≤ j.toNatClampNeg)) (hat : ∀ j : Int32, ¬ j < 0 → j.toInt < 128 → cl.slots[j.toNatClampNeg]? = some (.int (expV j))) :
    MetFree l x (head1 (Jvm.Cond.code x code maxLocals ret :: ws) room_1) (fun a U => a = #[(.int p1)] ∧ Z.Warmed39 U.vm ∧ U.heap = h0) (fun _ _ _ _ _ => True) (fun _ U o U' => ∃ v L, o = .returned v ∧ Q0 Z p1 h0 n0 v U'.heap L ∧ FrameEnd U o U' L room_1.cells room_1.slots) := by
  refine MetFree.of_bodySF (plainFor_of_name pn_0) hisR ?_
  intro p e s m args below meth c s₁ Bd hml0 hP hK
  obtain ⟨rfl, hZ, hh⟩ := hP
  have hx := Bd.exec
  have hby := Bd.bytes
  have hml : c.maxLocals = 3 := hml0
  have hown : s.vm.findClass "com/example/durable_dispatch/durabledispatch/http/HttpHeadIsTokenBytePinLaw" = some m.cls := findClass_of_methodNamed Bd.named
  have hnm := (name_of_methodNamed Bd.named Bd.method).1
  have X0 : Stand p l e room_1 s m #[(.int p1)] below meth c s₁ [] 0 0 := Stand.of_body Bd
  have e0 : s₁.heap = h0 := by rw [← hh, Bd.state]; rfl
  have N0 := Fr.nil n0
  have pre0 : Lead p e below (s₁.setTop (mkF m 0 #[.val (.int p1), .unset, .unset] [])) (s₁.setTop (entryFrame m #[(.int p1)] maxLocals)) := fun t k => castTop (ef_0 m p1) k
  have hB : ((p1.toInt8.toInt32)).toInt < 128 := own_b8 p1
  obtain ⟨_, _, ⟨T50, L50, k50, n50⟩, -, X50, ⟨Lc50, hQ50, l50, y50, z50⟩, st50⟩ := Jvm.LawKit.callS X0 hx (y := (⟨"com/example/durable_dispatch/durabledispatch/http/HttpHead", "isTokenByte", "(B)Z"⟩ : MethodName)) hown (mvT hZ (hw _ (List.mem_of_getElem? (i := 0) rfl))) (mvT hZ (hw _ (List.mem_of_getElem? (i := 1) rfl))) (mvT hZ (hw _ (List.mem_of_getElem? (i := 2) rfl))) (mvT hZ (hw _ (List.mem_of_getElem? (i := 3) rfl))) (by decide) (backOf (W := 0) (rm1 l Z a0 hw [] (p1.toInt8.toInt32) ta cl h0 n0 Z0 S1 Ar (fun q => hin _ q hB) (fun q => hat _ q hB)) hZ (hw _ (List.mem_of_getElem? (i := 3) rfl)) (hw _ (List.mem_of_getElem? (i := 2) rfl)) (by decide) (by decide)) (g := (mkF m 6 #[.val (.int p1), .val (.int (p1.toInt8.toInt32)), .val (.int (p1.toInt8.toInt32))] [(.int (p1.toInt8.toInt32))])) rfl (by rw [hml]; rfl) (argsL := [(.int (p1.toInt8.toInt32))]) (rest := []) (lenOf pd_1 rfl) rfl (by show 2 * 0 + _ ≤ _; exact Nat.le_of_eq rfl) (hb hby at_6) (fun _ _ => ⟨rfl, e0, (by decide : 0 + 0 ≤ _), (by decide : 0 + 0 ≤ _)⟩)
  dsimp only [Pt.U, Pt.locs, Pt.cells, Pt.slots] at X50 l50 y50 z50 st50 hQ50
  subst l50 y50 z50
  obtain ⟨rfl, N50q, e50⟩ := hQ50
  have N50 := Fr.app N0 N50q
  obtain ⟨_, _, ⟨T51, L51, k51, n51⟩, -, X51, ⟨Lc51, hQ51, l51, y51, z51⟩, st51⟩ := Jvm.LawKit.callS X50 hx (y := (⟨"com/example/durable_dispatch/durabledispatch/http/HttpHeadIsTokenBytePinLaw", "expected", "(I)Z"⟩ : MethodName)) hown (mvT hZ (hw _ (List.mem_of_getElem? (i := 6) rfl))) (mvT hZ (hw _ (List.mem_of_getElem? (i := 7) rfl))) (mvT hZ (hw _ (List.mem_of_getElem? (i := 8) rfl))) (mvT hZ (hw _ (List.mem_of_getElem? (i := 9) rfl))) (by decide) (backOf (W := 1) (rm2 l Z a0 hw [] (p1.toInt8.toInt32) h0 n0 Z0) hZ (hw _ (List.mem_of_getElem? (i := 9) rfl)) (hw _ (List.mem_of_getElem? (i := 8) rfl)) (by decide) (by decide)) (g := (mkF m 10 #[.val (.int p1), .val (.int (p1.toInt8.toInt32)), .val (.int (p1.toInt8.toInt32))] [(.int (p1.toInt8.toInt32)), (.int (tkV (p1.toInt8.toInt32)))])) rfl (by rw [hml]; rfl) (argsL := [(.int (p1.toInt8.toInt32))]) (rest := [(.int (tkV (p1.toInt8.toInt32)))]) (lenOf pd_2 rfl) rfl (by show 2 * 0 + _ ≤ _; exact Nat.le_of_eq rfl) (hb hby at_10) (fun _ _ => ⟨rfl, e50, (by decide : 0 + 0 ≤ _), (by decide : 0 + 0 ≤ _)⟩)
  dsimp only [Pt.U, Pt.locs, Pt.cells, Pt.slots] at X51 l51 y51 z51 st51 hQ51
  subst l51 y51 z51
  obtain ⟨rfl, N51q, e51⟩ := hQ51
  have N51 := Fr.app N50 N51q
  have pre52 : Lead p e below (T51.setTop (mkF m 21 #[.val (.int p1), .val (.int (p1.toInt8.toInt32)), .val (.int (p1.toInt8.toInt32))] [(.int (1 : Int32))])) (s₁.setTop (entryFrame m #[(.int p1)] maxLocals)) := fun t k => by
    refine pre0 t ?_
    refine XS.iloadN X0.here hx rfl (hb hby at_0) rfl ?_
    show Steps p.tables e below (s₁.setTop (mkF m 1 #[.val (.int p1), .unset, .unset] [(.int p1)])) _
    refine XS.i2b X0.here hx rfl (hb hby at_1) rfl ?_
    show Steps p.tables e below (s₁.setTop (mkF m 2 #[.val (.int p1), .unset, .unset] [(.int (p1.toInt8.toInt32))])) _
    refine XS.istoreN X0.here hx rfl (hb hby at_2) rfl (l' := #[.val (.int p1), .val (.int (p1.toInt8.toInt32)), .unset]) rfl ?_
    show Steps p.tables e below (s₁.setTop (mkF m 3 #[.val (.int p1), .val (.int (p1.toInt8.toInt32)), .unset] [])) _
    refine XS.iloadN X0.here hx rfl (hb hby at_3) rfl ?_
    show Steps p.tables e below (s₁.setTop (mkF m 4 #[.val (.int p1), .val (.int (p1.toInt8.toInt32)), .unset] [(.int (p1.toInt8.toInt32))])) _
    refine XS.istoreN X0.here hx rfl (hb hby at_4) rfl (l' := #[.val (.int p1), .val (.int (p1.toInt8.toInt32)), .val (.int (p1.toInt8.toInt32))]) rfl ?_
    show Steps p.tables e below (s₁.setTop (mkF m 5 #[.val (.int p1), .val (.int (p1.toInt8.toInt32)), .val (.int (p1.toInt8.toInt32))] [])) _
    refine XS.iloadN X0.here hx rfl (hb hby at_5) rfl ?_
    show Steps p.tables e below (s₁.setTop (mkF m 6 #[.val (.int p1), .val (.int (p1.toInt8.toInt32)), .val (.int (p1.toInt8.toInt32))] [(.int (p1.toInt8.toInt32))])) _
    refine st50 _ ?_
    show Steps p.tables e below (T50.setTop (mkF m 9 #[.val (.int p1), .val (.int (p1.toInt8.toInt32)), .val (.int (p1.toInt8.toInt32))] [(.int (tkV (p1.toInt8.toInt32)))])) _
    refine XS.iloadN X50.here hx rfl (hb hby at_9) rfl ?_
    show Steps p.tables e below (T50.setTop (mkF m 10 #[.val (.int p1), .val (.int (p1.toInt8.toInt32)), .val (.int (p1.toInt8.toInt32))] [(.int (p1.toInt8.toInt32)), (.int (tkV (p1.toInt8.toInt32)))])) _
    refine st51 _ ?_
    show Steps p.tables e below (T51.setTop (mkF m 13 #[.val (.int p1), .val (.int (p1.toInt8.toInt32)), .val (.int (p1.toInt8.toInt32))] [(.int (expV (p1.toInt8.toInt32))), (.int (tkV (p1.toInt8.toInt32)))])) _
    refine XS.icmpNo X51.here hx rfl (hb hby at_13) rfl (teq (own_tk (c := (p1.toInt8.toInt32)))).2 ?_
    show Steps p.tables e below (T51.setTop (mkF m 16 #[.val (.int p1), .val (.int (p1.toInt8.toInt32)), .val (.int (p1.toInt8.toInt32))] [])) _
    refine XS.iconst X51.here hx rfl (hb hby at_16) ?_
    show Steps p.tables e below (T51.setTop (mkF m 17 #[.val (.int p1), .val (.int (p1.toInt8.toInt32)), .val (.int (p1.toInt8.toInt32))] [(.int (1 : Int32))])) _
    refine XS.goto X51.here hx rfl (pc0 := 17) (pc' := 21) rfl (hb hby at_17) (by decide) (by decide) ?_
    show Steps p.tables e below (T51.setTop (mkF m 21 #[.val (.int p1), .val (.int (p1.toInt8.toInt32)), .val (.int (p1.toInt8.toInt32))] [(.int (1 : Int32))])) _
    exact k
  obtain ⟨fs, hr, hrun, hended, hW, hsame⟩ := X51.leave (v := some (.int (1 : Int32))) (fun h => by rw [Bd.returns] at h; cases h)
  refine ⟨_, _, pre52 _ ?_, hrun, hended, _, _, rfl, ?_, ⟨_, rfl⟩, hW, hsame.mono (by decide) (by decide)⟩
  · exact retN X51 hx (t := .boolean) Bd.returns (by simp) (hb hby at_21) hr
  · show Q0 Z p1 h0 n0 _ T51.heap _
    rw [e51]
    exact ⟨rfl, N51⟩
set_option maxRecDepth 65536 in
set_option maxHeartbeats 40000000 in
theorem comes_1 {Post : Tables → Env → Array Value → State → Outcome → State → Prop} (hpost : ∀ tb e args s v u, (limb_1_1.after args s (.returned v) u = true ∧ limb_1_2.after args s (.returned v) u = true ∧ True) → FrameEnd s (.returned v) u (Jvm.fieldLocs frame_1_writes args s ++ Jvm.arrayLocs frame_1_arrays args s ++ Jvm.staticLocs frame_1_statics s) 0 0 → Post tb e args s (.returned v) u) :
    ArmFor flags0 classFile x code maxLocals ret World_1 tables_1 room_1 Calls_1 rest_1 Pre_1 Post := by
  intro l hfl _ _ p e ha hc hk s m args below hf hA hF happ hP
  obtain ⟨hcalls, hrest, hpre⟩ := hP
  obtain ⟨-, -, -, hnamed, -, -, -, hat⟩ := (Spec.applies_iff hf).mp happ
  obtain ⟨hg, hn⟩ := and_e (Cond.before_iff.mp (show (Jvm.Cond.and given_1 narrow_1).before args s = true from hpre))
  obtain ⟨hcount, g2⟩ := and_e hg
  obtain ⟨n0, nr1⟩ := and_e hn
  obtain ⟨n1, nr2⟩ := and_e nr1
  obtain ⟨n2, nr3⟩ := and_e nr2
  obtain ⟨n3, nr4⟩ := and_e nr3
  obtain ⟨n4, nr5⟩ := and_e nr4
  obtain ⟨n5, nr6⟩ := and_e nr5
  obtain ⟨n6, nr7⟩ := and_e nr6
  obtain ⟨n7, nr8⟩ := and_e nr7
  obtain ⟨n8, nr9⟩ := and_e nr8
  obtain ⟨n9, nr10⟩ := and_e nr9
  obtain ⟨n10, nr11⟩ := and_e nr10
  obtain ⟨n11, nr12⟩ := and_e nr11
  obtain ⟨n12, nr13⟩ := and_e nr12
  obtain ⟨n13, nr14⟩ := and_e nr13
  obtain ⟨n14, nr15⟩ := and_e nr14
  obtain ⟨n15, nr16⟩ := and_e nr15
  obtain ⟨n16, nr17⟩ := and_e nr16
  obtain ⟨n17, nr18⟩ := and_e nr17
  obtain ⟨n18, nr19⟩ := and_e nr18
  obtain ⟨n19, nr20⟩ := and_e nr19
  obtain ⟨n20, nr21⟩ := and_e nr20
  obtain ⟨n21, nr22⟩ := and_e nr21
  obtain ⟨n22, nr23⟩ := and_e nr22
  obtain ⟨n23, nr24⟩ := and_e nr23
  obtain ⟨n24, n25⟩ := and_e nr24
  obtain ⟨w0, rfl⟩ : ∃ w0 : Value, args = #[w0] := by
    have hs : args.size = 1 := by simpa [Cond.value, given_1] using hcount
    obtain ⟨L⟩ := args
    match L, hs with
    | [w0], _ => exact ⟨w0, rfl⟩
  have hw := fun d (hd : d ∈ tables_1) => atoms_spec (ws := Jvm.Cond.code x code maxLocals ret :: tables_1) hat d (List.mem_cons_of_mem _ hd)
  have hfit : Fit s := fun {y c} hc i hi => by
    obtain ⟨ha, rfl⟩ := Array.getElem?_eq_some_iff.mp hc
    have q := List.all_eq_true.mp ((Array.all_eq_true_iff_forall_mem.mp hF) _ (Array.getElem_mem ha)) i (List.mem_range.mpr hi)
    simpa [Array.getElem?_eq_getElem hi] using q
  obtain ⟨i0, ei0⟩ := is_v g2
  obtain rfl : w0 = (.int i0) := Option.some.inj ei0
  obtain ⟨ta, ev⟩ := arr_v n0
  have S1 := Sta.start ev (Or.inr ⟨(hw _ (List.mem_of_getElem? (i := 2) rfl)), (hw _ (List.mem_of_getElem? (i := 5) rfl))⟩)
  obtain ⟨cl, Ar⟩ := Arr.start ev n0
  have hAt : s.arrayAt? ta = some cl := Arr.fin (Vm.Alike.refl _) Ar
  have evj : ∀ idx : List Nat, (Term.static "com/example/durable_dispatch/durabledispatch/http/HttpHead" "TOKEN_BYTES" "[Z").eval #[Value.int i0] s none idx s = some (.ref ta) := fun idx => ev
  have k33 := elem_in (eqv_i (F := .int (1 : Int32)) (y := (1 : Int32)) rfl n3) ev (j := (33 : Int32)) rfl Ar.1
  have k34 := elem_in (eqv_i (F := .int (0 : Int32)) (y := (0 : Int32)) rfl n4) ev (j := (34 : Int32)) rfl Ar.1
  have k40 := elem_in (eqv_i (F := .int (0 : Int32)) (y := (0 : Int32)) rfl n6) ev (j := (40 : Int32)) rfl Ar.1
  have k41 := elem_in (eqv_i (F := .int (0 : Int32)) (y := (0 : Int32)) rfl n7) ev (j := (41 : Int32)) rfl Ar.1
  have k42 := elem_in (eqv_i (F := .int (1 : Int32)) (y := (1 : Int32)) rfl n8) ev (j := (42 : Int32)) rfl Ar.1
  have k43 := elem_in (eqv_i (F := .int (1 : Int32)) (y := (1 : Int32)) rfl n9) ev (j := (43 : Int32)) rfl Ar.1
  have k44 := elem_in (eqv_i (F := .int (0 : Int32)) (y := (0 : Int32)) rfl n10) ev (j := (44 : Int32)) rfl Ar.1
  have k45 := elem_in (eqv_i (F := .int (1 : Int32)) (y := (1 : Int32)) rfl n11) ev (j := (45 : Int32)) rfl Ar.1
  have k46 := elem_in (eqv_i (F := .int (1 : Int32)) (y := (1 : Int32)) rfl n12) ev (j := (46 : Int32)) rfl Ar.1
  have k47 := elem_in (eqv_i (F := .int (0 : Int32)) (y := (0 : Int32)) rfl n13) ev (j := (47 : Int32)) rfl Ar.1
  have k91 := elem_in (eqv_i (F := .int (0 : Int32)) (y := (0 : Int32)) rfl n17) ev (j := (91 : Int32)) rfl Ar.1
  have k92 := elem_in (eqv_i (F := .int (0 : Int32)) (y := (0 : Int32)) rfl n18) ev (j := (92 : Int32)) rfl Ar.1
  have k93 := elem_in (eqv_i (F := .int (0 : Int32)) (y := (0 : Int32)) rfl n19) ev (j := (93 : Int32)) rfl Ar.1
  have k123 := elem_in (eqv_i (F := .int (0 : Int32)) (y := (0 : Int32)) rfl n21) ev (j := (123 : Int32)) rfl Ar.1
  have k124 := elem_in (eqv_i (F := .int (1 : Int32)) (y := (1 : Int32)) rfl n22) ev (j := (124 : Int32)) rfl Ar.1
  have k125 := elem_in (eqv_i (F := .int (0 : Int32)) (y := (0 : Int32)) rfl n23) ev (j := (125 : Int32)) rfl Ar.1
  have k126 := elem_in (eqv_i (F := .int (1 : Int32)) (y := (1 : Int32)) rfl n24) ev (j := (126 : Int32)) rfl Ar.1
  have k127 := elem_in (eqv_i (F := .int (0 : Int32)) (y := (0 : Int32)) rfl n25) ev (j := (127 : Int32)) rfl Ar.1
  have hin : ∀ j : Int32, ¬ j < 0 → j.toInt < 128 → ¬ (j < 0 ∨ cl.slots.size ≤ j.toNatClampNeg) := fun j h1 h2 => by
    have h3 := own_nlt (n := 0) (by decide) h1
    have h4 : ¬ cl.slots.size ≤ 127 := fun q => k127.1 (Or.inr q)
    have h5 : j.toNatClampNeg = j.toInt.toNat := rfl
    rintro (q | q)
    · exact h1 q
    · omega
  have hat : ∀ j : Int32, ¬ j < 0 → j.toInt < 128 → cl.slots[j.toNatClampNeg]? = some (.int (expV j)) := fun j h1 h2 => by
    have h3 := own_nlt (n := 0) (by decide) h1
    have h6 := hin j h1 h2
    have hk : j.toNatClampNeg < cl.slots.size := Nat.lt_of_not_le fun q => h6 (Or.inr q)
    by_cases c0 : j.toInt < 33
    · have q := Cond.all_elim ev hAt n2 _ hk
      rw [Cond.or_of_right (nay (Cond.le_ints (Term.int_eval _) (idx_at h1)) (fun r => by have r1 := Int32.le_iff_toInt_le.mp r; have r2 : (33 : Int32).toInt = 33 := (by decide); omega))] at q
      rw [own_e0 (by unfold expC; omega)]; exact (elem_in (eqv_i (F := .int (0 : Int32)) (y := (0 : Int32)) rfl q) (evj _) (idx_at h1) Ar.1).2
    by_cases c1 : j.toInt = 33
    · obtain rfl : j = (33 : Int32) := Int32.toInt_inj.mp (c1.trans (by decide))
      rw [own_e1 (by unfold expC; decide)]; exact k33.2
    by_cases c2 : j.toInt = 34
    · obtain rfl : j = (34 : Int32) := Int32.toInt_inj.mp (c2.trans (by decide))
      rw [own_e0 (by unfold expC; decide)]; exact k34.2
    by_cases c3 : j.toInt < 40
    · have q := Cond.all_elim ev hAt n5 _ hk
      rw [Cond.or_of_right (nay (Cond.lt_ints (idx_at h1) (Term.int_eval _)) (fun r => by have := own_lt (n := 35) (by decide) r; omega))] at q
      rw [Cond.or_of_right (nay (Cond.le_ints (Term.int_eval _) (idx_at h1)) (fun r => by have r1 := Int32.le_iff_toInt_le.mp r; have r2 : (40 : Int32).toInt = 40 := (by decide); omega))] at q
      rw [own_e1 (by unfold expC; omega)]; exact (elem_in (eqv_i (F := .int (1 : Int32)) (y := (1 : Int32)) rfl q) (evj _) (idx_at h1) Ar.1).2
    by_cases c4 : j.toInt = 40
    · obtain rfl : j = (40 : Int32) := Int32.toInt_inj.mp (c4.trans (by decide))
      rw [own_e0 (by unfold expC; decide)]; exact k40.2
    by_cases c5 : j.toInt = 41
    · obtain rfl : j = (41 : Int32) := Int32.toInt_inj.mp (c5.trans (by decide))
      rw [own_e0 (by unfold expC; decide)]; exact k41.2
    by_cases c6 : j.toInt = 42
    · obtain rfl : j = (42 : Int32) := Int32.toInt_inj.mp (c6.trans (by decide))
      rw [own_e1 (by unfold expC; decide)]; exact k42.2
    by_cases c7 : j.toInt = 43
    · obtain rfl : j = (43 : Int32) := Int32.toInt_inj.mp (c7.trans (by decide))
      rw [own_e1 (by unfold expC; decide)]; exact k43.2
    by_cases c8 : j.toInt = 44
    · obtain rfl : j = (44 : Int32) := Int32.toInt_inj.mp (c8.trans (by decide))
      rw [own_e0 (by unfold expC; decide)]; exact k44.2
    by_cases c9 : j.toInt = 45
    · obtain rfl : j = (45 : Int32) := Int32.toInt_inj.mp (c9.trans (by decide))
      rw [own_e1 (by unfold expC; decide)]; exact k45.2
    by_cases c10 : j.toInt = 46
    · obtain rfl : j = (46 : Int32) := Int32.toInt_inj.mp (c10.trans (by decide))
      rw [own_e1 (by unfold expC; decide)]; exact k46.2
    by_cases c11 : j.toInt = 47
    · obtain rfl : j = (47 : Int32) := Int32.toInt_inj.mp (c11.trans (by decide))
      rw [own_e0 (by unfold expC; decide)]; exact k47.2
    by_cases c12 : j.toInt < 58
    · have q := Cond.all_elim ev hAt n14 _ hk
      rw [Cond.or_of_right (nay (Cond.lt_ints (idx_at h1) (Term.int_eval _)) (fun r => by have := own_lt (n := 48) (by decide) r; omega))] at q
      rw [Cond.or_of_right (nay (Cond.le_ints (Term.int_eval _) (idx_at h1)) (fun r => by have r1 := Int32.le_iff_toInt_le.mp r; have r2 : (58 : Int32).toInt = 58 := (by decide); omega))] at q
      rw [own_e1 (by unfold expC; omega)]; exact (elem_in (eqv_i (F := .int (1 : Int32)) (y := (1 : Int32)) rfl q) (evj _) (idx_at h1) Ar.1).2
    by_cases c13 : j.toInt < 65
    · have q := Cond.all_elim ev hAt n15 _ hk
      rw [Cond.or_of_right (nay (Cond.lt_ints (idx_at h1) (Term.int_eval _)) (fun r => by have := own_lt (n := 58) (by decide) r; omega))] at q
      rw [Cond.or_of_right (nay (Cond.le_ints (Term.int_eval _) (idx_at h1)) (fun r => by have r1 := Int32.le_iff_toInt_le.mp r; have r2 : (65 : Int32).toInt = 65 := (by decide); omega))] at q
      rw [own_e0 (by unfold expC; omega)]; exact (elem_in (eqv_i (F := .int (0 : Int32)) (y := (0 : Int32)) rfl q) (evj _) (idx_at h1) Ar.1).2
    by_cases c14 : j.toInt < 91
    · have q := Cond.all_elim ev hAt n16 _ hk
      rw [Cond.or_of_right (nay (Cond.lt_ints (idx_at h1) (Term.int_eval _)) (fun r => by have := own_lt (n := 65) (by decide) r; omega))] at q
      rw [Cond.or_of_right (nay (Cond.le_ints (Term.int_eval _) (idx_at h1)) (fun r => by have r1 := Int32.le_iff_toInt_le.mp r; have r2 : (91 : Int32).toInt = 91 := (by decide); omega))] at q
      rw [own_e1 (by unfold expC; omega)]; exact (elem_in (eqv_i (F := .int (1 : Int32)) (y := (1 : Int32)) rfl q) (evj _) (idx_at h1) Ar.1).2
    by_cases c15 : j.toInt = 91
    · obtain rfl : j = (91 : Int32) := Int32.toInt_inj.mp (c15.trans (by decide))
      rw [own_e0 (by unfold expC; decide)]; exact k91.2
    by_cases c16 : j.toInt = 92
    · obtain rfl : j = (92 : Int32) := Int32.toInt_inj.mp (c16.trans (by decide))
      rw [own_e0 (by unfold expC; decide)]; exact k92.2
    by_cases c17 : j.toInt = 93
    · obtain rfl : j = (93 : Int32) := Int32.toInt_inj.mp (c17.trans (by decide))
      rw [own_e0 (by unfold expC; decide)]; exact k93.2
    by_cases c18 : j.toInt < 123
    · have q := Cond.all_elim ev hAt n20 _ hk
      rw [Cond.or_of_right (nay (Cond.lt_ints (idx_at h1) (Term.int_eval _)) (fun r => by have := own_lt (n := 94) (by decide) r; omega))] at q
      rw [Cond.or_of_right (nay (Cond.le_ints (Term.int_eval _) (idx_at h1)) (fun r => by have r1 := Int32.le_iff_toInt_le.mp r; have r2 : (123 : Int32).toInt = 123 := (by decide); omega))] at q
      rw [own_e1 (by unfold expC; omega)]; exact (elem_in (eqv_i (F := .int (1 : Int32)) (y := (1 : Int32)) rfl q) (evj _) (idx_at h1) Ar.1).2
    by_cases c19 : j.toInt = 123
    · obtain rfl : j = (123 : Int32) := Int32.toInt_inj.mp (c19.trans (by decide))
      rw [own_e0 (by unfold expC; decide)]; exact k123.2
    by_cases c20 : j.toInt = 124
    · obtain rfl : j = (124 : Int32) := Int32.toInt_inj.mp (c20.trans (by decide))
      rw [own_e1 (by unfold expC; decide)]; exact k124.2
    by_cases c21 : j.toInt = 125
    · obtain rfl : j = (125 : Int32) := Int32.toInt_inj.mp (c21.trans (by decide))
      rw [own_e0 (by unfold expC; decide)]; exact k125.2
    by_cases c22 : j.toInt = 126
    · obtain rfl : j = (126 : Int32) := Int32.toInt_inj.mp (c22.trans (by decide))
      rw [own_e1 (by unfold expC; decide)]; exact k126.2
    have c23 : j.toInt = 127 := by omega
    obtain rfl : j = (127 : Int32) := Int32.toInt_inj.mp (c23.trans (by decide))
    rw [own_e0 (by unfold expC; decide)]; exact k127.2
  obtain ⟨n, o, h1, h2, h3, _, L, rfl, ⟨rfl, N⟩, hq⟩ := rm0 l s _ hw tables_1 i0 ta cl s.heap s.heap.size (Nat.le_refl _) S1 Ar hin hat p e ha hc hk s m _ below hf ((Spec.applies_iff_loose hf).mp happ).1 ⟨rfl, State.Warmed39.refl s, rfl⟩ trivial
  refine ⟨n, _, h1, h2, h3, hpost _ _ _ _ _ _ ⟨Cond.after_iff.mpr rfl, Cond.after_iff.mpr (eq_i res_at (Term.int_eval (1)) rfl), trivial⟩ ⟨hq.1, hq.2.1, (hq.2.2.sift fun y hy => Or.inr (N y hy)).mono (by decide) (by decide)⟩⟩
theorem main_1_1 : Claimed_1_1 := comes_1 fun _ _ _ _ _ _ h hF => ⟨h.1, hF⟩
theorem main_1_2 : Claimed_1_2 := comes_1 fun _ _ _ _ _ _ h hF => ⟨h.2.1, hF⟩

end Jvm.Pilot.@@N@@
namespace Jvm.Pilot.@@N@@
open Jvm Jvm.ClassFile Sem Op Lib Jvm.Free Jvm.Stand Jvm.Pilot.@@N@@.Jvm.D
/-! MADE BY PROGRAM (witnessworld.py) out of the Statement's table words and the real class files: 11 classes; the members and pool entries that the words name. The judged class is class 1, her method 1. -/
namespace start1
open Jvm.ClassFile
def u (s : String) : CpInfo := .utf8 (stringToUtf16 s)
/-- a pool by its gaps: so many unusable entries, then the entry; so many at the end -/
def gap : Nat → List CpInfo → List CpInfo
  | 0, r => r
  | n + 1, r => .unusable :: gap n r
def poolList (es : List (Nat × CpInfo)) (last : Nat) : List CpInfo := es.foldr (fun e r => gap e.1 (e.2 :: r)) (gap last [])
def pool (es : List (Nat × CpInfo)) (last : Nat) : Array CpInfo := ⟨poolList es last⟩
def fileOf (pool : Array CpInfo) (this : Nat) (attrs : Array Attribute := #[]) (ms : Array MethodInfo := #[]) (fl : Nat := 33) (sup : Nat := 0) (ifs : Array Nat := #[]) (fds : Array FieldInfo := #[]) : ClassFile where
  minorVersion := 0
  majorVersion := 65
  constantPool := pool
  accessFlags := fl
  thisClass := this
  superClass := sup
  interfaces := ifs
  fields := fds
  methods := ms
  attributes := attrs
def plain (name : String) (sup : Option ClassId) : Class where
  name := name
  kind := .ordinary
  loader := none
  accessFlags := 33
  super := sup
  interfaces := #[]
  cf := none
  fields := #[]
  methods := #[]
  instanceTypes := #[]
  staticTypes := #[]
  resolved := #[]
  callSites := []
  init := .initialized
  statics := none
  mirror := none

def pool0 : Array CpInfo := pool [(5, u "<init>"), (0, u "()V"), (1, .class_ 10), (1, u "java/lang/Object")] 113

def k0m0 : Method := { name := "<init>", desc := "()V", sig := { parameters := [], returnType := none }, accessFlags := 1, code := none }
/-- java/lang/Object -/
def k0 : Class := { plain "java/lang/Object" none with
  accessFlags := 33
  interfaces := #[]
  cf := some (fileOf pool0 8 #[] #[{ accessFlags := 1, nameIndex := 5, descriptorIndex := 6, attributes := #[] }] 33 0 #[] #[])
  fields := #[]
  methods := #[k0m0]
  instanceTypes := #[]
  staticTypes := #[]
  resolved := Array.replicate 124 none
  statics := none }

def pool1 : Array CpInfo := pool [(2, .class_ 4), (1, u "java/lang/Object"), (0, u "<init>"), (0, u "()V"), (0, .methodref 8 9), (0, .class_ 10), (0, .nameAndType 11 12), (0, u "com/example/durable_dispatch/durabledispatch/http/HttpHead"), (0, u "isTokenByte"), (0, u "(B)Z"), (0, .methodref 14 15), (0, .class_ 16), (0, .nameAndType 17 18), (0, u "com/example/durable_dispatch/durabledispatch/http/HttpHeadIsTokenBytePinLaw"), (0, u "expected"), (0, u "(I)Z"), (2, u "law")] 3

def k1m0 : Method := { name := "<init>", desc := "()V", sig := { parameters := [], returnType := none }, accessFlags := 1, code := none }
def k1c1 : Code := { maxStack := 2, maxLocals := 3, code := code, exceptionTable := #[], attributes := #[] }
def k1m1 : Method := { name := "law", desc := "(I)Z", sig := { parameters := [.int], returnType := some .boolean }, accessFlags := 9, code := some k1c1 }
def k1c2 : Code := { maxStack := 2, maxLocals := 1, code := method_3_code, exceptionTable := #[], attributes := #[] }
def k1m2 : Method := { name := "expected", desc := "(I)Z", sig := { parameters := [.int], returnType := some .boolean }, accessFlags := 10, code := some k1c2 }
/-- com/example/durable_dispatch/durabledispatch/http/HttpHeadIsTokenBytePinLaw -/
def k1 : Class := { plain "com/example/durable_dispatch/durabledispatch/http/HttpHeadIsTokenBytePinLaw" (some 0) with
  accessFlags := 49
  interfaces := #[]
  cf := some (fileOf pool1 14 #[] #[{ accessFlags := 1, nameIndex := 5, descriptorIndex := 6, attributes := #[] }, { accessFlags := 9, nameIndex := 21, descriptorIndex := 18, attributes := #[] }, { accessFlags := 10, nameIndex := 17, descriptorIndex := 18, attributes := #[] }] 49 2 #[] #[])
  fields := #[]
  methods := #[k1m0, k1m1, k1m2]
  instanceTypes := #[]
  staticTypes := #[]
  resolved := Array.replicate 25 none
  statics := none }

def pool2 : Array CpInfo := pool [(2, .class_ 4), (1, u "java/lang/Object"), (5, .class_ 12), (1, u "com/example/durable_dispatch/durabledispatch/http/HttpHead"), (0, u "method"), (0, u "Ljava/lang/String;"), (2, u "target"), (4, u "contentLength"), (0, u "J"), (2, u "authorizationStart"), (0, u "I"), (2, u "authorizationEnd"), (2, u "bytes"), (0, u "[B"), (2, u "from"), (2, u "to"), (2, u "lastTarget"), (2, u "http11"), (0, u "Z"), (2, u "chunked"), (2, u "expectsContinue"), (2, u "tokenAsked"), (28, u "isTokenByte"), (0, u "(B)Z"), (4, u "HTTP_11"), (8, u "HTTP_10"), (27, u "METHODS"), (0, u "[Ljava/lang/String;"), (2, u "METHOD_BYTES"), (0, u "[[B"), (118, .fieldref 10 253), (0, .nameAndType 254 255), (0, u "TOKEN_BYTES"), (0, u "[Z"), (33, u "MAX_FIELDS")] 35

def k2c0 : Code := { maxStack := 2, maxLocals := 1, code := prog_30_method_26_code, exceptionTable := #[], attributes := #[] }
def k2m0 : Method := { name := "isTokenByte", desc := "(B)Z", sig := { parameters := [.byte], returnType := some .boolean }, accessFlags := 8, code := some k2c0 }
/-- com/example/durable_dispatch/durabledispatch/http/HttpHead -/
def k2 : Class := { plain "com/example/durable_dispatch/durabledispatch/http/HttpHead" (some 0) with
  accessFlags := 48
  interfaces := #[]
  cf := some (fileOf pool2 10 #[] #[{ accessFlags := 8, nameIndex := 85, descriptorIndex := 86, attributes := #[] }] 48 2 #[] #[{ accessFlags := 24, nameIndex := 289, descriptorIndex := 27, attributes := #[] }, { accessFlags := 26, nameIndex := 91, descriptorIndex := 34, attributes := #[] }, { accessFlags := 26, nameIndex := 100, descriptorIndex := 34, attributes := #[] }, { accessFlags := 26, nameIndex := 128, descriptorIndex := 129, attributes := #[] }, { accessFlags := 26, nameIndex := 132, descriptorIndex := 133, attributes := #[] }, { accessFlags := 26, nameIndex := 254, descriptorIndex := 255, attributes := #[] }, { accessFlags := 18, nameIndex := 33, descriptorIndex := 34, attributes := #[] }, { accessFlags := 18, nameIndex := 37, descriptorIndex := 27, attributes := #[] }, { accessFlags := 18, nameIndex := 40, descriptorIndex := 27, attributes := #[] }, { accessFlags := 18, nameIndex := 43, descriptorIndex := 14, attributes := #[] }, { accessFlags := 2, nameIndex := 13, descriptorIndex := 14, attributes := #[] }, { accessFlags := 2, nameIndex := 17, descriptorIndex := 14, attributes := #[] }, { accessFlags := 2, nameIndex := 46, descriptorIndex := 47, attributes := #[] }, { accessFlags := 2, nameIndex := 22, descriptorIndex := 23, attributes := #[] }, { accessFlags := 2, nameIndex := 50, descriptorIndex := 47, attributes := #[] }, { accessFlags := 2, nameIndex := 53, descriptorIndex := 47, attributes := #[] }, { accessFlags := 2, nameIndex := 56, descriptorIndex := 47, attributes := #[] }, { accessFlags := 2, nameIndex := 26, descriptorIndex := 27, attributes := #[] }, { accessFlags := 2, nameIndex := 30, descriptorIndex := 27, attributes := #[] }])
  fields := #[{ name := "MAX_FIELDS", type := .int, accessFlags := 24, slot := 0, constantValue := 0 }, { name := "HTTP_11", type := (.array .byte), accessFlags := 26, slot := 1, constantValue := 0 }, { name := "HTTP_10", type := (.array .byte), accessFlags := 26, slot := 2, constantValue := 0 }, { name := "METHODS", type := (.array (.object "java/lang/String")), accessFlags := 26, slot := 3, constantValue := 0 }, { name := "METHOD_BYTES", type := (.array (.array .byte)), accessFlags := 26, slot := 4, constantValue := 0 }, { name := "TOKEN_BYTES", type := (.array .boolean), accessFlags := 26, slot := 5, constantValue := 0 }, { name := "bytes", type := (.array .byte), accessFlags := 18, slot := 0, constantValue := 0 }, { name := "from", type := .int, accessFlags := 18, slot := 1, constantValue := 0 }, { name := "to", type := .int, accessFlags := 18, slot := 2, constantValue := 0 }, { name := "lastTarget", type := (.object "java/lang/String"), accessFlags := 18, slot := 3, constantValue := 0 }, { name := "method", type := (.object "java/lang/String"), accessFlags := 2, slot := 4, constantValue := 0 }, { name := "target", type := (.object "java/lang/String"), accessFlags := 2, slot := 5, constantValue := 0 }, { name := "http11", type := .boolean, accessFlags := 2, slot := 6, constantValue := 0 }, { name := "contentLength", type := .long, accessFlags := 2, slot := 7, constantValue := 0 }, { name := "chunked", type := .boolean, accessFlags := 2, slot := 8, constantValue := 0 }, { name := "expectsContinue", type := .boolean, accessFlags := 2, slot := 9, constantValue := 0 }, { name := "tokenAsked", type := .boolean, accessFlags := 2, slot := 10, constantValue := 0 }, { name := "authorizationStart", type := .int, accessFlags := 2, slot := 11, constantValue := 0 }, { name := "authorizationEnd", type := .int, accessFlags := 2, slot := 12, constantValue := 0 }]
  methods := #[k2m0]
  instanceTypes := #[(.array .byte), .int, .int, (.object "java/lang/String"), (.object "java/lang/String"), (.object "java/lang/String"), .boolean, .long, .boolean, .boolean, .boolean, .int, .int]
  staticTypes := #[.int, (.array .byte), (.array .byte), (.array (.object "java/lang/String")), (.array (.array .byte)), (.array .boolean)]
  resolved := Array.replicate 325 none
  statics := some 0 }

def pool3 : Array CpInfo := pool [(1, u "java/lang/Cloneable"), (0, .class_ 1), (0, u "java/lang/Object"), (0, .class_ 3)] 3

/-- java/lang/Cloneable -/
def k3 : Class := { plain "java/lang/Cloneable" (some 0) with
  accessFlags := 1537
  interfaces := #[]
  cf := some (fileOf pool3 2 #[] #[] 1537 4 #[] #[])
  fields := #[]
  methods := #[]
  instanceTypes := #[]
  staticTypes := #[]
  resolved := Array.replicate 8 none
  statics := none }

def pool4 : Array CpInfo := pool [(1, u "java/io/Serializable"), (0, .class_ 1), (0, u "java/lang/Object"), (0, .class_ 3)] 3

/-- java/io/Serializable -/
def k4 : Class := { plain "java/io/Serializable" (some 0) with
  accessFlags := 1537
  interfaces := #[]
  cf := some (fileOf pool4 2 #[] #[] 1537 4 #[] #[])
  fields := #[]
  methods := #[]
  instanceTypes := #[]
  staticTypes := #[]
  resolved := Array.replicate 8 none
  statics := none }

/-- the primitive boolean -/
def k5 : Class := { plain "boolean" none with kind := .primitive 'Z', accessFlags := 0x411 }
/-- [Z -/
def k6 : Class := { plain "[Z" (some 0) with kind := .array 5 .boolean, interfaces := #[3, 4], accessFlags := 1041 }

/-- the primitive byte -/
def k7 : Class := { plain "byte" none with kind := .primitive 'B', accessFlags := 0x411 }
/-- [B -/
def k8 : Class := { plain "[B" (some 0) with kind := .array 7 .byte, interfaces := #[3, 4], accessFlags := 1041 }

/-- the primitive int -/
def k9 : Class := { plain "int" none with kind := .primitive 'I', accessFlags := 0x411 }
/-- [I -/
def k10 : Class := { plain "[I" (some 0) with kind := .array 9 .int, interfaces := #[3, 4], accessFlags := 1041 }

def heap : Heap := #[{ cls := 2, slots := #[.int 0, .null, .null, .null, .null, .ref 1], vm := .statics 2 },
  { cls := 6, slots := #[.int 0, .int 0, .int 0, .int 0, .int 0, .int 0, .int 0, .int 0, .int 0, .int 0, .int 0, .int 0, .int 0, .int 0, .int 0, .int 0, .int 0, .int 0, .int 0, .int 0, .int 0, .int 0, .int 0, .int 0, .int 0, .int 0, .int 0, .int 0, .int 0, .int 0, .int 0, .int 0, .int 0, .int 1, .int 0, .int 1, .int 1, .int 1, .int 1, .int 1, .int 0, .int 0, .int 1, .int 1, .int 0, .int 1, .int 1, .int 0, .int 1, .int 1, .int 1, .int 1, .int 1, .int 1, .int 1, .int 1, .int 1, .int 1, .int 0, .int 0, .int 0, .int 0, .int 0, .int 0, .int 0, .int 1, .int 1, .int 1, .int 1, .int 1, .int 1, .int 1, .int 1, .int 1, .int 1, .int 1, .int 1, .int 1, .int 1, .int 1, .int 1, .int 1, .int 1, .int 1, .int 1, .int 1, .int 1, .int 1, .int 1, .int 1, .int 1, .int 0, .int 0, .int 0, .int 1, .int 1, .int 1, .int 1, .int 1, .int 1, .int 1, .int 1, .int 1, .int 1, .int 1, .int 1, .int 1, .int 1, .int 1, .int 1, .int 1, .int 1, .int 1, .int 1, .int 1, .int 1, .int 1, .int 1, .int 1, .int 1, .int 1, .int 1, .int 1, .int 0, .int 1, .int 0, .int 1, .int 0], vm := .none }]
def classes : Array Class := #[k0, k1, k2, k3, k4, k5, k6, k7, k8, k9, k10]
def interned : List (Array UInt16 × Addr) := []
def slotsUsed : Nat := 134
def theMethod : MethodId := ⟨1, 1⟩
def args0 : Array Value := #[.int 5]
def aboutOver (below : List Frame) : State where
  vm := { classes := classes, interned := interned.toArray }
  heap := heap
  slotsUsed := slotsUsed
  threads := #[{ frames := .invoking theMethod args0 :: below }]
def below0 : List Frame := [.native { method := ⟨0, 0⟩, args := #[] }]
def about1 : State := aboutOver below0
def p0 : Program := .bare "" "" ""
def e0 : Env := launch0.env 0 0 0
theorem w_frames : about1.frames = Frame.invoking theMethod args0 :: below0 := rfl
set_option maxRecDepth 65536 in
theorem w_args : argsFit about1.vm theMethod args0 = true := by decide +kernel
set_option maxRecDepth 65536 in
theorem w_heap : heapFits about1 = true := by decide +kernel
set_option maxRecDepth 65536 in
theorem w_runnable : about1.curStatus? = some .runnable := by decide +kernel
set_option maxRecDepth 65536 in
theorem w_alone : about1.alone = true := by decide +kernel
set_option maxRecDepth 65536 in
theorem w_named : about1.methodNamed? x = some theMethod := by decide +kernel
set_option maxRecDepth 65536 in
theorem w_hears : about1.hears theMethod below0 = true := by decide +kernel
set_option maxRecDepth 65536 in
theorem w_ripe : about1.ripe theMethod args0 below0 = true := by decide +kernel
theorem w_running : about1.status = .running := rfl
set_option maxRecDepth 65536 in
theorem w_room : about1.hasRoom e0.platform room_1 = true :=
  launch0.hasRoom_least _ room_1 (by decide +kernel) (by decide +kernel) (by decide +kernel) (by decide +kernel) (by decide +kernel) (by decide +kernel)
theorem allAtoms_all (ts : List Jvm.Cond) (a : Array Jvm.Value) (st : Jvm.State) : (allAtoms ts).before a st = ts.all (fun c => c.before a st) := by
  induction ts with
  | nil => rfl
  | cons c t ih =>
    show (Jvm.Cond.and c (allAtoms t)).before a st = _
    rw [Jvm.Cond.before_and, ih, List.all_cons]
def words1 : List Jvm.Cond := Jvm.Cond.code x code maxLocals ret :: tables_1
/-- a 'code' word, met by the world's own term for the bytes: nothing is compared byte by byte -/
theorem code_word {y : MethodName} {bytes : ByteArray} {mx : Nat} {rt : Option FieldType} {a : Array Value} {s : State} {m : MethodId} {meth : Method} {c : Code} (h1 : s.methodNamed? y = some m) (h2 : s.vm.method? m = some meth) (h3 : meth.code = some c) (h4 : c.code = bytes)
    (h5 : (c.maxLocals == mx && c.exceptionTable.isEmpty && decide (c.maxStack ≤ mostOperands) && decide (meth.sig.returnType = rt) && !meth.locks && decide (parseMethodDescriptor y.desc = some meth.sig)) = true) : (Jvm.Cond.code y bytes mx rt).before a s = true := by
  simp only [Bool.and_eq_true, beq_iff_eq, Bool.not_eq_true', decide_eq_true_eq] at h5
  obtain ⟨⟨⟨⟨⟨g1, g2⟩, g3⟩, g4⟩, g5⟩, g6⟩ := h5
  simp [Cond.before, Cond.holds, Cond.value, h1, h2, h3, h4, g1, g2, g3, g4, g5, g6]
def isCode : Jvm.Cond → Bool
  | .code _ _ _ _ => true
  | _ => false
theorem all_split {L : List Jvm.Cond} {P : Jvm.Cond → Bool} (h1 : L.all (fun c => isCode c || P c) = true) (h2 : ∀ c ∈ L.filter isCode, P c = true) : L.all P = true := by
  refine List.all_eq_true.mpr fun c hc => ?_
  have h := List.all_eq_true.mp h1 c hc
  rcases Bool.eq_false_or_eq_true (isCode c) with hi | hi
  · exact h2 c (List.mem_filter.mpr ⟨hc, hi⟩)
  · simpa [hi] using h
set_option maxRecDepth 65536 in
theorem w_c0 : (Jvm.Cond.code x code maxLocals ret).before args0 about1 = true := code_word (m := ⟨1, 1⟩) (meth := k1m1) (c := k1c1) (by decide +kernel) rfl rfl rfl (by decide +kernel)
set_option maxRecDepth 65536 in
theorem w_c1 : (Jvm.Cond.code ({ cls := "com/example/durable_dispatch/durabledispatch/http/HttpHead", name := "isTokenByte", desc := "(B)Z" } : Jvm.MethodName) prog_30_method_26_code (1 : Nat) (Option.some Jvm.ClassFile.FieldType.boolean)).before args0 about1 = true := code_word (m := ⟨2, 0⟩) (meth := k2m0) (c := k2c0) (by decide +kernel) rfl rfl rfl (by decide +kernel)
set_option maxRecDepth 65536 in
theorem w_c2 : (Jvm.Cond.code ({ cls := "com/example/durable_dispatch/durabledispatch/http/HttpHeadIsTokenBytePinLaw", name := "expected", desc := "(I)Z" } : Jvm.MethodName) method_3_code (1 : Nat) (Option.some Jvm.ClassFile.FieldType.boolean)).before args0 about1 = true := code_word (m := ⟨1, 2⟩) (meth := k1m2) (c := k1c2) (by decide +kernel) rfl rfl rfl (by decide +kernel)
def codes1 : List Jvm.Cond := [Jvm.Cond.code x code maxLocals ret, Jvm.Cond.code ({ cls := "com/example/durable_dispatch/durabledispatch/http/HttpHead", name := "isTokenByte", desc := "(B)Z" } : Jvm.MethodName) prog_30_method_26_code (1 : Nat) (Option.some Jvm.ClassFile.FieldType.boolean), Jvm.Cond.code ({ cls := "com/example/durable_dispatch/durabledispatch/http/HttpHeadIsTokenBytePinLaw", name := "expected", desc := "(I)Z" } : Jvm.MethodName) method_3_code (1 : Nat) (Option.some Jvm.ClassFile.FieldType.boolean)]
set_option maxRecDepth 65536 in
theorem codes_eq : words1.filter isCode = codes1 := rfl
theorem w_codes : ∀ c ∈ words1.filter isCode, c.before args0 about1 = true := by
  rw [codes_eq]
  intro c hc
  simp only [codes1, List.mem_cons, List.not_mem_nil, or_false] at hc
  rcases hc with rfl | rfl | rfl
  · exact w_c0
  · exact w_c1
  · exact w_c2
set_option maxRecDepth 65536 in
theorem w_t1 : words1.all (fun c => isCode c || c.before args0 about1) = true := by decide +kernel
theorem w_tables : (allAtoms (Jvm.Cond.code x code maxLocals ret :: tables_1)).before args0 about1 = true := by
  rw [allAtoms_all]
  show words1.all (fun c => c.before args0 about1) = true
  refine all_split ?_ w_codes
  rw [w_t1]
set_option maxRecDepth 65536 in
theorem w_case : (Jvm.Cond.and given_1 narrow_1).before args0 about1 = true := by decide +kernel
theorem w_applies : (headSpec (Jvm.Cond.code x code maxLocals ret :: tables_1) room_1).applies x e0.platform about1 = true :=
  (Spec.applies_iff w_frames).mpr ⟨w_running, w_runnable, w_alone, w_named, w_hears, w_ripe, w_room, w_tables⟩
theorem atStart : AtStart classFile x code maxLocals ret World_1 tables_1 room_1 Calls_1 rest_1 Pre_1 launch0 p0 e0 about1 theMethod args0 below0 :=
  ⟨lists_1, trivial, launch0.admits_env _ _ _, launch0.least_env, fairChoices_fair.cas, fairChoices_fair.clock, w_frames, w_args, w_heap, w_applies, trivial, trivial, w_case⟩
end start1
theorem witness_1 : WitnessClaimed_1 := ⟨start1.p0, start1.e0, start1.about1, start1.theMethod, start1.args0, start1.below0, start1.atStart⟩
end Jvm.Pilot.@@N@@
