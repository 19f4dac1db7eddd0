import JvmDerived
import JvmDerived.Pilot.@@N@@Statement
import JvmDerived.Pilot.@@N@@Code
set_option linter.unusedVariables false
set_option linter.unusedSimpArgs false
namespace Jvm.Pilot.@@N@@
open Jvm Jvm.ClassFile Sem Op Lib Jvm.Free Jvm.Stand Jvm.LawKit Jvm.RoadKit Bundle Jvm.Pilot.@@N@@.Jvm.D
/-- from A the run comes to wherever it comes from B -/
def Lead (p : Program) (e : Env) (below : List Frame) (A B : State) : Prop := ∀ t, Steps p.tables e below A t → Steps p.tables e below B t
theorem own_lcl (x y : Int64) : lcmpW x y < 0 ↔ x < y := by rw [lcW]; exact lc_lt x y
theorem own_lcg (x y : Int64) : 0 < lcmpW x y ↔ y < x := by rw [lcW]; exact lc_gt x y
theorem own_lce (x y : Int64) : lcmpW x y = 0 ↔ x = y := by rw [lcW]; exact lc_eq x y
theorem pn_0 : plainName "com/example/nominal/nominal/coordinator/ExecutionNewestFirstPinLaw" = true := by first | (simp [plainName, overriddenIn]; done) | decide +kernel
theorem pd_0 : parseMethodDescriptor "(I)Z" = some ⟨[.int], some .boolean⟩ := by decide +kernel
theorem d1_0 : decode method_2_code 0 = .ok (.iload_n 0, 1) := by decide +kernel
theorem d1_1 : decode method_2_code 1 = .ok (.ifCond .ne 7, 3) := by decide +kernel
theorem d1_4 : decode method_2_code 4 = .ok (.getstatic 7, 3) := by decide +kernel
theorem d1_7 : decode method_2_code 7 = .ok (.areturn, 1) := by decide +kernel
theorem d1_8 : decode method_2_code 8 = .ok (.iload_n 0, 1) := by decide +kernel
theorem d1_9 : decode method_2_code 9 = .ok (.iconst 1, 1) := by decide +kernel
theorem d1_10 : decode method_2_code 10 = .ok (.if_icmp .ne 7, 3) := by decide +kernel
theorem d1_13 : decode method_2_code 13 = .ok (.getstatic 13, 3) := by decide +kernel
theorem d1_16 : decode method_2_code 16 = .ok (.areturn, 1) := by decide +kernel
theorem d1_17 : decode method_2_code 17 = .ok (.iload_n 0, 1) := by decide +kernel
theorem d1_18 : decode method_2_code 18 = .ok (.iconst 2, 1) := by decide +kernel
theorem d1_19 : decode method_2_code 19 = .ok (.if_icmp .ne 7, 3) := by decide +kernel
theorem d1_22 : decode method_2_code 22 = .ok (.getstatic 16, 3) := by decide +kernel
theorem d1_25 : decode method_2_code 25 = .ok (.areturn, 1) := by decide +kernel
theorem d1_26 : decode method_2_code 26 = .ok (.getstatic 19, 3) := by decide +kernel
theorem d1_29 : decode method_2_code 29 = .ok (.areturn, 1) := by decide +kernel
theorem pn_1 : plainName "com/example/nominal/nominal/coordinator/ExecutionNewestFirstPinLaw" = true := by first | (simp [plainName, overriddenIn]; done) | decide +kernel
theorem pd_1 : parseMethodDescriptor "(I)Lcom/example/nominal/nominal/coordinator/Execution;" = some ⟨[.int], some (.object "com/example/nominal/nominal/coordinator/Execution")⟩ := by decide +kernel
theorem d2_0 : decode prog_7_method_4_code 0 = .ok (.aload_n 0, 1) := by decide +kernel
theorem d2_1 : decode prog_7_method_4_code 1 = .ok (.getstatic 7, 3) := by decide +kernel
theorem d2_4 : decode prog_7_method_4_code 4 = .ok (.if_acmp .ne 7, 3) := by decide +kernel
theorem d2_7 : decode prog_7_method_4_code 7 = .ok (.iconst 1, 1) := by decide +kernel
theorem d2_8 : decode prog_7_method_4_code 8 = .ok (.goto 4, 3) := by decide +kernel
theorem d2_11 : decode prog_7_method_4_code 11 = .ok (.iconst 0, 1) := by decide +kernel
theorem d2_12 : decode prog_7_method_4_code 12 = .ok (.ireturn, 1) := by decide +kernel
theorem pn_2 : plainName "com/example/nominal/nominal/coordinator/Execution" = true := by first | (simp [plainName, overriddenIn]; done) | decide +kernel
theorem pd_2 : parseMethodDescriptor "()Z" = some ⟨[], some .boolean⟩ := by decide +kernel

def pk (i : Int32) (f0 f1 f2 f3 : Addr) : Addr := if i = 0 then f0 else if i = 1 then f1 else if i = 2 then f2 else f3
def nw (a f : Addr) : Int32 := if a = f then 1 else 0
def exv (i : Int32) : Int32 := if i = 1 then 1 else 0
theorem own_pk {i : Int32} {f0 f1 f2 f3 : Addr} (h0 : f0 ≠ f1) (h2 : f2 ≠ f1) (h3 : f3 ≠ f1) : nw (pk i f0 f1 f2 f3) f1 = exv i := by
  unfold nw pk exv
  by_cases q0 : i = 0
  · subst q0; simp [h0]
  · by_cases q1 : i = 1
    · subst q1; simp
    · by_cases q2 : i = 2
      · subst q2; simp [h2]
      · simp [q0, q1, q2, h3]
theorem own_pkE {Z : State} {h : Heap} {i : Int32} {f0 f1 f2 f3 : Addr} {K : String} (h0 : Exa Z h f0 K) (h1 : Exa Z h f1 K) (h2 : Exa Z h f2 K) (h3 : Exa Z h f3 K) : Exa Z h (pk i f0 f1 f2 f3) K := by
  unfold pk
  by_cases q0 : i = 0
  · rw [if_pos q0]; exact h0
  · rw [if_neg q0]
    by_cases q1 : i = 1
    · rw [if_pos q1]; exact h1
    · rw [if_neg q1]
      by_cases q2 : i = 2
      · rw [if_pos q2]; exact h2
      · rw [if_neg q2]; exact h3
def Q1 (Z : State) (p0 : Int32) (f0 f1 f2 f3 : Addr) (h0 : Heap) (n0 : Nat) (v : Option Value) (h : Heap) (L : List Loc) : Prop := v = some (.ref (pk p0 f0 f1 f2 f3)) ∧ Fr n0 L ∧ h = h0
theorem ef_1 (m : MethodId) (p0 : Int32) : entryFrame m #[(.int p0)] 1 = mkF m 0 #[.val (.int p0)] [] := by first | (simp [entryFrame, mkF, argsToLocals, Value.category]; done) | rfl
set_option maxRecDepth 65536 in
set_option maxHeartbeats 40000000 in
theorem rm1 (l : Launch) (Z : State) (a0 : Array Value) (hw : ∀ d ∈ tables_1, d.before a0 Z = true) (ws : List Jvm.Cond) (p0 : Int32) (f0 f1 f2 f3 : Addr) (h0 : Heap) (n0 : Nat) (Z0 : n0 ≤ h0.size) (S_FIFO : Sta Z h0 "com/example/nominal/nominal/coordinator/Execution" "FIFO" "Lcom/example/nominal/nominal/coordinator/Execution;" (.ref f0)) (S_LIFO : Sta Z h0 "com/example/nominal/nominal/coordinator/Execution" "LIFO" "Lcom/example/nominal/nominal/coordinator/Execution;" (.ref f1)) (S_LAST_ONLY : Sta Z h0 "com/example/nominal/nominal/coordinator/Execution" "LAST_ONLY" "Lcom/example/nominal/nominal/coordinator/Execution;" (.ref f2)) (S_NONE : Sta Z h0 "com/example/nominal/nominal/coordinator/Execution" "NONE" "Lcom/example/nominal/nominal/coordinator/Execution;" (.ref f3)) :
    MetFree l (⟨"com/example/nominal/nominal/coordinator/ExecutionNewestFirstPinLaw", "pick", "(I)Lcom/example/nominal/nominal/coordinator/Execution;"⟩ : MethodName) (head1 (Jvm.Cond.code (⟨"com/example/nominal/nominal/coordinator/ExecutionNewestFirstPinLaw", "pick", "(I)Lcom/example/nominal/nominal/coordinator/Execution;"⟩ : MethodName) method_2_code 1 (some (.object "com/example/nominal/nominal/coordinator/Execution")) :: ws) ({ frames := 0, cells := 0, slots := 0, locals := 0 } : Room)) (fun a U => a = #[(.int p0)] ∧ Z.Warmed39 U.vm ∧ U.heap = h0) (fun _ _ _ _ _ => True) (fun _ U o U' => ∃ v L, o = .returned v ∧ Q1 Z p0 f0 f1 f2 f3 h0 n0 v U'.heap L ∧ FrameEnd U o U' L ({ frames := 0, cells := 0, slots := 0, locals := 0 } : Room).cells ({ frames := 0, cells := 0, slots := 0, locals := 0 } : Room).slots) := by
  refine MetFree.of_bodySF (plainFor_of_name pn_1) hisR ?_
  intro p e s m args below meth c s₁ Bd hml0 hP hK
  obtain ⟨rfl, hZ, hh⟩ := hP
  have hx := Bd.exec
  have hby := Bd.bytes
  have hml : c.maxLocals = 1 := hml0
  have hown : s.vm.findClass "com/example/nominal/nominal/coordinator/ExecutionNewestFirstPinLaw" = some m.cls := findClass_of_methodNamed Bd.named
  have hnm := (name_of_methodNamed Bd.named Bd.method).1
  have X0 : Stand p l e ({ frames := 0, cells := 0, slots := 0, locals := 0 } : Room) s m #[(.int p0)] below meth c s₁ [] 0 0 := Stand.of_body Bd
  have e0 : s₁.heap = h0 := by rw [← hh, Bd.state]; rfl
  have N0 := Fr.nil n0
  have pre0 : Lead p e below (s₁.setTop (mkF m 0 #[.val (.int p0)] [])) (s₁.setTop (entryFrame m #[(.int p0)] 1)) := fun t k => castTop (ef_1 m p0) k
  have pre1 : Lead p e below (s₁.setTop (mkF m 1 #[.val (.int p0)] [(.int p0)])) (s₁.setTop (entryFrame m #[(.int p0)] 1)) := fun t k => by
    refine pre0 t ?_
    refine XS.iloadN X0.here hx rfl (hb hby d1_0) rfl ?_
    show Steps p.tables e below (s₁.setTop (mkF m 1 #[.val (.int p0)] [(.int p0)])) _
    exact k
  by_cases h1 : p0 = (0 : Int32)
  · skip
    obtain ⟨T2, X2, e2, st2⟩ := getS2 X0 hx hZ hown (host := "") (Or.inl (hw _ (List.mem_of_getElem? (i := 4) rfl))) Via.refl e0 S_FIFO (g := (mkF m 4 #[.val (.int p0)] [])) rfl (hb hby d1_4)
    have pre3 : Lead p e below (T2.setTop (mkF m 7 #[.val (.int p0)] [(.ref f0)])) (s₁.setTop (entryFrame m #[(.int p0)] 1)) := fun t k => by
      refine pre1 t ?_
      refine XS.ifNo X0.here hx rfl (hb hby d1_1) rfl ((if0 _ _).trans (teq h1).2) ?_
      show Steps p.tables e below (s₁.setTop (mkF m 4 #[.val (.int p0)] [])) _
      refine st2 _ ?_
      show Steps p.tables e below (T2.setTop (mkF m 7 #[.val (.int p0)] [(.ref f0)])) _
      exact k
    obtain ⟨fs, hr, hrun, hended, hW, hsame⟩ := X2.leave (v := some (.ref f0)) (fun h => by rw [Bd.returns] at h; cases h)
    refine ⟨_, _, pre3 _ ?_, hrun, hended, _, _, rfl, ?_, ⟨_, rfl⟩, hW, hsame.mono (by decide) (by decide)⟩
    · exact retOut X2 hx (t := (.object "com/example/nominal/nominal/coordinator/Execution")) Bd.returns rfl (Or.inr (Or.inr (Or.inr (Or.inr ⟨rfl, rfl, rfl⟩)))) (hb hby d1_7) hr
    · show Q1 Z p0 f0 f1 f2 f3 h0 n0 _ T2.heap _
      rw [e2]
      exact ⟨by rw [pk, if_pos h1], N0, rfl⟩
  · skip
    have pre4 : Lead p e below (s₁.setTop (mkF m 10 #[.val (.int p0)] [(.int (1 : Int32)), (.int p0)])) (s₁.setTop (entryFrame m #[(.int p0)] 1)) := fun t k => by
      refine pre1 t ?_
      refine XS.ifYes X0.here hx rfl (pc0 := 1) (pc' := 8) rfl (hb hby d1_1) rfl ((if0 _ _).trans (feq h1).2) (by decide) (by decide) ?_
      show Steps p.tables e below (s₁.setTop (mkF m 8 #[.val (.int p0)] [])) _
      refine XS.iloadN X0.here hx rfl (hb hby d1_8) rfl ?_
      show Steps p.tables e below (s₁.setTop (mkF m 9 #[.val (.int p0)] [(.int p0)])) _
      refine XS.iconst X0.here hx rfl (hb hby d1_9) ?_
      show Steps p.tables e below (s₁.setTop (mkF m 10 #[.val (.int p0)] [(.int (1 : Int32)), (.int p0)])) _
      exact k
    by_cases h2 : p0 = (1 : Int32)
    · skip
      obtain ⟨T5, X5, e5, st5⟩ := getS2 X0 hx hZ hown (host := "") (Or.inl (hw _ (List.mem_of_getElem? (i := 18) rfl))) Via.refl e0 S_LIFO (g := (mkF m 13 #[.val (.int p0)] [])) rfl (hb hby d1_13)
      have pre6 : Lead p e below (T5.setTop (mkF m 16 #[.val (.int p0)] [(.ref f1)])) (s₁.setTop (entryFrame m #[(.int p0)] 1)) := fun t k => by
        refine pre4 t ?_
        refine XS.icmpNo X0.here hx rfl (hb hby d1_10) rfl (teq h2).2 ?_
        show Steps p.tables e below (s₁.setTop (mkF m 13 #[.val (.int p0)] [])) _
        refine st5 _ ?_
        show Steps p.tables e below (T5.setTop (mkF m 16 #[.val (.int p0)] [(.ref f1)])) _
        exact k
      obtain ⟨fs, hr, hrun, hended, hW, hsame⟩ := X5.leave (v := some (.ref f1)) (fun h => by rw [Bd.returns] at h; cases h)
      refine ⟨_, _, pre6 _ ?_, hrun, hended, _, _, rfl, ?_, ⟨_, rfl⟩, hW, hsame.mono (by decide) (by decide)⟩
      · exact retOut X5 hx (t := (.object "com/example/nominal/nominal/coordinator/Execution")) Bd.returns rfl (Or.inr (Or.inr (Or.inr (Or.inr ⟨rfl, rfl, rfl⟩)))) (hb hby d1_16) hr
      · show Q1 Z p0 f0 f1 f2 f3 h0 n0 _ T5.heap _
        rw [e5]
        exact ⟨by rw [pk, if_neg h1, if_pos h2], N0, rfl⟩
    · skip
      have pre7 : Lead p e below (s₁.setTop (mkF m 19 #[.val (.int p0)] [(.int (2 : Int32)), (.int p0)])) (s₁.setTop (entryFrame m #[(.int p0)] 1)) := fun t k => by
        refine pre4 t ?_
        refine XS.icmpYes X0.here hx rfl (pc0 := 10) (pc' := 17) rfl (hb hby d1_10) rfl (feq h2).2 (by decide) (by decide) ?_
        show Steps p.tables e below (s₁.setTop (mkF m 17 #[.val (.int p0)] [])) _
        refine XS.iloadN X0.here hx rfl (hb hby d1_17) rfl ?_
        show Steps p.tables e below (s₁.setTop (mkF m 18 #[.val (.int p0)] [(.int p0)])) _
        refine XS.iconst X0.here hx rfl (hb hby d1_18) ?_
        show Steps p.tables e below (s₁.setTop (mkF m 19 #[.val (.int p0)] [(.int (2 : Int32)), (.int p0)])) _
        exact k
      by_cases h3 : p0 = (2 : Int32)
      · skip
        obtain ⟨T8, X8, e8, st8⟩ := getS2 X0 hx hZ hown (host := "") (Or.inl (hw _ (List.mem_of_getElem? (i := 16) rfl))) Via.refl e0 S_LAST_ONLY (g := (mkF m 22 #[.val (.int p0)] [])) rfl (hb hby d1_22)
        have pre9 : Lead p e below (T8.setTop (mkF m 25 #[.val (.int p0)] [(.ref f2)])) (s₁.setTop (entryFrame m #[(.int p0)] 1)) := fun t k => by
          refine pre7 t ?_
          refine XS.icmpNo X0.here hx rfl (hb hby d1_19) rfl (teq h3).2 ?_
          show Steps p.tables e below (s₁.setTop (mkF m 22 #[.val (.int p0)] [])) _
          refine st8 _ ?_
          show Steps p.tables e below (T8.setTop (mkF m 25 #[.val (.int p0)] [(.ref f2)])) _
          exact k
        obtain ⟨fs, hr, hrun, hended, hW, hsame⟩ := X8.leave (v := some (.ref f2)) (fun h => by rw [Bd.returns] at h; cases h)
        refine ⟨_, _, pre9 _ ?_, hrun, hended, _, _, rfl, ?_, ⟨_, rfl⟩, hW, hsame.mono (by decide) (by decide)⟩
        · exact retOut X8 hx (t := (.object "com/example/nominal/nominal/coordinator/Execution")) Bd.returns rfl (Or.inr (Or.inr (Or.inr (Or.inr ⟨rfl, rfl, rfl⟩)))) (hb hby d1_25) hr
        · show Q1 Z p0 f0 f1 f2 f3 h0 n0 _ T8.heap _
          rw [e8]
          exact ⟨by rw [pk, if_neg h1, if_neg h2, if_pos h3], N0, rfl⟩
      · skip
        obtain ⟨T10, X10, e10, st10⟩ := getS2 X0 hx hZ hown (host := "") (Or.inl (hw _ (List.mem_of_getElem? (i := 14) rfl))) Via.refl e0 S_NONE (g := (mkF m 26 #[.val (.int p0)] [])) rfl (hb hby d1_26)
        have pre11 : Lead p e below (T10.setTop (mkF m 29 #[.val (.int p0)] [(.ref f3)])) (s₁.setTop (entryFrame m #[(.int p0)] 1)) := fun t k => by
          refine pre7 t ?_
          refine XS.icmpYes X0.here hx rfl (pc0 := 19) (pc' := 26) rfl (hb hby d1_19) rfl (feq h3).2 (by decide) (by decide) ?_
          show Steps p.tables e below (s₁.setTop (mkF m 26 #[.val (.int p0)] [])) _
          refine st10 _ ?_
          show Steps p.tables e below (T10.setTop (mkF m 29 #[.val (.int p0)] [(.ref f3)])) _
          exact k
        obtain ⟨fs, hr, hrun, hended, hW, hsame⟩ := X10.leave (v := some (.ref f3)) (fun h => by rw [Bd.returns] at h; cases h)
        refine ⟨_, _, pre11 _ ?_, hrun, hended, _, _, rfl, ?_, ⟨_, rfl⟩, hW, hsame.mono (by decide) (by decide)⟩
        · exact retOut X10 hx (t := (.object "com/example/nominal/nominal/coordinator/Execution")) Bd.returns rfl (Or.inr (Or.inr (Or.inr (Or.inr ⟨rfl, rfl, rfl⟩)))) (hb hby d1_29) hr
        · show Q1 Z p0 f0 f1 f2 f3 h0 n0 _ T10.heap _
          rw [e10]
          exact ⟨by rw [pk, if_neg h1, if_neg h2, if_neg h3], N0, rfl⟩
def Q2 (Z : State) (a1 f1 : Addr) (h0 : Heap) (n0 : Nat) (v : Option Value) (h : Heap) (L : List Loc) : Prop := v = some (.int (nw a1 f1)) ∧ Fr n0 L ∧ h = h0
theorem ef_2 (m : MethodId) (a1 : Addr) : entryFrame m #[(.ref a1)] 1 = mkF m 0 #[.val (.ref a1)] [] := by first | (simp [entryFrame, mkF, argsToLocals, Value.category]; done) | rfl
set_option maxRecDepth 65536 in
set_option maxHeartbeats 40000000 in
theorem rm2 (l : Launch) (Z : State) (a0 : Array Value) (hw : ∀ d ∈ tables_1, d.before a0 Z = true) (ws : List Jvm.Cond) (a1 f1 : Addr) (h0 : Heap) (n0 : Nat) (Z0 : n0 ≤ h0.size) (S_LIFO : Sta Z h0 "com/example/nominal/nominal/coordinator/Execution" "LIFO" "Lcom/example/nominal/nominal/coordinator/Execution;" (.ref f1)) :
    MetFree l (⟨"com/example/nominal/nominal/coordinator/Execution", "newestFirst", "()Z"⟩ : MethodName) (head1 (Jvm.Cond.code (⟨"com/example/nominal/nominal/coordinator/Execution", "newestFirst", "()Z"⟩ : MethodName) prog_7_method_4_code 1 (some .boolean) :: ws) ({ frames := 0, cells := 0, slots := 0, locals := 0 } : Room)) (fun a U => a = #[(.ref a1)] ∧ Z.Warmed39 U.vm ∧ U.heap = h0) (fun _ _ _ _ _ => True) (fun _ U o U' => ∃ v L, o = .returned v ∧ Q2 Z a1 f1 h0 n0 v U'.heap L ∧ FrameEnd U o U' L ({ frames := 0, cells := 0, slots := 0, locals := 0 } : Room).cells ({ frames := 0, cells := 0, slots := 0, locals := 0 } : Room).slots) := by
  refine MetFree.of_bodySF (plainFor_of_name pn_2) hisR ?_
  intro p e s m args below meth c s₁ Bd hml0 hP hK
  obtain ⟨rfl, hZ, hh⟩ := hP
  have hx := Bd.exec
  have hby := Bd.bytes
  have hml : c.maxLocals = 1 := hml0
  have hown : s.vm.findClass "com/example/nominal/nominal/coordinator/Execution" = some m.cls := findClass_of_methodNamed Bd.named
  have hnm := (name_of_methodNamed Bd.named Bd.method).1
  have X0 : Stand p l e ({ frames := 0, cells := 0, slots := 0, locals := 0 } : Room) s m #[(.ref a1)] below meth c s₁ [] 0 0 := Stand.of_body Bd
  have e0 : s₁.heap = h0 := by rw [← hh, Bd.state]; rfl
  have N0 := Fr.nil n0
  have pre0 : Lead p e below (s₁.setTop (mkF m 0 #[.val (.ref a1)] [])) (s₁.setTop (entryFrame m #[(.ref a1)] 1)) := fun t k => castTop (ef_2 m a1) k
  obtain ⟨T12, X12, e12, st12⟩ := getS2 X0 hx hZ hown (host := "") (Or.inl (hw _ (List.mem_of_getElem? (i := 12) rfl))) Via.refl e0 S_LIFO (g := (mkF m 1 #[.val (.ref a1)] [(.ref a1)])) rfl (hb hby d2_1)
  have pre13 : Lead p e below (T12.setTop (mkF m 4 #[.val (.ref a1)] [(.ref f1), (.ref a1)])) (s₁.setTop (entryFrame m #[(.ref a1)] 1)) := fun t k => by
    refine pre0 t ?_
    refine XS.aloadN X0.here hx rfl (hb hby d2_0) rfl rfl ?_
    show Steps p.tables e below (s₁.setTop (mkF m 1 #[.val (.ref a1)] [(.ref a1)])) _
    refine st12 _ ?_
    show Steps p.tables e below (T12.setTop (mkF m 4 #[.val (.ref a1)] [(.ref f1), (.ref a1)])) _
    exact k
  by_cases h1 : a1 = f1
  · skip
    have pre14 : Lead p e below (T12.setTop (mkF m 12 #[.val (.ref a1)] [(.int (1 : Int32))])) (s₁.setTop (entryFrame m #[(.ref a1)] 1)) := fun t k => by
      refine pre13 t ?_
      refine Jvm.RoadKit.acmp (g := (mkF m 4 #[.val (.ref a1)] [(.ref f1), (.ref a1)])) X12 hx rfl rfl rfl (pc0 := 4) (pc' := 7) (same := true) rfl (hb hby d2_4) rfl (decide_eq_true (congrArg Value.ref h1)) (by decide) (by decide) ?_
      show Steps p.tables e below (T12.setTop (mkF m 7 #[.val (.ref a1)] [])) _
      refine XS.iconst X12.here hx rfl (hb hby d2_7) ?_
      show Steps p.tables e below (T12.setTop (mkF m 8 #[.val (.ref a1)] [(.int (1 : Int32))])) _
      refine XS.goto X12.here hx rfl (pc0 := 8) (pc' := 12) rfl (hb hby d2_8) (by decide) (by decide) ?_
      show Steps p.tables e below (T12.setTop (mkF m 12 #[.val (.ref a1)] [(.int (1 : Int32))])) _
      exact k
    obtain ⟨fs, hr, hrun, hended, hW, hsame⟩ := X12.leave (v := some (.int (1 : Int32))) (fun h => by rw [Bd.returns] at h; cases h)
    refine ⟨_, _, pre14 _ ?_, hrun, hended, _, _, rfl, ?_, ⟨_, rfl⟩, hW, hsame.mono (by decide) (by decide)⟩
    · exact retN X12 hx (t := .boolean) Bd.returns (by simp) (hb hby d2_12) hr
    · show Q2 Z a1 f1 h0 n0 _ T12.heap _
      rw [e12]
      exact ⟨by rw [nw, if_pos h1], N0, rfl⟩
  · skip
    have pre15 : Lead p e below (T12.setTop (mkF m 12 #[.val (.ref a1)] [(.int (0 : Int32))])) (s₁.setTop (entryFrame m #[(.ref a1)] 1)) := fun t k => by
      refine pre13 t ?_
      refine Jvm.RoadKit.acmp (g := (mkF m 4 #[.val (.ref a1)] [(.ref f1), (.ref a1)])) X12 hx rfl rfl rfl (pc0 := 4) (pc' := 11) (same := false) rfl (hb hby d2_4) rfl (decide_eq_false fun q => h1 (Value.ref.inj q)) (by decide) (by decide) ?_
      show Steps p.tables e below (T12.setTop (mkF m 11 #[.val (.ref a1)] [])) _
      refine XS.iconst X12.here hx rfl (hb hby d2_11) ?_
      show Steps p.tables e below (T12.setTop (mkF m 12 #[.val (.ref a1)] [(.int (0 : Int32))])) _
      exact k
    obtain ⟨fs, hr, hrun, hended, hW, hsame⟩ := X12.leave (v := some (.int (0 : Int32))) (fun h => by rw [Bd.returns] at h; cases h)
    refine ⟨_, _, pre15 _ ?_, hrun, hended, _, _, rfl, ?_, ⟨_, rfl⟩, hW, hsame.mono (by decide) (by decide)⟩
    · exact retN X12 hx (t := .boolean) Bd.returns (by simp) (hb hby d2_12) hr
    · show Q2 Z a1 f1 h0 n0 _ T12.heap _
      rw [e12]
      exact ⟨by rw [nw, if_neg h1], N0, rfl⟩
def Q0 (Z : State) (p1 : Int32) (h0 : Heap) (n0 : Nat) (v : Option Value) (h : Heap) (L : List Loc) : Prop := v = some (.int (1 : Int32)) ∧ Fr n0 L
theorem ef_0 (m : MethodId) (p1 : Int32) : entryFrame m #[(.int p1)] maxLocals = mkF m 0 #[.val (.int p1), .unset, .unset, .unset] [] := by first | (simp [entryFrame, mkF, argsToLocals, Value.category, maxLocals]; done) | rfl
set_option maxRecDepth 65536 in
set_option maxHeartbeats 40000000 in
theorem rm0 (l : Launch) (Z : State) (a0 : Array Value) (hw : ∀ d ∈ tables_1, d.before a0 Z = true) (ws : List Jvm.Cond) (p1 : Int32) (f0 f1 f2 f3 : Addr) (h0 : Heap) (n0 : Nat) (Z0 : n0 ≤ h0.size) (S_FIFO : Sta Z h0 "com/example/nominal/nominal/coordinator/Execution" "FIFO" "Lcom/example/nominal/nominal/coordinator/Execution;" (.ref f0)) (S_LIFO : Sta Z h0 "com/example/nominal/nominal/coordinator/Execution" "LIFO" "Lcom/example/nominal/nominal/coordinator/Execution;" (.ref f1)) (S_LAST_ONLY : Sta Z h0 "com/example/nominal/nominal/coordinator/Execution" "LAST_ONLY" "Lcom/example/nominal/nominal/coordinator/Execution;" (.ref f2)) (S_NONE : Sta Z h0 "com/example/nominal/nominal/coordinator/Execution" "NONE" "Lcom/example/nominal/nominal/coordinator/Execution;" (.ref f3)) (Ef0 : Exa Z h0 f0 "com/example/nominal/nominal/coordinator/Execution") (Ef1 : Exa Z h0 f1 "com/example/nominal/nominal/coordinator/Execution") (Ef2 : Exa Z h0 f2 "com/example/nominal/nominal/coordinator/Execution") (Ef3 : Exa Z h0 f3 "com/example/nominal/nominal/coordinator/Execution") (d0 : f0 ≠ f1) (d2 : f2 ≠ f1) (d3 : f3 ≠ f1) :
    MetFree l x (head1 (Jvm.Cond.code x code maxLocals ret :: ws) room_1) (fun a U => a = #[(.int p1)] ∧ Z.Warmed39 U.vm ∧ U.heap = h0) (fun _ _ _ _ _ => True) (fun _ U o U' => ∃ v L, o = .returned v ∧ Q0 Z p1 h0 n0 v U'.heap L ∧ FrameEnd U o U' L room_1.cells room_1.slots) := by
  refine MetFree.of_bodySF (plainFor_of_name pn_0) hisR ?_
  intro p e s m args below meth c s₁ Bd hml0 hP hK
  obtain ⟨rfl, hZ, hh⟩ := hP
  have hx := Bd.exec
  have hby := Bd.bytes
  have hml : c.maxLocals = 4 := hml0
  have hown : s.vm.findClass "com/example/nominal/nominal/coordinator/ExecutionNewestFirstPinLaw" = some m.cls := findClass_of_methodNamed Bd.named
  have hnm := (name_of_methodNamed Bd.named Bd.method).1
  have X0 : Stand p l e room_1 s m #[(.int p1)] below meth c s₁ [] 0 0 := Stand.of_body Bd
  have e0 : s₁.heap = h0 := by rw [← hh, Bd.state]; rfl
  have N0 := Fr.nil n0
  have pre0 : Lead p e below (s₁.setTop (mkF m 0 #[.val (.int p1), .unset, .unset, .unset] [])) (s₁.setTop (entryFrame m #[(.int p1)] maxLocals)) := fun t k => castTop (ef_0 m p1) k
  obtain ⟨_, _, ⟨T16, L16, k16, n16⟩, -, X16, ⟨Lc16, hQ16, l16, y16, z16⟩, st16⟩ := Jvm.LawKit.callS X0 hx (y := (⟨"com/example/nominal/nominal/coordinator/ExecutionNewestFirstPinLaw", "pick", "(I)Lcom/example/nominal/nominal/coordinator/Execution;"⟩ : MethodName)) hown (mvT hZ (hw _ (List.mem_of_getElem? (i := 0) rfl))) (mvT hZ (hw _ (List.mem_of_getElem? (i := 1) rfl))) (mvT hZ (hw _ (List.mem_of_getElem? (i := 2) rfl))) (mvT hZ (hw _ (List.mem_of_getElem? (i := 3) rfl))) (by decide) (backOf (W := 0) (rm1 l Z a0 hw [] (p1 &&& (3 : Int32)) f0 f1 f2 f3 h0 n0 Z0 S_FIFO S_LIFO S_LAST_ONLY S_NONE) hZ (hw _ (List.mem_of_getElem? (i := 3) rfl)) (hw _ (List.mem_of_getElem? (i := 2) rfl)) (by decide) (by decide)) (g := (mkF m 5 #[.val (.int p1), .val (.int (p1 &&& (3 : Int32))), .unset, .unset] [(.int (p1 &&& (3 : Int32)))])) rfl (by rw [hml]; rfl) (argsL := [(.int (p1 &&& (3 : Int32)))]) (rest := []) (lenOf pd_1 rfl) rfl (by show 2 * 0 + _ ≤ _; exact Nat.le_of_eq rfl) (hb hby at_5) (fun _ _ => ⟨rfl, e0, (by decide : 0 + 0 ≤ _), (by decide : 0 + 0 ≤ _)⟩)
  dsimp only [Pt.U, Pt.locs, Pt.cells, Pt.slots] at X16 l16 y16 z16 st16 hQ16
  subst l16 y16 z16
  obtain ⟨rfl, N16q, e16⟩ := hQ16
  have N16 := Fr.app N0 N16q
  have pre17 : Lead p e below (T16.setTop (mkF m 11 #[.val (.int p1), .val (.int (p1 &&& (3 : Int32))), .val (.ref (pk (p1 &&& (3 : Int32)) f0 f1 f2 f3)), .unset] [(.int (1 : Int32)), (.int (p1 &&& (3 : Int32)))])) (s₁.setTop (entryFrame m #[(.int p1)] maxLocals)) := fun t k => by
    refine pre0 t ?_
    refine XS.iloadN X0.here hx rfl (hb hby at_0) rfl ?_
    show Steps p.tables e below (s₁.setTop (mkF m 1 #[.val (.int p1), .unset, .unset, .unset] [(.int p1)])) _
    refine XS.iconst X0.here hx rfl (hb hby at_1) ?_
    show Steps p.tables e below (s₁.setTop (mkF m 2 #[.val (.int p1), .unset, .unset, .unset] [(.int (3 : Int32)), (.int p1)])) _
    refine XS.iand X0.here hx rfl (hb hby at_2) rfl ?_
    show Steps p.tables e below (s₁.setTop (mkF m 3 #[.val (.int p1), .unset, .unset, .unset] [(.int (p1 &&& (3 : Int32)))])) _
    refine XS.istoreN X0.here hx rfl (hb hby at_3) rfl (l' := #[.val (.int p1), .val (.int (p1 &&& (3 : Int32))), .unset, .unset]) rfl ?_
    show Steps p.tables e below (s₁.setTop (mkF m 4 #[.val (.int p1), .val (.int (p1 &&& (3 : Int32))), .unset, .unset] [])) _
    refine XS.iloadN X0.here hx rfl (hb hby at_4) rfl ?_
    show Steps p.tables e below (s₁.setTop (mkF m 5 #[.val (.int p1), .val (.int (p1 &&& (3 : Int32))), .unset, .unset] [(.int (p1 &&& (3 : Int32)))])) _
    refine st16 _ ?_
    show Steps p.tables e below (T16.setTop (mkF m 8 #[.val (.int p1), .val (.int (p1 &&& (3 : Int32))), .unset, .unset] [(.ref (pk (p1 &&& (3 : Int32)) f0 f1 f2 f3))])) _
    refine XS.astoreN X16.here hx rfl (hb hby at_8) rfl rfl (l' := #[.val (.int p1), .val (.int (p1 &&& (3 : Int32))), .val (.ref (pk (p1 &&& (3 : Int32)) f0 f1 f2 f3)), .unset]) rfl ?_
    show Steps p.tables e below (T16.setTop (mkF m 9 #[.val (.int p1), .val (.int (p1 &&& (3 : Int32))), .val (.ref (pk (p1 &&& (3 : Int32)) f0 f1 f2 f3)), .unset] [])) _
    refine XS.iloadN X16.here hx rfl (hb hby at_9) rfl ?_
    show Steps p.tables e below (T16.setTop (mkF m 10 #[.val (.int p1), .val (.int (p1 &&& (3 : Int32))), .val (.ref (pk (p1 &&& (3 : Int32)) f0 f1 f2 f3)), .unset] [(.int (p1 &&& (3 : Int32)))])) _
    refine XS.iconst X16.here hx rfl (hb hby at_10) ?_
    show Steps p.tables e below (T16.setTop (mkF m 11 #[.val (.int p1), .val (.int (p1 &&& (3 : Int32))), .val (.ref (pk (p1 &&& (3 : Int32)) f0 f1 f2 f3)), .unset] [(.int (1 : Int32)), (.int (p1 &&& (3 : Int32)))])) _
    exact k
  have preK : Lead p e below (T16.setTop (mkF m 20 #[.val (.int p1), .val (.int (p1 &&& (3 : Int32))), .val (.ref (pk (p1 &&& (3 : Int32)) f0 f1 f2 f3)), .val (.int (exv (p1 &&& (3 : Int32))))] [])) (s₁.setTop (entryFrame m #[(.int p1)] maxLocals)) := by
    by_cases h5 : (p1 &&& (3 : Int32)) = (1 : Int32)
    · skip
      have hv : exv (p1 &&& (3 : Int32)) = (1 : Int32) := by rw [exv, if_pos h5]
      rw [hv]
      have pre18 : Lead p e below (T16.setTop (mkF m 20 #[.val (.int p1), .val (.int (p1 &&& (3 : Int32))), .val (.ref (pk (p1 &&& (3 : Int32)) f0 f1 f2 f3)), .val (.int (1 : Int32))] [])) (s₁.setTop (entryFrame m #[(.int p1)] maxLocals)) := fun t k => by
        refine pre17 t ?_
        refine XS.icmpNo X16.here hx rfl (hb hby at_11) rfl (teq h5).2 ?_
        show Steps p.tables e below (T16.setTop (mkF m 14 #[.val (.int p1), .val (.int (p1 &&& (3 : Int32))), .val (.ref (pk (p1 &&& (3 : Int32)) f0 f1 f2 f3)), .unset] [])) _
        refine XS.iconst X16.here hx rfl (hb hby at_14) ?_
        show Steps p.tables e below (T16.setTop (mkF m 15 #[.val (.int p1), .val (.int (p1 &&& (3 : Int32))), .val (.ref (pk (p1 &&& (3 : Int32)) f0 f1 f2 f3)), .unset] [(.int (1 : Int32))])) _
        refine XS.goto X16.here hx rfl (pc0 := 15) (pc' := 19) rfl (hb hby at_15) (by decide) (by decide) ?_
        show Steps p.tables e below (T16.setTop (mkF m 19 #[.val (.int p1), .val (.int (p1 &&& (3 : Int32))), .val (.ref (pk (p1 &&& (3 : Int32)) f0 f1 f2 f3)), .unset] [(.int (1 : Int32))])) _
        refine XS.istoreN X16.here hx rfl (hb hby at_19) rfl (l' := #[.val (.int p1), .val (.int (p1 &&& (3 : Int32))), .val (.ref (pk (p1 &&& (3 : Int32)) f0 f1 f2 f3)), .val (.int (1 : Int32))]) rfl ?_
        show Steps p.tables e below (T16.setTop (mkF m 20 #[.val (.int p1), .val (.int (p1 &&& (3 : Int32))), .val (.ref (pk (p1 &&& (3 : Int32)) f0 f1 f2 f3)), .val (.int (1 : Int32))] [])) _
        exact k
      exact pre18
    · skip
      have hv : exv (p1 &&& (3 : Int32)) = (0 : Int32) := by rw [exv, if_neg h5]
      rw [hv]
      have pre19 : Lead p e below (T16.setTop (mkF m 20 #[.val (.int p1), .val (.int (p1 &&& (3 : Int32))), .val (.ref (pk (p1 &&& (3 : Int32)) f0 f1 f2 f3)), .val (.int (0 : Int32))] [])) (s₁.setTop (entryFrame m #[(.int p1)] maxLocals)) := fun t k => by
        refine pre17 t ?_
        refine XS.icmpYes X16.here hx rfl (pc0 := 11) (pc' := 18) rfl (hb hby at_11) rfl (feq h5).2 (by decide) (by decide) ?_
        show Steps p.tables e below (T16.setTop (mkF m 18 #[.val (.int p1), .val (.int (p1 &&& (3 : Int32))), .val (.ref (pk (p1 &&& (3 : Int32)) f0 f1 f2 f3)), .unset] [])) _
        refine XS.iconst X16.here hx rfl (hb hby at_18) ?_
        show Steps p.tables e below (T16.setTop (mkF m 19 #[.val (.int p1), .val (.int (p1 &&& (3 : Int32))), .val (.ref (pk (p1 &&& (3 : Int32)) f0 f1 f2 f3)), .unset] [(.int (0 : Int32))])) _
        refine XS.istoreN X16.here hx rfl (hb hby at_19) rfl (l' := #[.val (.int p1), .val (.int (p1 &&& (3 : Int32))), .val (.ref (pk (p1 &&& (3 : Int32)) f0 f1 f2 f3)), .val (.int (0 : Int32))]) rfl ?_
        show Steps p.tables e below (T16.setTop (mkF m 20 #[.val (.int p1), .val (.int (p1 &&& (3 : Int32))), .val (.ref (pk (p1 &&& (3 : Int32)) f0 f1 f2 f3)), .val (.int (0 : Int32))] [])) _
        exact k
      exact pre19
  obtain ⟨cq20, kq20, q20a, q20b, q20c⟩ := isOf hZ e16 (own_pkE Ef0 Ef1 Ef2 Ef3)
  obtain ⟨_, _, ⟨T20, L20, k20, n20⟩, -, X20, ⟨Lc20, hQ20, l20, y20, z20⟩, st20⟩ := X16.virtualBack hx (y := (⟨"com/example/nominal/nominal/coordinator/Execution", "newestFirst", "()Z"⟩ : MethodName)) (z := (⟨"com/example/nominal/nominal/coordinator/Execution", "newestFirst", "()Z"⟩ : MethodName)) hown (mvT hZ (hw _ (List.mem_of_getElem? (i := 7) rfl))) (mvT hZ (hw _ (List.mem_of_getElem? (i := 8) rfl))) (notFace_of_selects (args := #[]) (mvT hZ (hw _ (List.mem_of_getElem? (i := 10) rfl)))) (mvT hZ (hw _ (List.mem_of_getElem? (i := 10) rfl))) (mvT hZ (hw _ (List.mem_of_getElem? (i := 9) rfl))) (by decide) (backOf (W := 0) (rm2 l Z a0 hw [] (pk (p1 &&& (3 : Int32)) f0 f1 f2 f3) f1 h0 n0 Z0 S_LIFO) hZ (hw _ (List.mem_of_getElem? (i := 11) rfl)) (hw _ (List.mem_of_getElem? (i := 5) rfl)) (by decide) (by decide)) q20a q20c (g := (mkF m 21 #[.val (.int p1), .val (.int (p1 &&& (3 : Int32))), .val (.ref (pk (p1 &&& (3 : Int32)) f0 f1 f2 f3)), .val (.int (exv (p1 &&& (3 : Int32))))] [(.ref (pk (p1 &&& (3 : Int32)) f0 f1 f2 f3))])) rfl (by rw [hml]; rfl) (Steps.refl _) (argsL := []) (rest := []) (lenOf pd_2 rfl) rfl (by show 2 * 0 + _ ≤ _; exact Nat.le_of_eq rfl) (hb hby at_21) (fun _ _ => ⟨rfl, e16, (by decide : 0 + 0 ≤ _), (by decide : 0 + 0 ≤ _)⟩)
  dsimp only [Pt.U, Pt.locs, Pt.cells, Pt.slots] at X20 l20 y20 z20 st20 hQ20
  subst l20 y20 z20
  obtain ⟨rfl, N20q, e20⟩ := hQ20
  have N20 := Fr.app N16 N20q
  have pre21 : Lead p e below (T20.setTop (mkF m 33 #[.val (.int p1), .val (.int (p1 &&& (3 : Int32))), .val (.ref (pk (p1 &&& (3 : Int32)) f0 f1 f2 f3)), .val (.int (exv (p1 &&& (3 : Int32))))] [(.int (1 : Int32))])) (s₁.setTop (entryFrame m #[(.int p1)] maxLocals)) := fun t k => by
    refine preK t ?_
    refine XS.aloadN X16.here hx rfl (hb hby at_20) rfl rfl ?_
    show Steps p.tables e below (T16.setTop (mkF m 21 #[.val (.int p1), .val (.int (p1 &&& (3 : Int32))), .val (.ref (pk (p1 &&& (3 : Int32)) f0 f1 f2 f3)), .val (.int (exv (p1 &&& (3 : Int32))))] [(.ref (pk (p1 &&& (3 : Int32)) f0 f1 f2 f3))])) _
    refine st20.trans ?_
    show Steps p.tables e below (T20.setTop (mkF m 24 #[.val (.int p1), .val (.int (p1 &&& (3 : Int32))), .val (.ref (pk (p1 &&& (3 : Int32)) f0 f1 f2 f3)), .val (.int (exv (p1 &&& (3 : Int32))))] [(.int (nw (pk (p1 &&& (3 : Int32)) f0 f1 f2 f3) f1))])) _
    refine XS.iloadN X20.here hx rfl (hb hby at_24) rfl ?_
    show Steps p.tables e below (T20.setTop (mkF m 25 #[.val (.int p1), .val (.int (p1 &&& (3 : Int32))), .val (.ref (pk (p1 &&& (3 : Int32)) f0 f1 f2 f3)), .val (.int (exv (p1 &&& (3 : Int32))))] [(.int (exv (p1 &&& (3 : Int32)))), (.int (nw (pk (p1 &&& (3 : Int32)) f0 f1 f2 f3) f1))])) _
    refine XS.icmpNo X20.here hx rfl (hb hby at_25) rfl (teq (own_pk (i := (p1 &&& (3 : Int32))) d0 d2 d3)).2 ?_
    show Steps p.tables e below (T20.setTop (mkF m 28 #[.val (.int p1), .val (.int (p1 &&& (3 : Int32))), .val (.ref (pk (p1 &&& (3 : Int32)) f0 f1 f2 f3)), .val (.int (exv (p1 &&& (3 : Int32))))] [])) _
    refine XS.iconst X20.here hx rfl (hb hby at_28) ?_
    show Steps p.tables e below (T20.setTop (mkF m 29 #[.val (.int p1), .val (.int (p1 &&& (3 : Int32))), .val (.ref (pk (p1 &&& (3 : Int32)) f0 f1 f2 f3)), .val (.int (exv (p1 &&& (3 : Int32))))] [(.int (1 : Int32))])) _
    refine XS.goto X20.here hx rfl (pc0 := 29) (pc' := 33) rfl (hb hby at_29) (by decide) (by decide) ?_
    show Steps p.tables e below (T20.setTop (mkF m 33 #[.val (.int p1), .val (.int (p1 &&& (3 : Int32))), .val (.ref (pk (p1 &&& (3 : Int32)) f0 f1 f2 f3)), .val (.int (exv (p1 &&& (3 : Int32))))] [(.int (1 : Int32))])) _
    exact k
  obtain ⟨fs, hr, hrun, hended, hW, hsame⟩ := X20.leave (v := some (.int (1 : Int32))) (fun h => by rw [Bd.returns] at h; cases h)
  refine ⟨_, _, pre21 _ ?_, hrun, hended, _, _, rfl, ?_, ⟨_, rfl⟩, hW, hsame.mono (by decide) (by decide)⟩
  · exact retN X20 hx (t := .boolean) Bd.returns (by simp) (hb hby at_33) hr
  · show Q0 Z p1 h0 n0 _ T20.heap _
    rw [e20]
    exact ⟨rfl, N20⟩
set_option maxRecDepth 65536 in
set_option maxHeartbeats 40000000 in
theorem comes_1 {Post : Tables → Env → Array Value → State → Outcome → State → Prop} (hpost : ∀ tb e args s v u, (limb_1_1.after args s (.returned v) u = true ∧ limb_1_2.after args s (.returned v) u = true ∧ True) → FrameEnd s (.returned v) u (Jvm.fieldLocs frame_1_writes args s ++ Jvm.arrayLocs frame_1_arrays args s ++ Jvm.staticLocs frame_1_statics s) 0 0 → Post tb e args s (.returned v) u) :
    ArmFor flags0 classFile x code maxLocals ret World_1 tables_1 room_1 Calls_1 rest_1 Pre_1 Post := by
  intro l hfl _ _ p e ha hc hk s m args below hf hA hF happ hP
  obtain ⟨hcalls, hrest, hpre⟩ := hP
  obtain ⟨-, -, -, hnamed, -, -, -, hat⟩ := (Spec.applies_iff hf).mp happ
  obtain ⟨hg, hn⟩ := and_e (Cond.before_iff.mp (show (Jvm.Cond.and given_1 narrow_1).before args s = true from hpre))
  obtain ⟨hcount, g2⟩ := and_e hg
  obtain ⟨n0, nr1⟩ := and_e hn
  obtain ⟨n1, nr2⟩ := and_e nr1
  obtain ⟨n2, nr3⟩ := and_e nr2
  obtain ⟨n3, nr4⟩ := and_e nr3
  obtain ⟨n4, nr5⟩ := and_e nr4
  obtain ⟨n5, nr6⟩ := and_e nr5
  obtain ⟨n6, n7⟩ := and_e nr6
  obtain ⟨w0, rfl⟩ : ∃ w0 : Value, args = #[w0] := by
    have hs : args.size = 1 := by simpa [Cond.value, given_1] using hcount
    obtain ⟨L⟩ := args
    match L, hs with
    | [w0], _ => exact ⟨w0, rfl⟩
  have hw := fun d (hd : d ∈ tables_1) => atoms_spec (ws := Jvm.Cond.code x code maxLocals ret :: tables_1) hat d (List.mem_cons_of_mem _ hd)
  have hfit : Fit s := fun {y c} hc i hi => by
    obtain ⟨ha, rfl⟩ := Array.getElem?_eq_some_iff.mp hc
    have q := List.all_eq_true.mp ((Array.all_eq_true_iff_forall_mem.mp hF) _ (Array.getElem_mem ha)) i (List.mem_range.mpr hi)
    simpa [Array.getElem?_eq_getElem hi] using q
  obtain ⟨i0, ei0⟩ := is_v g2
  obtain rfl : w0 = (.int i0) := Option.some.inj ei0
  obtain ⟨a_FIFO, ev_FIFO⟩ := exa_v n0
  have Ex_FIFO := Exa.start ev_FIFO n0
  have S_FIFO := Sta.start ev_FIFO (Or.inr ⟨(hw _ (List.mem_of_getElem? (i := 5) rfl)), (hw _ (List.mem_of_getElem? (i := 6) rfl))⟩)
  obtain ⟨a_LIFO, ev_LIFO⟩ := exa_v n1
  have Ex_LIFO := Exa.start ev_LIFO n1
  have S_LIFO := Sta.start ev_LIFO (Or.inr ⟨(hw _ (List.mem_of_getElem? (i := 5) rfl)), (hw _ (List.mem_of_getElem? (i := 13) rfl))⟩)
  obtain ⟨a_NONE, ev_NONE⟩ := exa_v n4
  have Ex_NONE := Exa.start ev_NONE n4
  have S_NONE := Sta.start ev_NONE (Or.inr ⟨(hw _ (List.mem_of_getElem? (i := 5) rfl)), (hw _ (List.mem_of_getElem? (i := 15) rfl))⟩)
  obtain ⟨a_LAST_ONLY, ev_LAST_ONLY⟩ := exa_v n6
  have Ex_LAST_ONLY := Exa.start ev_LAST_ONLY n6
  have S_LAST_ONLY := Sta.start ev_LAST_ONLY (Or.inr ⟨(hw _ (List.mem_of_getElem? (i := 5) rfl)), (hw _ (List.mem_of_getElem? (i := 17) rfl))⟩)
  have o_FIFO : s.fieldOf? a_FIFO "java/lang/Enum" "ordinal" "I" = some (.int (0 : Int32)) := (fld_at ev_FIFO).symm.trans (eqv_i (F := .int (0 : Int32)) (y := (0 : Int32)) rfl n2)
  have o_LIFO : s.fieldOf? a_LIFO "java/lang/Enum" "ordinal" "I" = some (.int (1 : Int32)) := (fld_at ev_LIFO).symm.trans (eqv_i (F := .int (1 : Int32)) (y := (1 : Int32)) rfl n3)
  have o_NONE : s.fieldOf? a_NONE "java/lang/Enum" "ordinal" "I" = some (.int (3 : Int32)) := (fld_at ev_NONE).symm.trans (eqv_i (F := .int (3 : Int32)) (y := (3 : Int32)) rfl n5)
  have o_LAST_ONLY : s.fieldOf? a_LAST_ONLY "java/lang/Enum" "ordinal" "I" = some (.int (2 : Int32)) := (fld_at ev_LAST_ONLY).symm.trans (eqv_i (F := .int (2 : Int32)) (y := (2 : Int32)) rfl n7)
  have ne_FIFO_LIFO : a_FIFO ≠ a_LIFO := fun q => by rw [q] at o_FIFO; exact absurd (Option.some.inj (o_FIFO.symm.trans o_LIFO)) (by decide)
  have ne_LAST_ONLY_LIFO : a_LAST_ONLY ≠ a_LIFO := fun q => by rw [q] at o_LAST_ONLY; exact absurd (Option.some.inj (o_LAST_ONLY.symm.trans o_LIFO)) (by decide)
  have ne_NONE_LIFO : a_NONE ≠ a_LIFO := fun q => by rw [q] at o_NONE; exact absurd (Option.some.inj (o_NONE.symm.trans o_LIFO)) (by decide)
  obtain ⟨n, o, h1, h2, h3, _, L, rfl, ⟨rfl, N⟩, hq⟩ := rm0 l s _ hw tables_1 i0 a_FIFO a_LIFO a_LAST_ONLY a_NONE s.heap s.heap.size (Nat.le_refl _) S_FIFO S_LIFO S_LAST_ONLY S_NONE Ex_FIFO Ex_LIFO Ex_LAST_ONLY Ex_NONE ne_FIFO_LIFO ne_LAST_ONLY_LIFO ne_NONE_LIFO p e ha hc hk s m _ below hf ((Spec.applies_iff_loose hf).mp happ).1 ⟨rfl, State.Warmed39.refl s, rfl⟩ trivial
  refine ⟨n, _, h1, h2, h3, hpost _ _ _ _ _ _ ⟨Cond.after_iff.mpr rfl, Cond.after_iff.mpr (eq_i res_at (Term.int_eval (1)) rfl), trivial⟩ ⟨hq.1, hq.2.1, (hq.2.2.sift fun y hy => Or.inr (N y hy)).mono (by decide) (by decide)⟩⟩
theorem main_1_1 : Claimed_1_1 := comes_1 fun _ _ _ _ _ _ h hF => ⟨h.1, hF⟩
theorem main_1_2 : Claimed_1_2 := comes_1 fun _ _ _ _ _ _ h hF => ⟨h.2.1, hF⟩

end Jvm.Pilot.@@N@@
namespace Jvm.Pilot.@@N@@
open Jvm Jvm.ClassFile Sem Op Lib Jvm.Free Jvm.Stand Jvm.Pilot.@@N@@.Jvm.D
/-! MADE BY PROGRAM (witnessworld.py) out of the Statement's table words and the real class files: 12 classes; the members and pool entries that the words name. The judged class is class 1, her method 2. -/
namespace start1
open Jvm.ClassFile
def u (s : String) : CpInfo := .utf8 (stringToUtf16 s)
/-- a pool by its gaps: so many unusable entries, then the entry; so many at the end -/
def gap : Nat → List CpInfo → List CpInfo
  | 0, r => r
  | n + 1, r => .unusable :: gap n r
def poolList (es : List (Nat × CpInfo)) (last : Nat) : List CpInfo := es.foldr (fun e r => gap e.1 (e.2 :: r)) (gap last [])
def pool (es : List (Nat × CpInfo)) (last : Nat) : Array CpInfo := ⟨poolList es last⟩
def fileOf (pool : Array CpInfo) (this : Nat) (attrs : Array Attribute := #[]) (ms : Array MethodInfo := #[]) (fl : Nat := 33) (sup : Nat := 0) (ifs : Array Nat := #[]) (fds : Array FieldInfo := #[]) : ClassFile where
  minorVersion := 0
  majorVersion := 65
  constantPool := pool
  accessFlags := fl
  thisClass := this
  superClass := sup
  interfaces := ifs
  fields := fds
  methods := ms
  attributes := attrs
def plain (name : String) (sup : Option ClassId) : Class where
  name := name
  kind := .ordinary
  loader := none
  accessFlags := 33
  super := sup
  interfaces := #[]
  cf := none
  fields := #[]
  methods := #[]
  instanceTypes := #[]
  staticTypes := #[]
  resolved := #[]
  callSites := []
  init := .initialized
  statics := none
  mirror := none

def pool0 : Array CpInfo := pool [(5, u "<init>"), (0, u "()V"), (1, .class_ 10), (1, u "java/lang/Object")] 113

def k0m0 : Method := { name := "<init>", desc := "()V", sig := { parameters := [], returnType := none }, accessFlags := 1, code := none }
/-- java/lang/Object -/
def k0 : Class := { plain "java/lang/Object" none with
  accessFlags := 33
  interfaces := #[]
  cf := some (fileOf pool0 8 #[] #[{ accessFlags := 1, nameIndex := 5, descriptorIndex := 6, attributes := #[] }] 33 0 #[] #[])
  fields := #[]
  methods := #[k0m0]
  instanceTypes := #[]
  staticTypes := #[]
  resolved := Array.replicate 124 none
  statics := none }

def pool1 : Array CpInfo := pool [(2, .class_ 4), (1, u "java/lang/Object"), (0, u "<init>"), (0, u "()V"), (0, .fieldref 8 9), (0, .class_ 10), (0, .nameAndType 11 12), (0, u "com/example/nominal/nominal/coordinator/Execution"), (0, u "FIFO"), (0, u "Lcom/example/nominal/nominal/coordinator/Execution;"), (0, .fieldref 8 14), (0, .nameAndType 15 12), (0, u "LIFO"), (0, .fieldref 8 17), (0, .nameAndType 18 12), (0, u "LAST_ONLY"), (0, .fieldref 8 20), (0, .nameAndType 21 12), (0, u "NONE"), (0, .methodref 23 24), (0, .class_ 25), (0, .nameAndType 26 27), (0, u "com/example/nominal/nominal/coordinator/ExecutionNewestFirstPinLaw"), (0, u "pick"), (0, u "(I)Lcom/example/nominal/nominal/coordinator/Execution;"), (0, .methodref 8 29), (0, .nameAndType 30 31), (0, u "newestFirst"), (0, u "()Z"), (3, u "law"), (0, u "(I)Z")] 2

def k1m0 : Method := { name := "<init>", desc := "()V", sig := { parameters := [], returnType := none }, accessFlags := 2, code := none }
def k1c1 : Code := { maxStack := 2, maxLocals := 1, code := method_2_code, exceptionTable := #[], attributes := #[] }
def k1m1 : Method := { name := "pick", desc := "(I)Lcom/example/nominal/nominal/coordinator/Execution;", sig := { parameters := [.int], returnType := some (.object "com/example/nominal/nominal/coordinator/Execution") }, accessFlags := 10, code := some k1c1 }
def k1c2 : Code := { maxStack := 2, maxLocals := 4, code := code, exceptionTable := #[], attributes := #[] }
def k1m2 : Method := { name := "law", desc := "(I)Z", sig := { parameters := [.int], returnType := some .boolean }, accessFlags := 9, code := some k1c2 }
/-- com/example/nominal/nominal/coordinator/ExecutionNewestFirstPinLaw -/
def k1 : Class := { plain "com/example/nominal/nominal/coordinator/ExecutionNewestFirstPinLaw" (some 0) with
  accessFlags := 49
  interfaces := #[]
  cf := some (fileOf pool1 23 #[] #[{ accessFlags := 2, nameIndex := 5, descriptorIndex := 6, attributes := #[] }, { accessFlags := 10, nameIndex := 26, descriptorIndex := 27, attributes := #[] }, { accessFlags := 9, nameIndex := 35, descriptorIndex := 36, attributes := #[] }] 49 2 #[] #[])
  fields := #[]
  methods := #[k1m0, k1m1, k1m2]
  instanceTypes := #[]
  staticTypes := #[]
  resolved := Array.replicate 39 none
  statics := none }

def pool2 : Array CpInfo := pool [(1, .class_ 2), (0, u "java/lang/constant/Constable"), (0, .class_ 4), (0, u "java/lang/Object")] 6

/-- java/lang/constant/Constable -/
def k2 : Class := { plain "java/lang/constant/Constable" (some 0) with
  accessFlags := 1537
  interfaces := #[]
  cf := some (fileOf pool2 1 #[] #[] 1537 3 #[] #[])
  fields := #[]
  methods := #[]
  instanceTypes := #[]
  staticTypes := #[]
  resolved := Array.replicate 11 none
  statics := none }

def pool3 : Array CpInfo := pool [(1, .class_ 2), (0, u "java/lang/Comparable"), (0, .class_ 4), (0, u "java/lang/Object")] 7

/-- java/lang/Comparable -/
def k3 : Class := { plain "java/lang/Comparable" (some 0) with
  accessFlags := 1537
  interfaces := #[]
  cf := some (fileOf pool3 1 #[] #[] 1537 3 #[] #[])
  fields := #[]
  methods := #[]
  instanceTypes := #[]
  staticTypes := #[]
  resolved := Array.replicate 12 none
  statics := none }

def pool4 : Array CpInfo := pool [(1, .class_ 2), (0, u "java/io/Serializable"), (0, .class_ 4), (0, u "java/lang/Object")] 2

/-- java/io/Serializable -/
def k4 : Class := { plain "java/io/Serializable" (some 0) with
  accessFlags := 1537
  interfaces := #[]
  cf := some (fileOf pool4 1 #[] #[] 1537 3 #[] #[])
  fields := #[]
  methods := #[]
  instanceTypes := #[]
  staticTypes := #[]
  resolved := Array.replicate 7 none
  statics := none }

def pool5 : Array CpInfo := pool [(2, .class_ 4), (1, u "java/lang/Enum"), (0, u "name"), (0, u "Ljava/lang/String;"), (2, u "ordinal"), (0, u "I"), (1, .class_ 14), (1, u "java/lang/Object"), (4, u "hash"), (86, .class_ 108), (1, u "java/lang/Enum$EnumDesc"), (2, .class_ 112), (0, u "java/lang/constant/Constable"), (0, .class_ 114), (0, u "java/lang/Comparable"), (0, .class_ 116), (0, u "java/io/Serializable")] 87

/-- java/lang/Enum -/
def k5 : Class := { plain "java/lang/Enum" (some 0) with
  accessFlags := 1057
  interfaces := #[2, 3, 4]
  cf := some (fileOf pool5 2 #[.nestMembers #[106]] #[] 1057 12 #[111, 113, 115] #[{ accessFlags := 18, nameIndex := 5, descriptorIndex := 6, attributes := #[] }, { accessFlags := 18, nameIndex := 9, descriptorIndex := 10, attributes := #[] }, { accessFlags := 2, nameIndex := 19, descriptorIndex := 10, attributes := #[] }])
  fields := #[{ name := "name", type := (.object "java/lang/String"), accessFlags := 18, slot := 0, constantValue := 0 }, { name := "ordinal", type := .int, accessFlags := 18, slot := 1, constantValue := 0 }, { name := "hash", type := .int, accessFlags := 2, slot := 2, constantValue := 0 }]
  methods := #[]
  instanceTypes := #[(.object "java/lang/String"), .int, .int]
  staticTypes := #[]
  resolved := Array.replicate 204 none
  statics := none }

def pool6 : Array CpInfo := pool [(1, .class_ 2), (0, u "com/example/nominal/nominal/coordinator/Execution"), (2, u "FIFO"), (0, u "Lcom/example/nominal/nominal/coordinator/Execution;"), (0, .fieldref 1 8), (0, .nameAndType 9 6), (0, u "LIFO"), (2, u "LAST_ONLY"), (2, u "NONE"), (2, u "$VALUES"), (0, u "[Lcom/example/nominal/nominal/coordinator/Execution;"), (6, .class_ 28), (1, u "java/lang/Enum"), (8, u "NONE_LATENESS"), (0, u "Ljava/time/Duration;"), (28, u "newestFirst"), (0, u "()Z")] 7

def k6c0 : Code := { maxStack := 2, maxLocals := 1, code := prog_7_method_4_code, exceptionTable := #[], attributes := #[] }
def k6m0 : Method := { name := "newestFirst", desc := "()Z", sig := { parameters := [], returnType := some .boolean }, accessFlags := 0, code := some k6c0 }
/-- com/example/nominal/nominal/coordinator/Execution -/
def k6 : Class := { plain "com/example/nominal/nominal/coordinator/Execution" (some 5) with
  accessFlags := 16432
  interfaces := #[]
  cf := some (fileOf pool6 1 #[] #[{ accessFlags := 0, nameIndex := 67, descriptorIndex := 68, attributes := #[] }] 16432 26 #[] #[{ accessFlags := 16409, nameIndex := 5, descriptorIndex := 6, attributes := #[] }, { accessFlags := 16409, nameIndex := 9, descriptorIndex := 6, attributes := #[] }, { accessFlags := 16409, nameIndex := 12, descriptorIndex := 6, attributes := #[] }, { accessFlags := 16409, nameIndex := 15, descriptorIndex := 6, attributes := #[] }, { accessFlags := 26, nameIndex := 37, descriptorIndex := 38, attributes := #[] }, { accessFlags := 4122, nameIndex := 18, descriptorIndex := 19, attributes := #[] }])
  fields := #[{ name := "FIFO", type := (.object "com/example/nominal/nominal/coordinator/Execution"), accessFlags := 16409, slot := 0, constantValue := 0 }, { name := "LIFO", type := (.object "com/example/nominal/nominal/coordinator/Execution"), accessFlags := 16409, slot := 1, constantValue := 0 }, { name := "LAST_ONLY", type := (.object "com/example/nominal/nominal/coordinator/Execution"), accessFlags := 16409, slot := 2, constantValue := 0 }, { name := "NONE", type := (.object "com/example/nominal/nominal/coordinator/Execution"), accessFlags := 16409, slot := 3, constantValue := 0 }, { name := "NONE_LATENESS", type := (.object "java/time/Duration"), accessFlags := 26, slot := 4, constantValue := 0 }, { name := "$VALUES", type := (.array (.object "com/example/nominal/nominal/coordinator/Execution")), accessFlags := 4122, slot := 5, constantValue := 0 }]
  methods := #[k6m0]
  instanceTypes := #[(.object "java/lang/String"), .int, .int]
  staticTypes := #[(.object "com/example/nominal/nominal/coordinator/Execution"), (.object "com/example/nominal/nominal/coordinator/Execution"), (.object "com/example/nominal/nominal/coordinator/Execution"), (.object "com/example/nominal/nominal/coordinator/Execution"), (.object "java/time/Duration"), (.array (.object "com/example/nominal/nominal/coordinator/Execution"))]
  resolved := Array.replicate 76 none
  statics := some 0 }

def pool7 : Array CpInfo := pool [(1, u "java/lang/Cloneable"), (0, .class_ 1), (0, u "java/lang/Object"), (0, .class_ 3)] 3

/-- java/lang/Cloneable -/
def k7 : Class := { plain "java/lang/Cloneable" (some 0) with
  accessFlags := 1537
  interfaces := #[]
  cf := some (fileOf pool7 2 #[] #[] 1537 4 #[] #[])
  fields := #[]
  methods := #[]
  instanceTypes := #[]
  staticTypes := #[]
  resolved := Array.replicate 8 none
  statics := none }

/-- the primitive byte -/
def k8 : Class := { plain "byte" none with kind := .primitive 'B', accessFlags := 0x411 }
/-- [B -/
def k9 : Class := { plain "[B" (some 0) with kind := .array 8 .byte, interfaces := #[7, 4], accessFlags := 1041 }

/-- the primitive int -/
def k10 : Class := { plain "int" none with kind := .primitive 'I', accessFlags := 0x411 }
/-- [I -/
def k11 : Class := { plain "[I" (some 0) with kind := .array 10 .int, interfaces := #[7, 4], accessFlags := 1041 }

def heap : Heap := #[{ cls := 6, slots := #[.ref 1, .ref 2, .ref 3, .ref 4, .null, .null], vm := .statics 6 },
  { cls := 6, slots := #[.null, .int 0, .int 0], vm := .none },
  { cls := 6, slots := #[.null, .int 1, .int 0], vm := .none },
  { cls := 6, slots := #[.null, .int 2, .int 0], vm := .none },
  { cls := 6, slots := #[.null, .int 3, .int 0], vm := .none }]
def classes : Array Class := #[k0, k1, k2, k3, k4, k5, k6, k7, k8, k9, k10, k11]
def interned : List (Array UInt16 × Addr) := []
def slotsUsed : Nat := 18
def theMethod : MethodId := ⟨1, 2⟩
def args0 : Array Value := #[.int 5]
def aboutOver (below : List Frame) : State where
  vm := { classes := classes, interned := interned.toArray }
  heap := heap
  slotsUsed := slotsUsed
  threads := #[{ frames := .invoking theMethod args0 :: below }]
def below0 : List Frame := [.native { method := ⟨0, 0⟩, args := #[] }]
def about1 : State := aboutOver below0
def p0 : Program := .bare "" "" ""
def e0 : Env := launch0.env 0 0 0
theorem w_frames : about1.frames = Frame.invoking theMethod args0 :: below0 := rfl
set_option maxRecDepth 65536 in
theorem w_args : argsFit about1.vm theMethod args0 = true := by decide +kernel
set_option maxRecDepth 65536 in
theorem w_heap : heapFits about1 = true := by decide +kernel
set_option maxRecDepth 65536 in
theorem w_runnable : about1.curStatus? = some .runnable := by decide +kernel
set_option maxRecDepth 65536 in
theorem w_alone : about1.alone = true := by decide +kernel
set_option maxRecDepth 65536 in
theorem w_named : about1.methodNamed? x = some theMethod := by decide +kernel
set_option maxRecDepth 65536 in
theorem w_hears : about1.hears theMethod below0 = true := by decide +kernel
set_option maxRecDepth 65536 in
theorem w_ripe : about1.ripe theMethod args0 below0 = true := by decide +kernel
theorem w_running : about1.status = .running := rfl
set_option maxRecDepth 65536 in
theorem w_room : about1.hasRoom e0.platform room_1 = true :=
  launch0.hasRoom_least _ room_1 (by decide +kernel) (by decide +kernel) (by decide +kernel) (by decide +kernel) (by decide +kernel) (by decide +kernel)
theorem allAtoms_all (ts : List Jvm.Cond) (a : Array Jvm.Value) (st : Jvm.State) : (allAtoms ts).before a st = ts.all (fun c => c.before a st) := by
  induction ts with
  | nil => rfl
  | cons c t ih =>
    show (Jvm.Cond.and c (allAtoms t)).before a st = _
    rw [Jvm.Cond.before_and, ih, List.all_cons]
def words1 : List Jvm.Cond := Jvm.Cond.code x code maxLocals ret :: tables_1
/-- a 'code' word, met by the world's own term for the bytes: nothing is compared byte by byte -/
theorem code_word {y : MethodName} {bytes : ByteArray} {mx : Nat} {rt : Option FieldType} {a : Array Value} {s : State} {m : MethodId} {meth : Method} {c : Code} (h1 : s.methodNamed? y = some m) (h2 : s.vm.method? m = some meth) (h3 : meth.code = some c) (h4 : c.code = bytes)
    (h5 : (c.maxLocals == mx && c.exceptionTable.isEmpty && decide (c.maxStack ≤ mostOperands) && decide (meth.sig.returnType = rt) && !meth.locks && decide (parseMethodDescriptor y.desc = some meth.sig)) = true) : (Jvm.Cond.code y bytes mx rt).before a s = true := by
  simp only [Bool.and_eq_true, beq_iff_eq, Bool.not_eq_true', decide_eq_true_eq] at h5
  obtain ⟨⟨⟨⟨⟨g1, g2⟩, g3⟩, g4⟩, g5⟩, g6⟩ := h5
  simp [Cond.before, Cond.holds, Cond.value, h1, h2, h3, h4, g1, g2, g3, g4, g5, g6]
def isCode : Jvm.Cond → Bool
  | .code _ _ _ _ => true
  | _ => false
theorem all_split {L : List Jvm.Cond} {P : Jvm.Cond → Bool} (h1 : L.all (fun c => isCode c || P c) = true) (h2 : ∀ c ∈ L.filter isCode, P c = true) : L.all P = true := by
  refine List.all_eq_true.mpr fun c hc => ?_
  have h := List.all_eq_true.mp h1 c hc
  rcases Bool.eq_false_or_eq_true (isCode c) with hi | hi
  · exact h2 c (List.mem_filter.mpr ⟨hc, hi⟩)
  · simpa [hi] using h
set_option maxRecDepth 65536 in
theorem w_c0 : (Jvm.Cond.code x code maxLocals ret).before args0 about1 = true := code_word (m := ⟨1, 2⟩) (meth := k1m2) (c := k1c2) (by decide +kernel) rfl rfl rfl (by decide +kernel)
set_option maxRecDepth 65536 in
theorem w_c1 : (Jvm.Cond.code ({ cls := "com/example/nominal/nominal/coordinator/ExecutionNewestFirstPinLaw", name := "pick", desc := "(I)Lcom/example/nominal/nominal/coordinator/Execution;" } : Jvm.MethodName) method_2_code (1 : Nat) (Option.some (Jvm.ClassFile.FieldType.object "com/example/nominal/nominal/coordinator/Execution"))).before args0 about1 = true := code_word (m := ⟨1, 1⟩) (meth := k1m1) (c := k1c1) (by decide +kernel) rfl rfl rfl (by decide +kernel)
set_option maxRecDepth 65536 in
theorem w_c2 : (Jvm.Cond.code ({ cls := "com/example/nominal/nominal/coordinator/Execution", name := "newestFirst", desc := "()Z" } : Jvm.MethodName) prog_7_method_4_code (1 : Nat) (Option.some Jvm.ClassFile.FieldType.boolean)).before args0 about1 = true := code_word (m := ⟨6, 0⟩) (meth := k6m0) (c := k6c0) (by decide +kernel) rfl rfl rfl (by decide +kernel)
def codes1 : List Jvm.Cond := [Jvm.Cond.code x code maxLocals ret, Jvm.Cond.code ({ cls := "com/example/nominal/nominal/coordinator/ExecutionNewestFirstPinLaw", name := "pick", desc := "(I)Lcom/example/nominal/nominal/coordinator/Execution;" } : Jvm.MethodName) method_2_code (1 : Nat) (Option.some (Jvm.ClassFile.FieldType.object "com/example/nominal/nominal/coordinator/Execution")), Jvm.Cond.code ({ cls := "com/example/nominal/nominal/coordinator/Execution", name := "newestFirst", desc := "()Z" } : Jvm.MethodName) prog_7_method_4_code (1 : Nat) (Option.some Jvm.ClassFile.FieldType.boolean)]
set_option maxRecDepth 65536 in
theorem codes_eq : words1.filter isCode = codes1 := rfl
theorem w_codes : ∀ c ∈ words1.filter isCode, c.before args0 about1 = true := by
  rw [codes_eq]
  intro c hc
  simp only [codes1, List.mem_cons, List.not_mem_nil, or_false] at hc
  rcases hc with rfl | rfl | rfl
  · exact w_c0
  · exact w_c1
  · exact w_c2
set_option maxRecDepth 65536 in
theorem w_t1 : words1.all (fun c => isCode c || c.before args0 about1) = true := by decide +kernel
theorem w_tables : (allAtoms (Jvm.Cond.code x code maxLocals ret :: tables_1)).before args0 about1 = true := by
  rw [allAtoms_all]
  show words1.all (fun c => c.before args0 about1) = true
  refine all_split ?_ w_codes
  rw [w_t1]
set_option maxRecDepth 65536 in
theorem w_case : (Jvm.Cond.and given_1 narrow_1).before args0 about1 = true := by decide +kernel
theorem w_applies : (headSpec (Jvm.Cond.code x code maxLocals ret :: tables_1) room_1).applies x e0.platform about1 = true :=
  (Spec.applies_iff w_frames).mpr ⟨w_running, w_runnable, w_alone, w_named, w_hears, w_ripe, w_room, w_tables⟩
theorem atStart : AtStart classFile x code maxLocals ret World_1 tables_1 room_1 Calls_1 rest_1 Pre_1 launch0 p0 e0 about1 theMethod args0 below0 :=
  ⟨lists_1, trivial, launch0.admits_env _ _ _, launch0.least_env, fairChoices_fair.cas, fairChoices_fair.clock, w_frames, w_args, w_heap, w_applies, trivial, trivial, w_case⟩
end start1
theorem witness_1 : WitnessClaimed_1 := ⟨start1.p0, start1.e0, start1.about1, start1.theMethod, start1.args0, start1.below0, start1.atStart⟩
end Jvm.Pilot.@@N@@
