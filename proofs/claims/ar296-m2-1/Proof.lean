import JvmDerived
import JvmDerived.Pilot.@@N@@Statement
import JvmDerived.Pilot.@@N@@Code
set_option linter.unusedVariables false
set_option linter.unusedSimpArgs false
namespace Jvm.Pilot.@@N@@
open Jvm Jvm.ClassFile Sem Op Lib Jvm.Free Jvm.Stand Jvm.LawKit Jvm.RoadKit Bundle Jvm.Pilot.@@N@@.Jvm.D
/-- from A the run comes to wherever it comes from B -/
def Lead (p : Program) (e : Env) (below : List Frame) (A B : State) : Prop := ∀ t, Steps p.tables e below A t → Steps p.tables e below B t
theorem own_lcl (x y : Int64) : lcmpW x y < 0 ↔ x < y := by rw [lcW]; exact lc_lt x y
theorem own_lcg (x y : Int64) : 0 < lcmpW x y ↔ y < x := by rw [lcW]; exact lc_gt x y
theorem own_lce (x y : Int64) : lcmpW x y = 0 ↔ x = y := by rw [lcW]; exact lc_eq x y
theorem pn_0 : plainName "com/example/anabranch/anabranch/core/TimesInRangePinLaw" = true := by first | (simp [plainName, overriddenIn]; done) | decide +kernel
theorem pd_0 : parseMethodDescriptor "(JII)Z" = some ⟨[.long, .int, .int], some .boolean⟩ := by decide +kernel
theorem d1_0 : decode prog_18_method_3_code 0 = .ok (.lload_n 0, 1) := by decide +kernel
theorem d1_1 : decode prog_18_method_3_code 1 = .ok (.getstatic 73, 3) := by decide +kernel
theorem d1_4 : decode prog_18_method_3_code 4 = .ok (.lcmp, 1) := by decide +kernel
theorem d1_5 : decode prog_18_method_3_code 5 = .ok (.ifCond .lt 15, 3) := by decide +kernel
theorem d1_8 : decode prog_18_method_3_code 8 = .ok (.lload_n 0, 1) := by decide +kernel
theorem d1_9 : decode prog_18_method_3_code 9 = .ok (.getstatic 85, 3) := by decide +kernel
theorem d1_12 : decode prog_18_method_3_code 12 = .ok (.lcmp, 1) := by decide +kernel
theorem d1_13 : decode prog_18_method_3_code 13 = .ok (.ifCond .gt 7, 3) := by decide +kernel
theorem d1_16 : decode prog_18_method_3_code 16 = .ok (.iconst 1, 1) := by decide +kernel
theorem d1_17 : decode prog_18_method_3_code 17 = .ok (.goto 4, 3) := by decide +kernel
theorem d1_20 : decode prog_18_method_3_code 20 = .ok (.iconst 0, 1) := by decide +kernel
theorem d1_21 : decode prog_18_method_3_code 21 = .ok (.ireturn, 1) := by decide +kernel
theorem pn_1 : plainName "com/example/anabranch/anabranch/core/Times" = true := by first | (simp [plainName, overriddenIn]; done) | decide +kernel
theorem pd_1 : parseMethodDescriptor "(J)Z" = some ⟨[.long], some .boolean⟩ := by decide +kernel

def inR (x : Int64) : Int32 := if x < (-62167219200000 : Int64) then 0 else if (253402300799999 : Int64) < x then 0 else 1
def Q1 (Z : State) (q1 : Int64) (h0 : Heap) (n0 : Nat) (v : Option Value) (h : Heap) (L : List Loc) : Prop := v = some (.int (inR q1)) ∧ Fr n0 L ∧ h = h0
theorem ef_1 (m : MethodId) (q1 : Int64) : entryFrame m #[(.long q1)] 2 = mkF m 0 #[.val (.long q1), .second] [] := by first | (simp [entryFrame, mkF, argsToLocals, Value.category]; done) | rfl
set_option maxRecDepth 65536 in
set_option maxHeartbeats 40000000 in
theorem rm1 (l : Launch) (Z : State) (a0 : Array Value) (hw : ∀ d ∈ tables_1, d.before a0 Z = true) (ws : List Jvm.Cond) (q1 : Int64) (h0 : Heap) (n0 : Nat) (Z0 : n0 ≤ h0.size) (S1 : Sta Z h0 "com/example/anabranch/anabranch/core/Times" "EARLIEST" "J" (.long (-62167219200000 : Int64))) (S2 : Sta Z h0 "com/example/anabranch/anabranch/core/Times" "LATEST" "J" (.long (253402300799999 : Int64))) :
    MetFree l (⟨"com/example/anabranch/anabranch/core/Times", "inRange", "(J)Z"⟩ : MethodName) (head1 (Jvm.Cond.code (⟨"com/example/anabranch/anabranch/core/Times", "inRange", "(J)Z"⟩ : MethodName) prog_18_method_3_code 2 (some .boolean) :: ws) ({ frames := 0, cells := 0, slots := 0, locals := 0 } : Room)) (fun a U => a = #[(.long q1)] ∧ Z.Warmed39 U.vm ∧ U.heap = h0) (fun _ _ _ _ _ => True) (fun _ U o U' => ∃ v L, o = .returned v ∧ Q1 Z q1 h0 n0 v U'.heap L ∧ FrameEnd U o U' L ({ frames := 0, cells := 0, slots := 0, locals := 0 } : Room).cells ({ frames := 0, cells := 0, slots := 0, locals := 0 } : Room).slots) := by
  refine MetFree.of_bodySF (plainFor_of_name pn_1) hisR ?_
  intro p e s m args below meth c s₁ Bd hml0 hP hK
  obtain ⟨rfl, hZ, hh⟩ := hP
  have hx := Bd.exec
  have hby := Bd.bytes
  have hml : c.maxLocals = 2 := hml0
  have hown : s.vm.findClass "com/example/anabranch/anabranch/core/Times" = some m.cls := findClass_of_methodNamed Bd.named
  have hnm := (name_of_methodNamed Bd.named Bd.method).1
  have X0 : Stand p l e ({ frames := 0, cells := 0, slots := 0, locals := 0 } : Room) s m #[(.long q1)] below meth c s₁ [] 0 0 := Stand.of_body Bd
  have e0 : s₁.heap = h0 := by rw [← hh, Bd.state]; rfl
  have N0 := Fr.nil n0
  have pre0 : Lead p e below (s₁.setTop (mkF m 0 #[.val (.long q1), .second] [])) (s₁.setTop (entryFrame m #[(.long q1)] 2)) := fun t k => castTop (ef_1 m q1) k
  obtain ⟨T1, X1, e1, st1⟩ := getS2 X0 hx hZ hown (host := "") (Or.inl (hw _ (List.mem_of_getElem? (i := 6) rfl))) Via.refl e0 S1 (g := (mkF m 1 #[.val (.long q1), .second] [(.long q1)])) rfl (hb hby d1_1)
  have pre2 : Lead p e below (T1.setTop (mkF m 5 #[.val (.long q1), .second] [(.int (lcmpW q1 (-62167219200000 : Int64)))])) (s₁.setTop (entryFrame m #[(.long q1)] 2)) := fun t k => by
    refine pre0 t ?_
    refine XS.lloadN X0.here hx rfl (hb hby d1_0) rfl ?_
    show Steps p.tables e below (s₁.setTop (mkF m 1 #[.val (.long q1), .second] [(.long q1)])) _
    refine st1 _ ?_
    show Steps p.tables e below (T1.setTop (mkF m 4 #[.val (.long q1), .second] [(.long (-62167219200000 : Int64)), (.long q1)])) _
    refine XS.lcmp X1.here hx rfl (hb hby d1_4) rfl ?_
    show Steps p.tables e below (T1.setTop (mkF m 5 #[.val (.long q1), .second] [(.int (lcmpW q1 (-62167219200000 : Int64)))])) _
    exact k
  by_cases h1 : q1 < (-62167219200000 : Int64)
  · skip
    have pre3 : Lead p e below (T1.setTop (mkF m 21 #[.val (.long q1), .second] [(.int (0 : Int32))])) (s₁.setTop (entryFrame m #[(.long q1)] 2)) := fun t k => by
      refine pre2 t ?_
      refine XS.ifYes X1.here hx rfl (pc0 := 5) (pc' := 20) rfl (hb hby d1_5) rfl ((if0 _ _).trans (tlt ((own_lcl _ _).mpr h1)).1) (by decide) (by decide) ?_
      show Steps p.tables e below (T1.setTop (mkF m 20 #[.val (.long q1), .second] [])) _
      refine XS.iconst X1.here hx rfl (hb hby d1_20) ?_
      show Steps p.tables e below (T1.setTop (mkF m 21 #[.val (.long q1), .second] [(.int (0 : Int32))])) _
      exact k
    obtain ⟨fs, hr, hrun, hended, hW, hsame⟩ := X1.leave (v := some (.int (0 : Int32))) (fun h => by rw [Bd.returns] at h; cases h)
    refine ⟨_, _, pre3 _ ?_, hrun, hended, _, _, rfl, ?_, ⟨_, rfl⟩, hW, hsame.mono (by decide) (by decide)⟩
    · exact retN X1 hx (t := .boolean) Bd.returns (by simp) (hb hby d1_21) hr
    · show Q1 Z q1 h0 n0 _ T1.heap _
      rw [e1]
      exact ⟨by rw [inR, if_pos h1], N0, rfl⟩
  · skip
    obtain ⟨T4, X4, e4, st4⟩ := getS2 X1 hx hZ hown (host := "") (Or.inl (hw _ (List.mem_of_getElem? (i := 8) rfl))) Via.refl e1 S2 (g := (mkF m 9 #[.val (.long q1), .second] [(.long q1)])) rfl (hb hby d1_9)
    have pre5 : Lead p e below (T4.setTop (mkF m 13 #[.val (.long q1), .second] [(.int (lcmpW q1 (253402300799999 : Int64)))])) (s₁.setTop (entryFrame m #[(.long q1)] 2)) := fun t k => by
      refine pre2 t ?_
      refine XS.ifNo X1.here hx rfl (hb hby d1_5) rfl ((if0 _ _).trans (flt (fun q => h1 ((own_lcl _ _).mp q))).1) ?_
      show Steps p.tables e below (T1.setTop (mkF m 8 #[.val (.long q1), .second] [])) _
      refine XS.lloadN X1.here hx rfl (hb hby d1_8) rfl ?_
      show Steps p.tables e below (T1.setTop (mkF m 9 #[.val (.long q1), .second] [(.long q1)])) _
      refine st4 _ ?_
      show Steps p.tables e below (T4.setTop (mkF m 12 #[.val (.long q1), .second] [(.long (253402300799999 : Int64)), (.long q1)])) _
      refine XS.lcmp X4.here hx rfl (hb hby d1_12) rfl ?_
      show Steps p.tables e below (T4.setTop (mkF m 13 #[.val (.long q1), .second] [(.int (lcmpW q1 (253402300799999 : Int64)))])) _
      exact k
    by_cases h2 : (253402300799999 : Int64) < q1
    · skip
      have pre6 : Lead p e below (T4.setTop (mkF m 21 #[.val (.long q1), .second] [(.int (0 : Int32))])) (s₁.setTop (entryFrame m #[(.long q1)] 2)) := fun t k => by
        refine pre5 t ?_
        refine XS.ifYes X4.here hx rfl (pc0 := 13) (pc' := 20) rfl (hb hby d1_13) rfl ((if0 _ _).trans (tlt ((own_lcg _ _).mpr h2)).2.2.1) (by decide) (by decide) ?_
        show Steps p.tables e below (T4.setTop (mkF m 20 #[.val (.long q1), .second] [])) _
        refine XS.iconst X4.here hx rfl (hb hby d1_20) ?_
        show Steps p.tables e below (T4.setTop (mkF m 21 #[.val (.long q1), .second] [(.int (0 : Int32))])) _
        exact k
      obtain ⟨fs, hr, hrun, hended, hW, hsame⟩ := X4.leave (v := some (.int (0 : Int32))) (fun h => by rw [Bd.returns] at h; cases h)
      refine ⟨_, _, pre6 _ ?_, hrun, hended, _, _, rfl, ?_, ⟨_, rfl⟩, hW, hsame.mono (by decide) (by decide)⟩
      · exact retN X4 hx (t := .boolean) Bd.returns (by simp) (hb hby d1_21) hr
      · show Q1 Z q1 h0 n0 _ T4.heap _
        rw [e4]
        exact ⟨by rw [inR, if_neg h1, if_pos h2], N0, rfl⟩
    · skip
      have pre7 : Lead p e below (T4.setTop (mkF m 21 #[.val (.long q1), .second] [(.int (1 : Int32))])) (s₁.setTop (entryFrame m #[(.long q1)] 2)) := fun t k => by
        refine pre5 t ?_
        refine XS.ifNo X4.here hx rfl (hb hby d1_13) rfl ((if0 _ _).trans (flt (fun q => h2 ((own_lcg _ _).mp q))).2.2.1) ?_
        show Steps p.tables e below (T4.setTop (mkF m 16 #[.val (.long q1), .second] [])) _
        refine XS.iconst X4.here hx rfl (hb hby d1_16) ?_
        show Steps p.tables e below (T4.setTop (mkF m 17 #[.val (.long q1), .second] [(.int (1 : Int32))])) _
        refine XS.goto X4.here hx rfl (pc0 := 17) (pc' := 21) rfl (hb hby d1_17) (by decide) (by decide) ?_
        show Steps p.tables e below (T4.setTop (mkF m 21 #[.val (.long q1), .second] [(.int (1 : Int32))])) _
        exact k
      obtain ⟨fs, hr, hrun, hended, hW, hsame⟩ := X4.leave (v := some (.int (1 : Int32))) (fun h => by rw [Bd.returns] at h; cases h)
      refine ⟨_, _, pre7 _ ?_, hrun, hended, _, _, rfl, ?_, ⟨_, rfl⟩, hW, hsame.mono (by decide) (by decide)⟩
      · exact retN X4 hx (t := .boolean) Bd.returns (by simp) (hb hby d1_21) hr
      · show Q1 Z q1 h0 n0 _ T4.heap _
        rw [e4]
        exact ⟨by rw [inR, if_neg h1, if_neg h2], N0, rfl⟩
def Q0 (Z : State) (q1 : Int64) (p2 p3 : Int32) (h0 : Heap) (n0 : Nat) (v : Option Value) (h : Heap) (L : List Loc) : Prop := v = some (.int (1 : Int32)) ∧ Fr n0 L
theorem ef_0 (m : MethodId) (q1 : Int64) (p2 : Int32) (p3 : Int32) : entryFrame m #[(.long q1), (.int p2), (.int p3)] maxLocals = mkF m 0 #[.val (.long q1), .second, .val (.int p2), .val (.int p3), .unset, .unset, .unset, .unset, .unset, .unset] [] := by first | (simp [entryFrame, mkF, argsToLocals, Value.category, maxLocals]; done) | rfl
set_option maxRecDepth 65536 in
set_option maxHeartbeats 40000000 in
theorem rm0 (l : Launch) (Z : State) (a0 : Array Value) (hw : ∀ d ∈ tables_1, d.before a0 Z = true) (ws : List Jvm.Cond) (q1 : Int64) (p2 p3 : Int32) (h0 : Heap) (n0 : Nat) (Z0 : n0 ≤ h0.size) (S1 : Sta Z h0 "com/example/anabranch/anabranch/core/Times" "EARLIEST" "J" (.long (-62167219200000 : Int64))) (S2 : Sta Z h0 "com/example/anabranch/anabranch/core/Times" "LATEST" "J" (.long (253402300799999 : Int64))) :
    MetFree l x (head1 (Jvm.Cond.code x code maxLocals ret :: ws) room_1) (fun a U => a = #[(.long q1), (.int p2), (.int p3)] ∧ Z.Warmed39 U.vm ∧ U.heap = h0) (fun _ _ _ _ _ => True) (fun _ U o U' => ∃ v L, o = .returned v ∧ Q0 Z q1 p2 p3 h0 n0 v U'.heap L ∧ FrameEnd U o U' L room_1.cells room_1.slots) := by
  refine MetFree.of_bodySF (plainFor_of_name pn_0) hisR ?_
  intro p e s m args below meth c s₁ Bd hml0 hP hK
  obtain ⟨rfl, hZ, hh⟩ := hP
  have hx := Bd.exec
  have hby := Bd.bytes
  have hml : c.maxLocals = 10 := hml0
  have hown : s.vm.findClass "com/example/anabranch/anabranch/core/TimesInRangePinLaw" = some m.cls := findClass_of_methodNamed Bd.named
  have hnm := (name_of_methodNamed Bd.named Bd.method).1
  have X0 : Stand p l e room_1 s m #[(.long q1), (.int p2), (.int p3)] below meth c s₁ [] 0 0 := Stand.of_body Bd
  have e0 : s₁.heap = h0 := by rw [← hh, Bd.state]; rfl
  have N0 := Fr.nil n0
  have pre0 : Lead p e below (s₁.setTop (mkF m 0 #[.val (.long q1), .second, .val (.int p2), .val (.int p3), .unset, .unset, .unset, .unset, .unset, .unset] [])) (s₁.setTop (entryFrame m #[(.long q1), (.int p2), (.int p3)] maxLocals)) := fun t k => castTop (ef_0 m q1 p2 p3) k
  have pre8 : Lead p e below (s₁.setTop (mkF m 14 #[.val (.long q1), .second, .val (.int p2), .val (.int p3), .val (.int (p2 &&& (3 : Int32))), .val (.long ((p3 % (4 : Int32)).toInt64)), .second, .unset, .unset, .unset] [(.int (1 : Int32)), (.int (p2 &&& (3 : Int32)))])) (s₁.setTop (entryFrame m #[(.long q1), (.int p2), (.int p3)] maxLocals)) := fun t k => by
    refine pre0 t ?_
    refine XS.iloadN X0.here hx rfl (hb hby at_0) rfl ?_
    show Steps p.tables e below (s₁.setTop (mkF m 1 #[.val (.long q1), .second, .val (.int p2), .val (.int p3), .unset, .unset, .unset, .unset, .unset, .unset] [(.int p2)])) _
    refine XS.iconst X0.here hx rfl (hb hby at_1) ?_
    show Steps p.tables e below (s₁.setTop (mkF m 2 #[.val (.long q1), .second, .val (.int p2), .val (.int p3), .unset, .unset, .unset, .unset, .unset, .unset] [(.int (3 : Int32)), (.int p2)])) _
    refine XS.iand X0.here hx rfl (hb hby at_2) rfl ?_
    show Steps p.tables e below (s₁.setTop (mkF m 3 #[.val (.long q1), .second, .val (.int p2), .val (.int p3), .unset, .unset, .unset, .unset, .unset, .unset] [(.int (p2 &&& (3 : Int32)))])) _
    refine XS.istore X0.here hx rfl (hb hby at_3) rfl (l' := #[.val (.long q1), .second, .val (.int p2), .val (.int p3), .val (.int (p2 &&& (3 : Int32))), .unset, .unset, .unset, .unset, .unset]) rfl ?_
    show Steps p.tables e below (s₁.setTop (mkF m 5 #[.val (.long q1), .second, .val (.int p2), .val (.int p3), .val (.int (p2 &&& (3 : Int32))), .unset, .unset, .unset, .unset, .unset] [])) _
    refine XS.iloadN X0.here hx rfl (hb hby at_5) rfl ?_
    show Steps p.tables e below (s₁.setTop (mkF m 6 #[.val (.long q1), .second, .val (.int p2), .val (.int p3), .val (.int (p2 &&& (3 : Int32))), .unset, .unset, .unset, .unset, .unset] [(.int p3)])) _
    refine XS.iconst X0.here hx rfl (hb hby at_6) ?_
    show Steps p.tables e below (s₁.setTop (mkF m 7 #[.val (.long q1), .second, .val (.int p2), .val (.int p3), .val (.int (p2 &&& (3 : Int32))), .unset, .unset, .unset, .unset, .unset] [(.int (4 : Int32)), (.int p3)])) _
    refine iremM (g := (mkF m 7 #[.val (.long q1), .second, .val (.int p2), .val (.int p3), .val (.int (p2 &&& (3 : Int32))), .unset, .unset, .unset, .unset, .unset] [(.int (4 : Int32)), (.int p3)])) X0 hx rfl (hb hby at_7) rfl (by decide) ?_
    show Steps p.tables e below (s₁.setTop (mkF m 8 #[.val (.long q1), .second, .val (.int p2), .val (.int p3), .val (.int (p2 &&& (3 : Int32))), .unset, .unset, .unset, .unset, .unset] [(.int (p3 % (4 : Int32)))])) _
    refine XS.i2l X0.here hx rfl (hb hby at_8) rfl ?_
    show Steps p.tables e below (s₁.setTop (mkF m 9 #[.val (.long q1), .second, .val (.int p2), .val (.int p3), .val (.int (p2 &&& (3 : Int32))), .unset, .unset, .unset, .unset, .unset] [(.long ((p3 % (4 : Int32)).toInt64))])) _
    refine XS.lstore X0.here hx rfl (hb hby at_9) rfl (l' := #[.val (.long q1), .second, .val (.int p2), .val (.int p3), .val (.int (p2 &&& (3 : Int32))), .val (.long ((p3 % (4 : Int32)).toInt64)), .second, .unset, .unset, .unset]) rfl ?_
    show Steps p.tables e below (s₁.setTop (mkF m 11 #[.val (.long q1), .second, .val (.int p2), .val (.int p3), .val (.int (p2 &&& (3 : Int32))), .val (.long ((p3 % (4 : Int32)).toInt64)), .second, .unset, .unset, .unset] [])) _
    refine XS.iload X0.here hx rfl (hb hby at_11) rfl ?_
    show Steps p.tables e below (s₁.setTop (mkF m 13 #[.val (.long q1), .second, .val (.int p2), .val (.int p3), .val (.int (p2 &&& (3 : Int32))), .val (.long ((p3 % (4 : Int32)).toInt64)), .second, .unset, .unset, .unset] [(.int (p2 &&& (3 : Int32)))])) _
    refine XS.iconst X0.here hx rfl (hb hby at_13) ?_
    show Steps p.tables e below (s₁.setTop (mkF m 14 #[.val (.long q1), .second, .val (.int p2), .val (.int p3), .val (.int (p2 &&& (3 : Int32))), .val (.long ((p3 % (4 : Int32)).toInt64)), .second, .unset, .unset, .unset] [(.int (1 : Int32)), (.int (p2 &&& (3 : Int32)))])) _
    exact k
  obtain ⟨xx, preJ⟩ : ∃ xx : Int64, Lead p e below (s₁.setTop (mkF m 90 #[.val (.long q1), .second, .val (.int p2), .val (.int p3), .val (.int (p2 &&& (3 : Int32))), .val (.long ((p3 % (4 : Int32)).toInt64)), .second, .val (.long xx), .second, .unset] [])) (s₁.setTop (entryFrame m #[(.long q1), (.int p2), (.int p3)] maxLocals)) := by
    by_cases h1 : (p2 &&& (3 : Int32)) = (1 : Int32)
    · skip
      have pre9 : Lead p e below (s₁.setTop (mkF m 90 #[.val (.long q1), .second, .val (.int p2), .val (.int p3), .val (.int (p2 &&& (3 : Int32))), .val (.long ((p3 % (4 : Int32)).toInt64)), .second, .val (.long ((-62167219200000 : Int64) + ((p3 % (4 : Int32)).toInt64))), .second, .unset] [])) (s₁.setTop (entryFrame m #[(.long q1), (.int p2), (.int p3)] maxLocals)) := fun t k => by
        refine pre8 t ?_
        refine XS.icmpNo X0.here hx rfl (hb hby at_14) rfl (teq h1).2 ?_
        show Steps p.tables e below (s₁.setTop (mkF m 17 #[.val (.long q1), .second, .val (.int p2), .val (.int p3), .val (.int (p2 &&& (3 : Int32))), .val (.long ((p3 % (4 : Int32)).toInt64)), .second, .unset, .unset, .unset] [])) _
        refine X0.ldc2Long hx hown (mvT hZ (hw _ (List.mem_of_getElem? (i := 1) rfl))) (g := (mkF m 17 #[.val (.long q1), .second, .val (.int p2), .val (.int p3), .val (.int (p2 &&& (3 : Int32))), .val (.long ((p3 % (4 : Int32)).toInt64)), .second, .unset, .unset, .unset] [])) rfl (hb hby at_17) _ ?_
        show Steps p.tables e below (s₁.setTop (mkF m 20 #[.val (.long q1), .second, .val (.int p2), .val (.int p3), .val (.int (p2 &&& (3 : Int32))), .val (.long ((p3 % (4 : Int32)).toInt64)), .second, .unset, .unset, .unset] [(.long (-62167219200000 : Int64))])) _
        refine XS.lload X0.here hx rfl (hb hby at_20) rfl ?_
        show Steps p.tables e below (s₁.setTop (mkF m 22 #[.val (.long q1), .second, .val (.int p2), .val (.int p3), .val (.int (p2 &&& (3 : Int32))), .val (.long ((p3 % (4 : Int32)).toInt64)), .second, .unset, .unset, .unset] [(.long ((p3 % (4 : Int32)).toInt64)), (.long (-62167219200000 : Int64))])) _
        refine XS.ladd X0.here hx rfl (hb hby at_22) rfl ?_
        show Steps p.tables e below (s₁.setTop (mkF m 23 #[.val (.long q1), .second, .val (.int p2), .val (.int p3), .val (.int (p2 &&& (3 : Int32))), .val (.long ((p3 % (4 : Int32)).toInt64)), .second, .unset, .unset, .unset] [(.long ((-62167219200000 : Int64) + ((p3 % (4 : Int32)).toInt64)))])) _
        refine XS.lstore X0.here hx rfl (hb hby at_23) rfl (l' := #[.val (.long q1), .second, .val (.int p2), .val (.int p3), .val (.int (p2 &&& (3 : Int32))), .val (.long ((p3 % (4 : Int32)).toInt64)), .second, .val (.long ((-62167219200000 : Int64) + ((p3 % (4 : Int32)).toInt64))), .second, .unset]) rfl ?_
        show Steps p.tables e below (s₁.setTop (mkF m 25 #[.val (.long q1), .second, .val (.int p2), .val (.int p3), .val (.int (p2 &&& (3 : Int32))), .val (.long ((p3 % (4 : Int32)).toInt64)), .second, .val (.long ((-62167219200000 : Int64) + ((p3 % (4 : Int32)).toInt64))), .second, .unset] [])) _
        refine XS.goto X0.here hx rfl (pc0 := 25) (pc' := 90) rfl (hb hby at_25) (by decide) (by decide) ?_
        show Steps p.tables e below (s₁.setTop (mkF m 90 #[.val (.long q1), .second, .val (.int p2), .val (.int p3), .val (.int (p2 &&& (3 : Int32))), .val (.long ((p3 % (4 : Int32)).toInt64)), .second, .val (.long ((-62167219200000 : Int64) + ((p3 % (4 : Int32)).toInt64))), .second, .unset] [])) _
        exact k
      exact ⟨_, pre9⟩
    · skip
      have pre10 : Lead p e below (s₁.setTop (mkF m 31 #[.val (.long q1), .second, .val (.int p2), .val (.int p3), .val (.int (p2 &&& (3 : Int32))), .val (.long ((p3 % (4 : Int32)).toInt64)), .second, .unset, .unset, .unset] [(.int (2 : Int32)), (.int (p2 &&& (3 : Int32)))])) (s₁.setTop (entryFrame m #[(.long q1), (.int p2), (.int p3)] maxLocals)) := fun t k => by
        refine pre8 t ?_
        refine XS.icmpYes X0.here hx rfl (pc0 := 14) (pc' := 28) rfl (hb hby at_14) rfl (feq h1).2 (by decide) (by decide) ?_
        show Steps p.tables e below (s₁.setTop (mkF m 28 #[.val (.long q1), .second, .val (.int p2), .val (.int p3), .val (.int (p2 &&& (3 : Int32))), .val (.long ((p3 % (4 : Int32)).toInt64)), .second, .unset, .unset, .unset] [])) _
        refine XS.iload X0.here hx rfl (hb hby at_28) rfl ?_
        show Steps p.tables e below (s₁.setTop (mkF m 30 #[.val (.long q1), .second, .val (.int p2), .val (.int p3), .val (.int (p2 &&& (3 : Int32))), .val (.long ((p3 % (4 : Int32)).toInt64)), .second, .unset, .unset, .unset] [(.int (p2 &&& (3 : Int32)))])) _
        refine XS.iconst X0.here hx rfl (hb hby at_30) ?_
        show Steps p.tables e below (s₁.setTop (mkF m 31 #[.val (.long q1), .second, .val (.int p2), .val (.int p3), .val (.int (p2 &&& (3 : Int32))), .val (.long ((p3 % (4 : Int32)).toInt64)), .second, .unset, .unset, .unset] [(.int (2 : Int32)), (.int (p2 &&& (3 : Int32)))])) _
        exact k
      by_cases h2 : (p2 &&& (3 : Int32)) = (2 : Int32)
      · skip
        have pre11 : Lead p e below (s₁.setTop (mkF m 90 #[.val (.long q1), .second, .val (.int p2), .val (.int p3), .val (.int (p2 &&& (3 : Int32))), .val (.long ((p3 % (4 : Int32)).toInt64)), .second, .val (.long ((253402300799999 : Int64) + ((p3 % (4 : Int32)).toInt64))), .second, .unset] [])) (s₁.setTop (entryFrame m #[(.long q1), (.int p2), (.int p3)] maxLocals)) := fun t k => by
          refine pre10 t ?_
          refine XS.icmpNo X0.here hx rfl (hb hby at_31) rfl (teq h2).2 ?_
          show Steps p.tables e below (s₁.setTop (mkF m 34 #[.val (.long q1), .second, .val (.int p2), .val (.int p3), .val (.int (p2 &&& (3 : Int32))), .val (.long ((p3 % (4 : Int32)).toInt64)), .second, .unset, .unset, .unset] [])) _
          refine X0.ldc2Long hx hown (mvT hZ (hw _ (List.mem_of_getElem? (i := 0) rfl))) (g := (mkF m 34 #[.val (.long q1), .second, .val (.int p2), .val (.int p3), .val (.int (p2 &&& (3 : Int32))), .val (.long ((p3 % (4 : Int32)).toInt64)), .second, .unset, .unset, .unset] [])) rfl (hb hby at_34) _ ?_
          show Steps p.tables e below (s₁.setTop (mkF m 37 #[.val (.long q1), .second, .val (.int p2), .val (.int p3), .val (.int (p2 &&& (3 : Int32))), .val (.long ((p3 % (4 : Int32)).toInt64)), .second, .unset, .unset, .unset] [(.long (253402300799999 : Int64))])) _
          refine XS.lload X0.here hx rfl (hb hby at_37) rfl ?_
          show Steps p.tables e below (s₁.setTop (mkF m 39 #[.val (.long q1), .second, .val (.int p2), .val (.int p3), .val (.int (p2 &&& (3 : Int32))), .val (.long ((p3 % (4 : Int32)).toInt64)), .second, .unset, .unset, .unset] [(.long ((p3 % (4 : Int32)).toInt64)), (.long (253402300799999 : Int64))])) _
          refine XS.ladd X0.here hx rfl (hb hby at_39) rfl ?_
          show Steps p.tables e below (s₁.setTop (mkF m 40 #[.val (.long q1), .second, .val (.int p2), .val (.int p3), .val (.int (p2 &&& (3 : Int32))), .val (.long ((p3 % (4 : Int32)).toInt64)), .second, .unset, .unset, .unset] [(.long ((253402300799999 : Int64) + ((p3 % (4 : Int32)).toInt64)))])) _
          refine XS.lstore X0.here hx rfl (hb hby at_40) rfl (l' := #[.val (.long q1), .second, .val (.int p2), .val (.int p3), .val (.int (p2 &&& (3 : Int32))), .val (.long ((p3 % (4 : Int32)).toInt64)), .second, .val (.long ((253402300799999 : Int64) + ((p3 % (4 : Int32)).toInt64))), .second, .unset]) rfl ?_
          show Steps p.tables e below (s₁.setTop (mkF m 42 #[.val (.long q1), .second, .val (.int p2), .val (.int p3), .val (.int (p2 &&& (3 : Int32))), .val (.long ((p3 % (4 : Int32)).toInt64)), .second, .val (.long ((253402300799999 : Int64) + ((p3 % (4 : Int32)).toInt64))), .second, .unset] [])) _
          refine XS.goto X0.here hx rfl (pc0 := 42) (pc' := 90) rfl (hb hby at_42) (by decide) (by decide) ?_
          show Steps p.tables e below (s₁.setTop (mkF m 90 #[.val (.long q1), .second, .val (.int p2), .val (.int p3), .val (.int (p2 &&& (3 : Int32))), .val (.long ((p3 % (4 : Int32)).toInt64)), .second, .val (.long ((253402300799999 : Int64) + ((p3 % (4 : Int32)).toInt64))), .second, .unset] [])) _
          exact k
        exact ⟨_, pre11⟩
      · skip
        have pre12 : Lead p e below (s₁.setTop (mkF m 48 #[.val (.long q1), .second, .val (.int p2), .val (.int p3), .val (.int (p2 &&& (3 : Int32))), .val (.long ((p3 % (4 : Int32)).toInt64)), .second, .unset, .unset, .unset] [(.int (3 : Int32)), (.int (p2 &&& (3 : Int32)))])) (s₁.setTop (entryFrame m #[(.long q1), (.int p2), (.int p3)] maxLocals)) := fun t k => by
          refine pre10 t ?_
          refine XS.icmpYes X0.here hx rfl (pc0 := 31) (pc' := 45) rfl (hb hby at_31) rfl (feq h2).2 (by decide) (by decide) ?_
          show Steps p.tables e below (s₁.setTop (mkF m 45 #[.val (.long q1), .second, .val (.int p2), .val (.int p3), .val (.int (p2 &&& (3 : Int32))), .val (.long ((p3 % (4 : Int32)).toInt64)), .second, .unset, .unset, .unset] [])) _
          refine XS.iload X0.here hx rfl (hb hby at_45) rfl ?_
          show Steps p.tables e below (s₁.setTop (mkF m 47 #[.val (.long q1), .second, .val (.int p2), .val (.int p3), .val (.int (p2 &&& (3 : Int32))), .val (.long ((p3 % (4 : Int32)).toInt64)), .second, .unset, .unset, .unset] [(.int (p2 &&& (3 : Int32)))])) _
          refine XS.iconst X0.here hx rfl (hb hby at_47) ?_
          show Steps p.tables e below (s₁.setTop (mkF m 48 #[.val (.long q1), .second, .val (.int p2), .val (.int p3), .val (.int (p2 &&& (3 : Int32))), .val (.long ((p3 % (4 : Int32)).toInt64)), .second, .unset, .unset, .unset] [(.int (3 : Int32)), (.int (p2 &&& (3 : Int32)))])) _
          exact k
        by_cases h3 : (p2 &&& (3 : Int32)) = (3 : Int32)
        · skip
          have pre13 : Lead p e below (s₁.setTop (mkF m 54 #[.val (.long q1), .second, .val (.int p2), .val (.int p3), .val (.int (p2 &&& (3 : Int32))), .val (.long ((p3 % (4 : Int32)).toInt64)), .second, .unset, .unset, .unset] [(.int (p3 &&& (1 : Int32)))])) (s₁.setTop (entryFrame m #[(.long q1), (.int p2), (.int p3)] maxLocals)) := fun t k => by
            refine pre12 t ?_
            refine XS.icmpNo X0.here hx rfl (hb hby at_48) rfl (teq h3).2 ?_
            show Steps p.tables e below (s₁.setTop (mkF m 51 #[.val (.long q1), .second, .val (.int p2), .val (.int p3), .val (.int (p2 &&& (3 : Int32))), .val (.long ((p3 % (4 : Int32)).toInt64)), .second, .unset, .unset, .unset] [])) _
            refine XS.iloadN X0.here hx rfl (hb hby at_51) rfl ?_
            show Steps p.tables e below (s₁.setTop (mkF m 52 #[.val (.long q1), .second, .val (.int p2), .val (.int p3), .val (.int (p2 &&& (3 : Int32))), .val (.long ((p3 % (4 : Int32)).toInt64)), .second, .unset, .unset, .unset] [(.int p3)])) _
            refine XS.iconst X0.here hx rfl (hb hby at_52) ?_
            show Steps p.tables e below (s₁.setTop (mkF m 53 #[.val (.long q1), .second, .val (.int p2), .val (.int p3), .val (.int (p2 &&& (3 : Int32))), .val (.long ((p3 % (4 : Int32)).toInt64)), .second, .unset, .unset, .unset] [(.int (1 : Int32)), (.int p3)])) _
            refine XS.iand X0.here hx rfl (hb hby at_53) rfl ?_
            show Steps p.tables e below (s₁.setTop (mkF m 54 #[.val (.long q1), .second, .val (.int p2), .val (.int p3), .val (.int (p2 &&& (3 : Int32))), .val (.long ((p3 % (4 : Int32)).toInt64)), .second, .unset, .unset, .unset] [(.int (p3 &&& (1 : Int32)))])) _
            exact k
          by_cases h4 : (p3 &&& (1 : Int32)) = (0 : Int32)
          · skip
            have pre14 : Lead p e below (s₁.setTop (mkF m 90 #[.val (.long q1), .second, .val (.int p2), .val (.int p3), .val (.int (p2 &&& (3 : Int32))), .val (.long ((p3 % (4 : Int32)).toInt64)), .second, .val (.long ((9223372036854775807 : Int64) - (((Jvm.Free.XT.ushr p2 (2 : Int32)) &&& (3 : Int32)).toInt64))), .second, .unset] [])) (s₁.setTop (entryFrame m #[(.long q1), (.int p2), (.int p3)] maxLocals)) := fun t k => by
              refine pre13 t ?_
              refine XS.ifYes X0.here hx rfl (pc0 := 54) (pc' := 72) rfl (hb hby at_54) rfl ((if0 _ _).trans (teq h4).1) (by decide) (by decide) ?_
              show Steps p.tables e below (s₁.setTop (mkF m 72 #[.val (.long q1), .second, .val (.int p2), .val (.int p3), .val (.int (p2 &&& (3 : Int32))), .val (.long ((p3 % (4 : Int32)).toInt64)), .second, .unset, .unset, .unset] [])) _
              refine X0.ldc2Long hx hown (mvT hZ (hw _ (List.mem_of_getElem? (i := 10) rfl))) (g := (mkF m 72 #[.val (.long q1), .second, .val (.int p2), .val (.int p3), .val (.int (p2 &&& (3 : Int32))), .val (.long ((p3 % (4 : Int32)).toInt64)), .second, .unset, .unset, .unset] [])) rfl (hb hby at_72) _ ?_
              show Steps p.tables e below (s₁.setTop (mkF m 75 #[.val (.long q1), .second, .val (.int p2), .val (.int p3), .val (.int (p2 &&& (3 : Int32))), .val (.long ((p3 % (4 : Int32)).toInt64)), .second, .unset, .unset, .unset] [(.long (9223372036854775807 : Int64))])) _
              refine XS.iloadN X0.here hx rfl (hb hby at_75) rfl ?_
              show Steps p.tables e below (s₁.setTop (mkF m 76 #[.val (.long q1), .second, .val (.int p2), .val (.int p3), .val (.int (p2 &&& (3 : Int32))), .val (.long ((p3 % (4 : Int32)).toInt64)), .second, .unset, .unset, .unset] [(.int p2), (.long (9223372036854775807 : Int64))])) _
              refine XS.iconst X0.here hx rfl (hb hby at_76) ?_
              show Steps p.tables e below (s₁.setTop (mkF m 77 #[.val (.long q1), .second, .val (.int p2), .val (.int p3), .val (.int (p2 &&& (3 : Int32))), .val (.long ((p3 % (4 : Int32)).toInt64)), .second, .unset, .unset, .unset] [(.int (2 : Int32)), (.int p2), (.long (9223372036854775807 : Int64))])) _
              refine XS.iushr X0.here hx rfl (hb hby at_77) rfl ?_
              show Steps p.tables e below (s₁.setTop (mkF m 78 #[.val (.long q1), .second, .val (.int p2), .val (.int p3), .val (.int (p2 &&& (3 : Int32))), .val (.long ((p3 % (4 : Int32)).toInt64)), .second, .unset, .unset, .unset] [(.int (Jvm.Free.XT.ushr p2 (2 : Int32))), (.long (9223372036854775807 : Int64))])) _
              refine XS.iconst X0.here hx rfl (hb hby at_78) ?_
              show Steps p.tables e below (s₁.setTop (mkF m 79 #[.val (.long q1), .second, .val (.int p2), .val (.int p3), .val (.int (p2 &&& (3 : Int32))), .val (.long ((p3 % (4 : Int32)).toInt64)), .second, .unset, .unset, .unset] [(.int (3 : Int32)), (.int (Jvm.Free.XT.ushr p2 (2 : Int32))), (.long (9223372036854775807 : Int64))])) _
              refine XS.iand X0.here hx rfl (hb hby at_79) rfl ?_
              show Steps p.tables e below (s₁.setTop (mkF m 80 #[.val (.long q1), .second, .val (.int p2), .val (.int p3), .val (.int (p2 &&& (3 : Int32))), .val (.long ((p3 % (4 : Int32)).toInt64)), .second, .unset, .unset, .unset] [(.int ((Jvm.Free.XT.ushr p2 (2 : Int32)) &&& (3 : Int32))), (.long (9223372036854775807 : Int64))])) _
              refine XS.i2l X0.here hx rfl (hb hby at_80) rfl ?_
              show Steps p.tables e below (s₁.setTop (mkF m 81 #[.val (.long q1), .second, .val (.int p2), .val (.int p3), .val (.int (p2 &&& (3 : Int32))), .val (.long ((p3 % (4 : Int32)).toInt64)), .second, .unset, .unset, .unset] [(.long (((Jvm.Free.XT.ushr p2 (2 : Int32)) &&& (3 : Int32)).toInt64)), (.long (9223372036854775807 : Int64))])) _
              refine XS.lsub X0.here hx rfl (hb hby at_81) rfl ?_
              show Steps p.tables e below (s₁.setTop (mkF m 82 #[.val (.long q1), .second, .val (.int p2), .val (.int p3), .val (.int (p2 &&& (3 : Int32))), .val (.long ((p3 % (4 : Int32)).toInt64)), .second, .unset, .unset, .unset] [(.long ((9223372036854775807 : Int64) - (((Jvm.Free.XT.ushr p2 (2 : Int32)) &&& (3 : Int32)).toInt64)))])) _
              refine XS.lstore X0.here hx rfl (hb hby at_82) rfl (l' := #[.val (.long q1), .second, .val (.int p2), .val (.int p3), .val (.int (p2 &&& (3 : Int32))), .val (.long ((p3 % (4 : Int32)).toInt64)), .second, .val (.long ((9223372036854775807 : Int64) - (((Jvm.Free.XT.ushr p2 (2 : Int32)) &&& (3 : Int32)).toInt64))), .second, .unset]) rfl ?_
              show Steps p.tables e below (s₁.setTop (mkF m 84 #[.val (.long q1), .second, .val (.int p2), .val (.int p3), .val (.int (p2 &&& (3 : Int32))), .val (.long ((p3 % (4 : Int32)).toInt64)), .second, .val (.long ((9223372036854775807 : Int64) - (((Jvm.Free.XT.ushr p2 (2 : Int32)) &&& (3 : Int32)).toInt64))), .second, .unset] [])) _
              refine XS.goto X0.here hx rfl (pc0 := 84) (pc' := 90) rfl (hb hby at_84) (by decide) (by decide) ?_
              show Steps p.tables e below (s₁.setTop (mkF m 90 #[.val (.long q1), .second, .val (.int p2), .val (.int p3), .val (.int (p2 &&& (3 : Int32))), .val (.long ((p3 % (4 : Int32)).toInt64)), .second, .val (.long ((9223372036854775807 : Int64) - (((Jvm.Free.XT.ushr p2 (2 : Int32)) &&& (3 : Int32)).toInt64))), .second, .unset] [])) _
              exact k
            exact ⟨_, pre14⟩
          · skip
            have pre15 : Lead p e below (s₁.setTop (mkF m 90 #[.val (.long q1), .second, .val (.int p2), .val (.int p3), .val (.int (p2 &&& (3 : Int32))), .val (.long ((p3 % (4 : Int32)).toInt64)), .second, .val (.long ((-9223372036854775808 : Int64) + (((Jvm.Free.XT.ushr p2 (2 : Int32)) &&& (3 : Int32)).toInt64))), .second, .unset] [])) (s₁.setTop (entryFrame m #[(.long q1), (.int p2), (.int p3)] maxLocals)) := fun t k => by
              refine pre13 t ?_
              refine XS.ifNo X0.here hx rfl (hb hby at_54) rfl ((if0 _ _).trans (feq h4).1) ?_
              show Steps p.tables e below (s₁.setTop (mkF m 57 #[.val (.long q1), .second, .val (.int p2), .val (.int p3), .val (.int (p2 &&& (3 : Int32))), .val (.long ((p3 % (4 : Int32)).toInt64)), .second, .unset, .unset, .unset] [])) _
              refine X0.ldc2Long hx hown (mvT hZ (hw _ (List.mem_of_getElem? (i := 11) rfl))) (g := (mkF m 57 #[.val (.long q1), .second, .val (.int p2), .val (.int p3), .val (.int (p2 &&& (3 : Int32))), .val (.long ((p3 % (4 : Int32)).toInt64)), .second, .unset, .unset, .unset] [])) rfl (hb hby at_57) _ ?_
              show Steps p.tables e below (s₁.setTop (mkF m 60 #[.val (.long q1), .second, .val (.int p2), .val (.int p3), .val (.int (p2 &&& (3 : Int32))), .val (.long ((p3 % (4 : Int32)).toInt64)), .second, .unset, .unset, .unset] [(.long (-9223372036854775808 : Int64))])) _
              refine XS.iloadN X0.here hx rfl (hb hby at_60) rfl ?_
              show Steps p.tables e below (s₁.setTop (mkF m 61 #[.val (.long q1), .second, .val (.int p2), .val (.int p3), .val (.int (p2 &&& (3 : Int32))), .val (.long ((p3 % (4 : Int32)).toInt64)), .second, .unset, .unset, .unset] [(.int p2), (.long (-9223372036854775808 : Int64))])) _
              refine XS.iconst X0.here hx rfl (hb hby at_61) ?_
              show Steps p.tables e below (s₁.setTop (mkF m 62 #[.val (.long q1), .second, .val (.int p2), .val (.int p3), .val (.int (p2 &&& (3 : Int32))), .val (.long ((p3 % (4 : Int32)).toInt64)), .second, .unset, .unset, .unset] [(.int (2 : Int32)), (.int p2), (.long (-9223372036854775808 : Int64))])) _
              refine XS.iushr X0.here hx rfl (hb hby at_62) rfl ?_
              show Steps p.tables e below (s₁.setTop (mkF m 63 #[.val (.long q1), .second, .val (.int p2), .val (.int p3), .val (.int (p2 &&& (3 : Int32))), .val (.long ((p3 % (4 : Int32)).toInt64)), .second, .unset, .unset, .unset] [(.int (Jvm.Free.XT.ushr p2 (2 : Int32))), (.long (-9223372036854775808 : Int64))])) _
              refine XS.iconst X0.here hx rfl (hb hby at_63) ?_
              show Steps p.tables e below (s₁.setTop (mkF m 64 #[.val (.long q1), .second, .val (.int p2), .val (.int p3), .val (.int (p2 &&& (3 : Int32))), .val (.long ((p3 % (4 : Int32)).toInt64)), .second, .unset, .unset, .unset] [(.int (3 : Int32)), (.int (Jvm.Free.XT.ushr p2 (2 : Int32))), (.long (-9223372036854775808 : Int64))])) _
              refine XS.iand X0.here hx rfl (hb hby at_64) rfl ?_
              show Steps p.tables e below (s₁.setTop (mkF m 65 #[.val (.long q1), .second, .val (.int p2), .val (.int p3), .val (.int (p2 &&& (3 : Int32))), .val (.long ((p3 % (4 : Int32)).toInt64)), .second, .unset, .unset, .unset] [(.int ((Jvm.Free.XT.ushr p2 (2 : Int32)) &&& (3 : Int32))), (.long (-9223372036854775808 : Int64))])) _
              refine XS.i2l X0.here hx rfl (hb hby at_65) rfl ?_
              show Steps p.tables e below (s₁.setTop (mkF m 66 #[.val (.long q1), .second, .val (.int p2), .val (.int p3), .val (.int (p2 &&& (3 : Int32))), .val (.long ((p3 % (4 : Int32)).toInt64)), .second, .unset, .unset, .unset] [(.long (((Jvm.Free.XT.ushr p2 (2 : Int32)) &&& (3 : Int32)).toInt64)), (.long (-9223372036854775808 : Int64))])) _
              refine XS.ladd X0.here hx rfl (hb hby at_66) rfl ?_
              show Steps p.tables e below (s₁.setTop (mkF m 67 #[.val (.long q1), .second, .val (.int p2), .val (.int p3), .val (.int (p2 &&& (3 : Int32))), .val (.long ((p3 % (4 : Int32)).toInt64)), .second, .unset, .unset, .unset] [(.long ((-9223372036854775808 : Int64) + (((Jvm.Free.XT.ushr p2 (2 : Int32)) &&& (3 : Int32)).toInt64)))])) _
              refine XS.lstore X0.here hx rfl (hb hby at_67) rfl (l' := #[.val (.long q1), .second, .val (.int p2), .val (.int p3), .val (.int (p2 &&& (3 : Int32))), .val (.long ((p3 % (4 : Int32)).toInt64)), .second, .val (.long ((-9223372036854775808 : Int64) + (((Jvm.Free.XT.ushr p2 (2 : Int32)) &&& (3 : Int32)).toInt64))), .second, .unset]) rfl ?_
              show Steps p.tables e below (s₁.setTop (mkF m 69 #[.val (.long q1), .second, .val (.int p2), .val (.int p3), .val (.int (p2 &&& (3 : Int32))), .val (.long ((p3 % (4 : Int32)).toInt64)), .second, .val (.long ((-9223372036854775808 : Int64) + (((Jvm.Free.XT.ushr p2 (2 : Int32)) &&& (3 : Int32)).toInt64))), .second, .unset] [])) _
              refine XS.goto X0.here hx rfl (pc0 := 69) (pc' := 90) rfl (hb hby at_69) (by decide) (by decide) ?_
              show Steps p.tables e below (s₁.setTop (mkF m 90 #[.val (.long q1), .second, .val (.int p2), .val (.int p3), .val (.int (p2 &&& (3 : Int32))), .val (.long ((p3 % (4 : Int32)).toInt64)), .second, .val (.long ((-9223372036854775808 : Int64) + (((Jvm.Free.XT.ushr p2 (2 : Int32)) &&& (3 : Int32)).toInt64))), .second, .unset] [])) _
              exact k
            exact ⟨_, pre15⟩
        · skip
          have pre16 : Lead p e below (s₁.setTop (mkF m 90 #[.val (.long q1), .second, .val (.int p2), .val (.int p3), .val (.int (p2 &&& (3 : Int32))), .val (.long ((p3 % (4 : Int32)).toInt64)), .second, .val (.long q1), .second, .unset] [])) (s₁.setTop (entryFrame m #[(.long q1), (.int p2), (.int p3)] maxLocals)) := fun t k => by
            refine pre12 t ?_
            refine XS.icmpYes X0.here hx rfl (pc0 := 48) (pc' := 87) rfl (hb hby at_48) rfl (feq h3).2 (by decide) (by decide) ?_
            show Steps p.tables e below (s₁.setTop (mkF m 87 #[.val (.long q1), .second, .val (.int p2), .val (.int p3), .val (.int (p2 &&& (3 : Int32))), .val (.long ((p3 % (4 : Int32)).toInt64)), .second, .unset, .unset, .unset] [])) _
            refine XS.lloadN X0.here hx rfl (hb hby at_87) rfl ?_
            show Steps p.tables e below (s₁.setTop (mkF m 88 #[.val (.long q1), .second, .val (.int p2), .val (.int p3), .val (.int (p2 &&& (3 : Int32))), .val (.long ((p3 % (4 : Int32)).toInt64)), .second, .unset, .unset, .unset] [(.long q1)])) _
            refine XS.lstore X0.here hx rfl (hb hby at_88) rfl (l' := #[.val (.long q1), .second, .val (.int p2), .val (.int p3), .val (.int (p2 &&& (3 : Int32))), .val (.long ((p3 % (4 : Int32)).toInt64)), .second, .val (.long q1), .second, .unset]) rfl ?_
            show Steps p.tables e below (s₁.setTop (mkF m 90 #[.val (.long q1), .second, .val (.int p2), .val (.int p3), .val (.int (p2 &&& (3 : Int32))), .val (.long ((p3 % (4 : Int32)).toInt64)), .second, .val (.long q1), .second, .unset] [])) _
            exact k
          exact ⟨_, pre16⟩
  have preK : Lead p e below (s₁.setTop (mkF m 115 #[.val (.long q1), .second, .val (.int p2), .val (.int p3), .val (.int (p2 &&& (3 : Int32))), .val (.long ((p3 % (4 : Int32)).toInt64)), .second, .val (.long xx), .second, .val (.int (inR xx))] [])) (s₁.setTop (entryFrame m #[(.long q1), (.int p2), (.int p3)] maxLocals)) := by
    have pre17 : Lead p e below (s₁.setTop (mkF m 96 #[.val (.long q1), .second, .val (.int p2), .val (.int p3), .val (.int (p2 &&& (3 : Int32))), .val (.long ((p3 % (4 : Int32)).toInt64)), .second, .val (.long xx), .second, .unset] [(.int (lcmpW xx (-62167219200000 : Int64)))])) (s₁.setTop (entryFrame m #[(.long q1), (.int p2), (.int p3)] maxLocals)) := fun t k => by
      refine preJ t ?_
      refine XS.lload X0.here hx rfl (hb hby at_90) rfl ?_
      show Steps p.tables e below (s₁.setTop (mkF m 92 #[.val (.long q1), .second, .val (.int p2), .val (.int p3), .val (.int (p2 &&& (3 : Int32))), .val (.long ((p3 % (4 : Int32)).toInt64)), .second, .val (.long xx), .second, .unset] [(.long xx)])) _
      refine X0.ldc2Long hx hown (mvT hZ (hw _ (List.mem_of_getElem? (i := 1) rfl))) (g := (mkF m 92 #[.val (.long q1), .second, .val (.int p2), .val (.int p3), .val (.int (p2 &&& (3 : Int32))), .val (.long ((p3 % (4 : Int32)).toInt64)), .second, .val (.long xx), .second, .unset] [(.long xx)])) rfl (hb hby at_92) _ ?_
      show Steps p.tables e below (s₁.setTop (mkF m 95 #[.val (.long q1), .second, .val (.int p2), .val (.int p3), .val (.int (p2 &&& (3 : Int32))), .val (.long ((p3 % (4 : Int32)).toInt64)), .second, .val (.long xx), .second, .unset] [(.long (-62167219200000 : Int64)), (.long xx)])) _
      refine XS.lcmp X0.here hx rfl (hb hby at_95) rfl ?_
      show Steps p.tables e below (s₁.setTop (mkF m 96 #[.val (.long q1), .second, .val (.int p2), .val (.int p3), .val (.int (p2 &&& (3 : Int32))), .val (.long ((p3 % (4 : Int32)).toInt64)), .second, .val (.long xx), .second, .unset] [(.int (lcmpW xx (-62167219200000 : Int64)))])) _
      exact k
    by_cases h5 : xx < (-62167219200000 : Int64)
    · skip
      have hv : inR xx = (0 : Int32) := by rw [inR, if_pos h5]
      rw [hv]
      have pre18 : Lead p e below (s₁.setTop (mkF m 115 #[.val (.long q1), .second, .val (.int p2), .val (.int p3), .val (.int (p2 &&& (3 : Int32))), .val (.long ((p3 % (4 : Int32)).toInt64)), .second, .val (.long xx), .second, .val (.int (0 : Int32))] [])) (s₁.setTop (entryFrame m #[(.long q1), (.int p2), (.int p3)] maxLocals)) := fun t k => by
        refine pre17 t ?_
        refine XS.ifYes X0.here hx rfl (pc0 := 96) (pc' := 112) rfl (hb hby at_96) rfl ((if0 _ _).trans (tlt ((own_lcl _ _).mpr h5)).1) (by decide) (by decide) ?_
        show Steps p.tables e below (s₁.setTop (mkF m 112 #[.val (.long q1), .second, .val (.int p2), .val (.int p3), .val (.int (p2 &&& (3 : Int32))), .val (.long ((p3 % (4 : Int32)).toInt64)), .second, .val (.long xx), .second, .unset] [])) _
        refine XS.iconst X0.here hx rfl (hb hby at_112) ?_
        show Steps p.tables e below (s₁.setTop (mkF m 113 #[.val (.long q1), .second, .val (.int p2), .val (.int p3), .val (.int (p2 &&& (3 : Int32))), .val (.long ((p3 % (4 : Int32)).toInt64)), .second, .val (.long xx), .second, .unset] [(.int (0 : Int32))])) _
        refine XS.istore X0.here hx rfl (hb hby at_113) rfl (l' := #[.val (.long q1), .second, .val (.int p2), .val (.int p3), .val (.int (p2 &&& (3 : Int32))), .val (.long ((p3 % (4 : Int32)).toInt64)), .second, .val (.long xx), .second, .val (.int (0 : Int32))]) rfl ?_
        show Steps p.tables e below (s₁.setTop (mkF m 115 #[.val (.long q1), .second, .val (.int p2), .val (.int p3), .val (.int (p2 &&& (3 : Int32))), .val (.long ((p3 % (4 : Int32)).toInt64)), .second, .val (.long xx), .second, .val (.int (0 : Int32))] [])) _
        exact k
      exact pre18
    · skip
      have pre19 : Lead p e below (s₁.setTop (mkF m 105 #[.val (.long q1), .second, .val (.int p2), .val (.int p3), .val (.int (p2 &&& (3 : Int32))), .val (.long ((p3 % (4 : Int32)).toInt64)), .second, .val (.long xx), .second, .unset] [(.int (lcmpW xx (253402300799999 : Int64)))])) (s₁.setTop (entryFrame m #[(.long q1), (.int p2), (.int p3)] maxLocals)) := fun t k => by
        refine pre17 t ?_
        refine XS.ifNo X0.here hx rfl (hb hby at_96) rfl ((if0 _ _).trans (flt (fun q => h5 ((own_lcl _ _).mp q))).1) ?_
        show Steps p.tables e below (s₁.setTop (mkF m 99 #[.val (.long q1), .second, .val (.int p2), .val (.int p3), .val (.int (p2 &&& (3 : Int32))), .val (.long ((p3 % (4 : Int32)).toInt64)), .second, .val (.long xx), .second, .unset] [])) _
        refine XS.lload X0.here hx rfl (hb hby at_99) rfl ?_
        show Steps p.tables e below (s₁.setTop (mkF m 101 #[.val (.long q1), .second, .val (.int p2), .val (.int p3), .val (.int (p2 &&& (3 : Int32))), .val (.long ((p3 % (4 : Int32)).toInt64)), .second, .val (.long xx), .second, .unset] [(.long xx)])) _
        refine X0.ldc2Long hx hown (mvT hZ (hw _ (List.mem_of_getElem? (i := 0) rfl))) (g := (mkF m 101 #[.val (.long q1), .second, .val (.int p2), .val (.int p3), .val (.int (p2 &&& (3 : Int32))), .val (.long ((p3 % (4 : Int32)).toInt64)), .second, .val (.long xx), .second, .unset] [(.long xx)])) rfl (hb hby at_101) _ ?_
        show Steps p.tables e below (s₁.setTop (mkF m 104 #[.val (.long q1), .second, .val (.int p2), .val (.int p3), .val (.int (p2 &&& (3 : Int32))), .val (.long ((p3 % (4 : Int32)).toInt64)), .second, .val (.long xx), .second, .unset] [(.long (253402300799999 : Int64)), (.long xx)])) _
        refine XS.lcmp X0.here hx rfl (hb hby at_104) rfl ?_
        show Steps p.tables e below (s₁.setTop (mkF m 105 #[.val (.long q1), .second, .val (.int p2), .val (.int p3), .val (.int (p2 &&& (3 : Int32))), .val (.long ((p3 % (4 : Int32)).toInt64)), .second, .val (.long xx), .second, .unset] [(.int (lcmpW xx (253402300799999 : Int64)))])) _
        exact k
      by_cases h6 : (253402300799999 : Int64) < xx
      · skip
        have hv : inR xx = (0 : Int32) := by rw [inR, if_neg h5, if_pos h6]
        rw [hv]
        have pre20 : Lead p e below (s₁.setTop (mkF m 115 #[.val (.long q1), .second, .val (.int p2), .val (.int p3), .val (.int (p2 &&& (3 : Int32))), .val (.long ((p3 % (4 : Int32)).toInt64)), .second, .val (.long xx), .second, .val (.int (0 : Int32))] [])) (s₁.setTop (entryFrame m #[(.long q1), (.int p2), (.int p3)] maxLocals)) := fun t k => by
          refine pre19 t ?_
          refine XS.ifYes X0.here hx rfl (pc0 := 105) (pc' := 112) rfl (hb hby at_105) rfl ((if0 _ _).trans (tlt ((own_lcg _ _).mpr h6)).2.2.1) (by decide) (by decide) ?_
          show Steps p.tables e below (s₁.setTop (mkF m 112 #[.val (.long q1), .second, .val (.int p2), .val (.int p3), .val (.int (p2 &&& (3 : Int32))), .val (.long ((p3 % (4 : Int32)).toInt64)), .second, .val (.long xx), .second, .unset] [])) _
          refine XS.iconst X0.here hx rfl (hb hby at_112) ?_
          show Steps p.tables e below (s₁.setTop (mkF m 113 #[.val (.long q1), .second, .val (.int p2), .val (.int p3), .val (.int (p2 &&& (3 : Int32))), .val (.long ((p3 % (4 : Int32)).toInt64)), .second, .val (.long xx), .second, .unset] [(.int (0 : Int32))])) _
          refine XS.istore X0.here hx rfl (hb hby at_113) rfl (l' := #[.val (.long q1), .second, .val (.int p2), .val (.int p3), .val (.int (p2 &&& (3 : Int32))), .val (.long ((p3 % (4 : Int32)).toInt64)), .second, .val (.long xx), .second, .val (.int (0 : Int32))]) rfl ?_
          show Steps p.tables e below (s₁.setTop (mkF m 115 #[.val (.long q1), .second, .val (.int p2), .val (.int p3), .val (.int (p2 &&& (3 : Int32))), .val (.long ((p3 % (4 : Int32)).toInt64)), .second, .val (.long xx), .second, .val (.int (0 : Int32))] [])) _
          exact k
        exact pre20
      · skip
        have hv : inR xx = (1 : Int32) := by rw [inR, if_neg h5, if_neg h6]
        rw [hv]
        have pre21 : Lead p e below (s₁.setTop (mkF m 115 #[.val (.long q1), .second, .val (.int p2), .val (.int p3), .val (.int (p2 &&& (3 : Int32))), .val (.long ((p3 % (4 : Int32)).toInt64)), .second, .val (.long xx), .second, .val (.int (1 : Int32))] [])) (s₁.setTop (entryFrame m #[(.long q1), (.int p2), (.int p3)] maxLocals)) := fun t k => by
          refine pre19 t ?_
          refine XS.ifNo X0.here hx rfl (hb hby at_105) rfl ((if0 _ _).trans (flt (fun q => h6 ((own_lcg _ _).mp q))).2.2.1) ?_
          show Steps p.tables e below (s₁.setTop (mkF m 108 #[.val (.long q1), .second, .val (.int p2), .val (.int p3), .val (.int (p2 &&& (3 : Int32))), .val (.long ((p3 % (4 : Int32)).toInt64)), .second, .val (.long xx), .second, .unset] [])) _
          refine XS.iconst X0.here hx rfl (hb hby at_108) ?_
          show Steps p.tables e below (s₁.setTop (mkF m 109 #[.val (.long q1), .second, .val (.int p2), .val (.int p3), .val (.int (p2 &&& (3 : Int32))), .val (.long ((p3 % (4 : Int32)).toInt64)), .second, .val (.long xx), .second, .unset] [(.int (1 : Int32))])) _
          refine XS.goto X0.here hx rfl (pc0 := 109) (pc' := 113) rfl (hb hby at_109) (by decide) (by decide) ?_
          show Steps p.tables e below (s₁.setTop (mkF m 113 #[.val (.long q1), .second, .val (.int p2), .val (.int p3), .val (.int (p2 &&& (3 : Int32))), .val (.long ((p3 % (4 : Int32)).toInt64)), .second, .val (.long xx), .second, .unset] [(.int (1 : Int32))])) _
          refine XS.istore X0.here hx rfl (hb hby at_113) rfl (l' := #[.val (.long q1), .second, .val (.int p2), .val (.int p3), .val (.int (p2 &&& (3 : Int32))), .val (.long ((p3 % (4 : Int32)).toInt64)), .second, .val (.long xx), .second, .val (.int (1 : Int32))]) rfl ?_
          show Steps p.tables e below (s₁.setTop (mkF m 115 #[.val (.long q1), .second, .val (.int p2), .val (.int p3), .val (.int (p2 &&& (3 : Int32))), .val (.long ((p3 % (4 : Int32)).toInt64)), .second, .val (.long xx), .second, .val (.int (1 : Int32))] [])) _
          exact k
        exact pre21
  obtain ⟨_, _, ⟨T22, L22, k22, n22⟩, -, X22, ⟨Lc22, hQ22, l22, y22, z22⟩, st22⟩ := Jvm.LawKit.callS X0 hx (y := (⟨"com/example/anabranch/anabranch/core/Times", "inRange", "(J)Z"⟩ : MethodName)) hown (mvT hZ (hw _ (List.mem_of_getElem? (i := 2) rfl))) (mvT hZ (hw _ (List.mem_of_getElem? (i := 3) rfl))) (mvT hZ (hw _ (List.mem_of_getElem? (i := 4) rfl))) (mvT hZ (hw _ (List.mem_of_getElem? (i := 5) rfl))) (by decide) (backOf (W := 0) (rm1 l Z a0 hw [] xx h0 n0 Z0 S1 S2) hZ (hw _ (List.mem_of_getElem? (i := 5) rfl)) (hw _ (List.mem_of_getElem? (i := 4) rfl)) (by decide) (by decide)) (g := (mkF m 117 #[.val (.long q1), .second, .val (.int p2), .val (.int p3), .val (.int (p2 &&& (3 : Int32))), .val (.long ((p3 % (4 : Int32)).toInt64)), .second, .val (.long xx), .second, .val (.int (inR xx))] [(.long xx)])) rfl (by rw [hml]; rfl) (argsL := [(.long xx)]) (rest := []) (lenOf pd_1 rfl) rfl (by show 2 * 0 + _ ≤ _; exact Nat.le_of_eq rfl) (hb hby at_117) (fun _ _ => ⟨rfl, e0, (by decide : 0 + 0 ≤ _), (by decide : 0 + 0 ≤ _)⟩)
  dsimp only [Pt.U, Pt.locs, Pt.cells, Pt.slots] at X22 l22 y22 z22 st22 hQ22
  subst l22 y22 z22
  obtain ⟨rfl, N22q, e22⟩ := hQ22
  have N22 := Fr.app N0 N22q
  have pre23 : Lead p e below (T22.setTop (mkF m 130 #[.val (.long q1), .second, .val (.int p2), .val (.int p3), .val (.int (p2 &&& (3 : Int32))), .val (.long ((p3 % (4 : Int32)).toInt64)), .second, .val (.long xx), .second, .val (.int (inR xx))] [(.int (1 : Int32))])) (s₁.setTop (entryFrame m #[(.long q1), (.int p2), (.int p3)] maxLocals)) := fun t k => by
    refine preK t ?_
    refine XS.lload X0.here hx rfl (hb hby at_115) rfl ?_
    show Steps p.tables e below (s₁.setTop (mkF m 117 #[.val (.long q1), .second, .val (.int p2), .val (.int p3), .val (.int (p2 &&& (3 : Int32))), .val (.long ((p3 % (4 : Int32)).toInt64)), .second, .val (.long xx), .second, .val (.int (inR xx))] [(.long xx)])) _
    refine st22 _ ?_
    show Steps p.tables e below (T22.setTop (mkF m 120 #[.val (.long q1), .second, .val (.int p2), .val (.int p3), .val (.int (p2 &&& (3 : Int32))), .val (.long ((p3 % (4 : Int32)).toInt64)), .second, .val (.long xx), .second, .val (.int (inR xx))] [(.int (inR xx))])) _
    refine XS.iload X22.here hx rfl (hb hby at_120) rfl ?_
    show Steps p.tables e below (T22.setTop (mkF m 122 #[.val (.long q1), .second, .val (.int p2), .val (.int p3), .val (.int (p2 &&& (3 : Int32))), .val (.long ((p3 % (4 : Int32)).toInt64)), .second, .val (.long xx), .second, .val (.int (inR xx))] [(.int (inR xx)), (.int (inR xx))])) _
    refine XS.icmpNo X22.here hx rfl (hb hby at_122) rfl (teq (rfl : inR xx = inR xx)).2 ?_
    show Steps p.tables e below (T22.setTop (mkF m 125 #[.val (.long q1), .second, .val (.int p2), .val (.int p3), .val (.int (p2 &&& (3 : Int32))), .val (.long ((p3 % (4 : Int32)).toInt64)), .second, .val (.long xx), .second, .val (.int (inR xx))] [])) _
    refine XS.iconst X22.here hx rfl (hb hby at_125) ?_
    show Steps p.tables e below (T22.setTop (mkF m 126 #[.val (.long q1), .second, .val (.int p2), .val (.int p3), .val (.int (p2 &&& (3 : Int32))), .val (.long ((p3 % (4 : Int32)).toInt64)), .second, .val (.long xx), .second, .val (.int (inR xx))] [(.int (1 : Int32))])) _
    refine XS.goto X22.here hx rfl (pc0 := 126) (pc' := 130) rfl (hb hby at_126) (by decide) (by decide) ?_
    show Steps p.tables e below (T22.setTop (mkF m 130 #[.val (.long q1), .second, .val (.int p2), .val (.int p3), .val (.int (p2 &&& (3 : Int32))), .val (.long ((p3 % (4 : Int32)).toInt64)), .second, .val (.long xx), .second, .val (.int (inR xx))] [(.int (1 : Int32))])) _
    exact k
  obtain ⟨fs, hr, hrun, hended, hW, hsame⟩ := X22.leave (v := some (.int (1 : Int32))) (fun h => by rw [Bd.returns] at h; cases h)
  refine ⟨_, _, pre23 _ ?_, hrun, hended, _, _, rfl, ?_, ⟨_, rfl⟩, hW, hsame.mono (by decide) (by decide)⟩
  · exact retN X22 hx (t := .boolean) Bd.returns (by simp) (hb hby at_130) hr
  · show Q0 Z q1 p2 p3 h0 n0 _ T22.heap _
    rw [e22]
    exact ⟨rfl, N22⟩
set_option maxRecDepth 65536 in
set_option maxHeartbeats 40000000 in
theorem comes_1 {Post : Tables → Env → Array Value → State → Outcome → State → Prop} (hpost : ∀ tb e args s v u, (limb_1_1.after args s (.returned v) u = true ∧ limb_1_2.after args s (.returned v) u = true ∧ True) → FrameEnd s (.returned v) u (Jvm.fieldLocs frame_1_writes args s ++ Jvm.arrayLocs frame_1_arrays args s ++ Jvm.staticLocs frame_1_statics s) 0 0 → Post tb e args s (.returned v) u) :
    ArmFor flags0 classFile x code maxLocals ret World_1 tables_1 room_1 Calls_1 rest_1 Pre_1 Post := by
  intro l hfl _ _ p e ha hc hk s m args below hf hA hF happ hP
  obtain ⟨hcalls, hrest, hpre⟩ := hP
  obtain ⟨-, -, -, hnamed, -, -, -, hat⟩ := (Spec.applies_iff hf).mp happ
  obtain ⟨hg, hn⟩ := and_e (Cond.before_iff.mp (show (Jvm.Cond.and given_1 narrow_1).before args s = true from hpre))
  obtain ⟨hcount, g2⟩ := and_e hg
  obtain ⟨g3, g4⟩ := and_e g2
  obtain ⟨g5, g6⟩ := and_e g4
  obtain ⟨n1, n2⟩ := and_e hn
  obtain ⟨w0, w1, w2, rfl⟩ : ∃ w0 w1 w2 : Value, args = #[w0, w1, w2] := by
    have hs : args.size = 3 := by simpa [Cond.value, given_1] using hcount
    obtain ⟨L⟩ := args
    match L, hs with
    | [w0, w1, w2], _ => exact ⟨w0, w1, w2, rfl⟩
  have hw := fun d (hd : d ∈ tables_1) => atoms_spec (ws := Jvm.Cond.code x code maxLocals ret :: tables_1) hat d (List.mem_cons_of_mem _ hd)
  have hfit : Fit s := fun {y c} hc i hi => by
    obtain ⟨ha, rfl⟩ := Array.getElem?_eq_some_iff.mp hc
    have q := List.all_eq_true.mp ((Array.all_eq_true_iff_forall_mem.mp hF) _ (Array.getElem_mem ha)) i (List.mem_range.mpr hi)
    simpa [Array.getElem?_eq_getElem hi] using q
  obtain ⟨i0, ei0⟩ := isL_v g3
  obtain rfl : w0 = (.long i0) := Option.some.inj ei0
  obtain ⟨i1, ei1⟩ := is_v g5
  obtain rfl : w1 = (.int i1) := Option.some.inj ei1
  obtain ⟨i2, ei2⟩ := is_v g6
  obtain rfl : w2 = (.int i2) := Option.some.inj ei2
  have S1 := Sta.start (eqv_l (F := Term.long (-62167219200000 : Int64)) (y := (-62167219200000 : Int64)) rfl n1) (Or.inr ⟨(hw _ (List.mem_of_getElem? (i := 4) rfl)), (hw _ (List.mem_of_getElem? (i := 7) rfl))⟩)
  have S2 := Sta.start (eqv_l (F := Term.long (253402300799999 : Int64)) (y := (253402300799999 : Int64)) rfl n2) (Or.inr ⟨(hw _ (List.mem_of_getElem? (i := 4) rfl)), (hw _ (List.mem_of_getElem? (i := 9) rfl))⟩)
  obtain ⟨n, o, h1, h2, h3, _, L, rfl, ⟨rfl, N⟩, hq⟩ := rm0 l s _ hw tables_1 i0 i1 i2 s.heap s.heap.size (Nat.le_refl _) S1 S2 p e ha hc hk s m _ below hf ((Spec.applies_iff_loose hf).mp happ).1 ⟨rfl, State.Warmed39.refl s, rfl⟩ trivial
  refine ⟨n, _, h1, h2, h3, hpost _ _ _ _ _ _ ⟨Cond.after_iff.mpr rfl, Cond.after_iff.mpr (eq_i res_at (Term.int_eval (1)) rfl), trivial⟩ ⟨hq.1, hq.2.1, (hq.2.2.sift fun y hy => Or.inr (N y hy)).mono (by decide) (by decide)⟩⟩
theorem main_1_1 : Claimed_1_1 := comes_1 fun _ _ _ _ _ _ h hF => ⟨h.1, hF⟩
theorem main_1_2 : Claimed_1_2 := comes_1 fun _ _ _ _ _ _ h hF => ⟨h.2.1, hF⟩

end Jvm.Pilot.@@N@@
namespace Jvm.Pilot.@@N@@
open Jvm Jvm.ClassFile Sem Op Lib Jvm.Free Jvm.Stand Jvm.Pilot.@@N@@.Jvm.D
/-! MADE BY PROGRAM (witnessworld.py) out of the Statement's table words and the real class files: 9 classes; the members and pool entries that the words name. The judged class is class 1, her method 1. -/
namespace start1
open Jvm.ClassFile
def u (s : String) : CpInfo := .utf8 (stringToUtf16 s)
/-- a pool by its gaps: so many unusable entries, then the entry; so many at the end -/
def gap : Nat → List CpInfo → List CpInfo
  | 0, r => r
  | n + 1, r => .unusable :: gap n r
def poolList (es : List (Nat × CpInfo)) (last : Nat) : List CpInfo := es.foldr (fun e r => gap e.1 (e.2 :: r)) (gap last [])
def pool (es : List (Nat × CpInfo)) (last : Nat) : Array CpInfo := ⟨poolList es last⟩
def fileOf (pool : Array CpInfo) (this : Nat) (attrs : Array Attribute := #[]) (ms : Array MethodInfo := #[]) (fl : Nat := 33) (sup : Nat := 0) (ifs : Array Nat := #[]) (fds : Array FieldInfo := #[]) : ClassFile where
  minorVersion := 0
  majorVersion := 65
  constantPool := pool
  accessFlags := fl
  thisClass := this
  superClass := sup
  interfaces := ifs
  fields := fds
  methods := ms
  attributes := attrs
def plain (name : String) (sup : Option ClassId) : Class where
  name := name
  kind := .ordinary
  loader := none
  accessFlags := 33
  super := sup
  interfaces := #[]
  cf := none
  fields := #[]
  methods := #[]
  instanceTypes := #[]
  staticTypes := #[]
  resolved := #[]
  callSites := []
  init := .initialized
  statics := none
  mirror := none

def pool0 : Array CpInfo := pool [(5, u "<init>"), (0, u "()V"), (1, .class_ 10), (1, u "java/lang/Object")] 113

def k0m0 : Method := { name := "<init>", desc := "()V", sig := { parameters := [], returnType := none }, accessFlags := 1, code := none }
/-- java/lang/Object -/
def k0 : Class := { plain "java/lang/Object" none with
  accessFlags := 33
  interfaces := #[]
  cf := some (fileOf pool0 8 #[] #[{ accessFlags := 1, nameIndex := 5, descriptorIndex := 6, attributes := #[] }] 33 0 #[] #[])
  fields := #[]
  methods := #[k0m0]
  instanceTypes := #[]
  staticTypes := #[]
  resolved := Array.replicate 124 none
  statics := none }

def pool1 : Array CpInfo := pool [(2, .class_ 4), (1, u "java/lang/Object"), (0, u "<init>"), (0, u "()V"), (0, .class_ 8), (0, u "com/example/anabranch/anabranch/core/TimesInRangePinLaw"), (0, .long 18446681906490351616), (1, .long 253402300799999), (3, .long 9223372036854775808), (1, .long 9223372036854775807), (1, .methodref 20 21), (0, .class_ 22), (0, .nameAndType 23 24), (0, u "com/example/anabranch/anabranch/core/Times"), (0, u "inRange"), (0, u "(J)Z"), (0, u "FIRST"), (0, u "J"), (1, u "LAST"), (2, u "law"), (0, u "(JII)Z")] 3

def k1m0 : Method := { name := "<init>", desc := "()V", sig := { parameters := [], returnType := none }, accessFlags := 1, code := none }
def k1c1 : Code := { maxStack := 4, maxLocals := 10, code := code, exceptionTable := #[], attributes := #[] }
def k1m1 : Method := { name := "law", desc := "(JII)Z", sig := { parameters := [.long, .int, .int], returnType := some .boolean }, accessFlags := 9, code := some k1c1 }
/-- com/example/anabranch/anabranch/core/TimesInRangePinLaw -/
def k1 : Class := { plain "com/example/anabranch/anabranch/core/TimesInRangePinLaw" (some 0) with
  accessFlags := 49
  interfaces := #[]
  cf := some (fileOf pool1 7 #[] #[{ accessFlags := 1, nameIndex := 5, descriptorIndex := 6, attributes := #[] }, { accessFlags := 9, nameIndex := 31, descriptorIndex := 32, attributes := #[] }] 49 2 #[] #[{ accessFlags := 26, nameIndex := 25, descriptorIndex := 26, attributes := #[] }, { accessFlags := 26, nameIndex := 28, descriptorIndex := 26, attributes := #[] }])
  fields := #[{ name := "FIRST", type := .long, accessFlags := 26, slot := 0, constantValue := 0 }, { name := "LAST", type := .long, accessFlags := 26, slot := 1, constantValue := 0 }]
  methods := #[k1m0, k1m1]
  instanceTypes := #[]
  staticTypes := #[.long, .long]
  resolved := Array.replicate 36 none
  statics := none }

def pool2 : Array CpInfo := pool [(2, .class_ 4), (1, u "java/lang/Object"), (0, u "<init>"), (0, u "()V"), (11, .class_ 20), (1, u "com/example/anabranch/anabranch/core/Times"), (0, u "UTC_WITHOUT_ZONE"), (0, u "Ljava/time/format/DateTimeFormatter;"), (50, .fieldref 18 74), (0, .nameAndType 75 76), (0, u "EARLIEST"), (0, u "J"), (8, .fieldref 18 86), (0, .nameAndType 87 76), (0, u "LATEST"), (35, u "inRange"), (0, u "(J)Z")] 22

def k2m0 : Method := { name := "<init>", desc := "()V", sig := { parameters := [], returnType := none }, accessFlags := 2, code := none }
def k2c1 : Code := { maxStack := 4, maxLocals := 2, code := prog_18_method_3_code, exceptionTable := #[], attributes := #[] }
def k2m1 : Method := { name := "inRange", desc := "(J)Z", sig := { parameters := [.long], returnType := some .boolean }, accessFlags := 9, code := some k2c1 }
/-- com/example/anabranch/anabranch/core/Times -/
def k2 : Class := { plain "com/example/anabranch/anabranch/core/Times" (some 0) with
  accessFlags := 49
  interfaces := #[]
  cf := some (fileOf pool2 18 #[] #[{ accessFlags := 2, nameIndex := 5, descriptorIndex := 6, attributes := #[] }, { accessFlags := 9, nameIndex := 123, descriptorIndex := 124, attributes := #[] }] 49 2 #[] #[{ accessFlags := 26, nameIndex := 21, descriptorIndex := 22, attributes := #[] }, { accessFlags := 26, nameIndex := 75, descriptorIndex := 76, attributes := #[] }, { accessFlags := 24, nameIndex := 87, descriptorIndex := 76, attributes := #[] }])
  fields := #[{ name := "UTC_WITHOUT_ZONE", type := (.object "java/time/format/DateTimeFormatter"), accessFlags := 26, slot := 0, constantValue := 0 }, { name := "EARLIEST", type := .long, accessFlags := 26, slot := 1, constantValue := 0 }, { name := "LATEST", type := .long, accessFlags := 24, slot := 2, constantValue := 0 }]
  methods := #[k2m0, k2m1]
  instanceTypes := #[]
  staticTypes := #[(.object "java/time/format/DateTimeFormatter"), .long, .long]
  resolved := Array.replicate 147 none
  statics := some 0 }

def pool3 : Array CpInfo := pool [(1, u "java/lang/Cloneable"), (0, .class_ 1), (0, u "java/lang/Object"), (0, .class_ 3)] 3

/-- java/lang/Cloneable -/
def k3 : Class := { plain "java/lang/Cloneable" (some 0) with
  accessFlags := 1537
  interfaces := #[]
  cf := some (fileOf pool3 2 #[] #[] 1537 4 #[] #[])
  fields := #[]
  methods := #[]
  instanceTypes := #[]
  staticTypes := #[]
  resolved := Array.replicate 8 none
  statics := none }

def pool4 : Array CpInfo := pool [(1, u "java/io/Serializable"), (0, .class_ 1), (0, u "java/lang/Object"), (0, .class_ 3)] 3

/-- java/io/Serializable -/
def k4 : Class := { plain "java/io/Serializable" (some 0) with
  accessFlags := 1537
  interfaces := #[]
  cf := some (fileOf pool4 2 #[] #[] 1537 4 #[] #[])
  fields := #[]
  methods := #[]
  instanceTypes := #[]
  staticTypes := #[]
  resolved := Array.replicate 8 none
  statics := none }

/-- the primitive byte -/
def k5 : Class := { plain "byte" none with kind := .primitive 'B', accessFlags := 0x411 }
/-- [B -/
def k6 : Class := { plain "[B" (some 0) with kind := .array 5 .byte, interfaces := #[3, 4], accessFlags := 1041 }

/-- the primitive int -/
def k7 : Class := { plain "int" none with kind := .primitive 'I', accessFlags := 0x411 }
/-- [I -/
def k8 : Class := { plain "[I" (some 0) with kind := .array 7 .int, interfaces := #[3, 4], accessFlags := 1041 }

def heap : Heap := #[{ cls := 2, slots := #[.null, .long (-62167219200000), .long 253402300799999], vm := .statics 2 }]
def classes : Array Class := #[k0, k1, k2, k3, k4, k5, k6, k7, k8]
def interned : List (Array UInt16 × Addr) := []
def slotsUsed : Nat := 3
def theMethod : MethodId := ⟨1, 1⟩
def args0 : Array Value := #[.long 5, .int 300, .int 7]
def aboutOver (below : List Frame) : State where
  vm := { classes := classes, interned := interned.toArray }
  heap := heap
  slotsUsed := slotsUsed
  threads := #[{ frames := .invoking theMethod args0 :: below }]
def below0 : List Frame := [.native { method := ⟨0, 0⟩, args := #[] }]
def about1 : State := aboutOver below0
def p0 : Program := .bare "" "" ""
def e0 : Env := launch0.env 0 0 0
theorem w_frames : about1.frames = Frame.invoking theMethod args0 :: below0 := rfl
set_option maxRecDepth 65536 in
theorem w_args : argsFit about1.vm theMethod args0 = true := by decide +kernel
set_option maxRecDepth 65536 in
theorem w_heap : heapFits about1 = true := by decide +kernel
set_option maxRecDepth 65536 in
theorem w_runnable : about1.curStatus? = some .runnable := by decide +kernel
set_option maxRecDepth 65536 in
theorem w_alone : about1.alone = true := by decide +kernel
set_option maxRecDepth 65536 in
theorem w_named : about1.methodNamed? x = some theMethod := by decide +kernel
set_option maxRecDepth 65536 in
theorem w_hears : about1.hears theMethod below0 = true := by decide +kernel
set_option maxRecDepth 65536 in
theorem w_ripe : about1.ripe theMethod args0 below0 = true := by decide +kernel
theorem w_running : about1.status = .running := rfl
set_option maxRecDepth 65536 in
theorem w_room : about1.hasRoom e0.platform room_1 = true :=
  launch0.hasRoom_least _ room_1 (by decide +kernel) (by decide +kernel) (by decide +kernel) (by decide +kernel) (by decide +kernel) (by decide +kernel)
theorem allAtoms_all (ts : List Jvm.Cond) (a : Array Jvm.Value) (st : Jvm.State) : (allAtoms ts).before a st = ts.all (fun c => c.before a st) := by
  induction ts with
  | nil => rfl
  | cons c t ih =>
    show (Jvm.Cond.and c (allAtoms t)).before a st = _
    rw [Jvm.Cond.before_and, ih, List.all_cons]
def words1 : List Jvm.Cond := Jvm.Cond.code x code maxLocals ret :: tables_1
/-- a 'code' word, met by the world's own term for the bytes: nothing is compared byte by byte -/
theorem code_word {y : MethodName} {bytes : ByteArray} {mx : Nat} {rt : Option FieldType} {a : Array Value} {s : State} {m : MethodId} {meth : Method} {c : Code} (h1 : s.methodNamed? y = some m) (h2 : s.vm.method? m = some meth) (h3 : meth.code = some c) (h4 : c.code = bytes)
    (h5 : (c.maxLocals == mx && c.exceptionTable.isEmpty && decide (c.maxStack ≤ mostOperands) && decide (meth.sig.returnType = rt) && !meth.locks && decide (parseMethodDescriptor y.desc = some meth.sig)) = true) : (Jvm.Cond.code y bytes mx rt).before a s = true := by
  simp only [Bool.and_eq_true, beq_iff_eq, Bool.not_eq_true', decide_eq_true_eq] at h5
  obtain ⟨⟨⟨⟨⟨g1, g2⟩, g3⟩, g4⟩, g5⟩, g6⟩ := h5
  simp [Cond.before, Cond.holds, Cond.value, h1, h2, h3, h4, g1, g2, g3, g4, g5, g6]
def isCode : Jvm.Cond → Bool
  | .code _ _ _ _ => true
  | _ => false
theorem all_split {L : List Jvm.Cond} {P : Jvm.Cond → Bool} (h1 : L.all (fun c => isCode c || P c) = true) (h2 : ∀ c ∈ L.filter isCode, P c = true) : L.all P = true := by
  refine List.all_eq_true.mpr fun c hc => ?_
  have h := List.all_eq_true.mp h1 c hc
  rcases Bool.eq_false_or_eq_true (isCode c) with hi | hi
  · exact h2 c (List.mem_filter.mpr ⟨hc, hi⟩)
  · simpa [hi] using h
set_option maxRecDepth 65536 in
theorem w_c0 : (Jvm.Cond.code x code maxLocals ret).before args0 about1 = true := code_word (m := ⟨1, 1⟩) (meth := k1m1) (c := k1c1) (by decide +kernel) rfl rfl rfl (by decide +kernel)
set_option maxRecDepth 65536 in
theorem w_c1 : (Jvm.Cond.code ({ cls := "com/example/anabranch/anabranch/core/Times", name := "inRange", desc := "(J)Z" } : Jvm.MethodName) prog_18_method_3_code (2 : Nat) (Option.some Jvm.ClassFile.FieldType.boolean)).before args0 about1 = true := code_word (m := ⟨2, 1⟩) (meth := k2m1) (c := k2c1) (by decide +kernel) rfl rfl rfl (by decide +kernel)
def codes1 : List Jvm.Cond := [Jvm.Cond.code x code maxLocals ret, Jvm.Cond.code ({ cls := "com/example/anabranch/anabranch/core/Times", name := "inRange", desc := "(J)Z" } : Jvm.MethodName) prog_18_method_3_code (2 : Nat) (Option.some Jvm.ClassFile.FieldType.boolean)]
set_option maxRecDepth 65536 in
theorem codes_eq : words1.filter isCode = codes1 := rfl
theorem w_codes : ∀ c ∈ words1.filter isCode, c.before args0 about1 = true := by
  rw [codes_eq]
  intro c hc
  simp only [codes1, List.mem_cons, List.not_mem_nil, or_false] at hc
  rcases hc with rfl | rfl
  · exact w_c0
  · exact w_c1
set_option maxRecDepth 65536 in
theorem w_t1 : words1.all (fun c => isCode c || c.before args0 about1) = true := by decide +kernel
theorem w_tables : (allAtoms (Jvm.Cond.code x code maxLocals ret :: tables_1)).before args0 about1 = true := by
  rw [allAtoms_all]
  show words1.all (fun c => c.before args0 about1) = true
  refine all_split ?_ w_codes
  rw [w_t1]
set_option maxRecDepth 65536 in
theorem w_case : (Jvm.Cond.and given_1 narrow_1).before args0 about1 = true := by decide +kernel
theorem w_applies : (headSpec (Jvm.Cond.code x code maxLocals ret :: tables_1) room_1).applies x e0.platform about1 = true :=
  (Spec.applies_iff w_frames).mpr ⟨w_running, w_runnable, w_alone, w_named, w_hears, w_ripe, w_room, w_tables⟩
theorem atStart : AtStart classFile x code maxLocals ret World_1 tables_1 room_1 Calls_1 rest_1 Pre_1 launch0 p0 e0 about1 theMethod args0 below0 :=
  ⟨lists_1, trivial, launch0.admits_env _ _ _, launch0.least_env, fairChoices_fair.cas, fairChoices_fair.clock, w_frames, w_args, w_heap, w_applies, trivial, trivial, w_case⟩
end start1
theorem witness_1 : WitnessClaimed_1 := ⟨start1.p0, start1.e0, start1.about1, start1.theMethod, start1.args0, start1.below0, start1.atStart⟩
end Jvm.Pilot.@@N@@
