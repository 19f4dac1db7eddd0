import JvmDerived
import JvmDerived.Pilot.@@N@@Statement
import JvmDerived.Pilot.@@N@@Code
set_option linter.unusedVariables false
set_option linter.unusedSimpArgs false
namespace Jvm.Pilot.@@N@@
open Jvm Jvm.ClassFile Sem Op Lib Jvm.Free Jvm.Stand Jvm.LawKit Jvm.RoadKit Bundle Jvm.Pilot.@@N@@.Jvm.D
/-- from A the run comes to wherever it comes from B -/
def Lead (p : Program) (e : Env) (below : List Frame) (A B : State) : Prop := ∀ t, Steps p.tables e below A t → Steps p.tables e below B t
theorem own_lcl (x y : Int64) : lcmpW x y < 0 ↔ x < y := by rw [lcW]; exact lc_lt x y
theorem own_lcg (x y : Int64) : 0 < lcmpW x y ↔ y < x := by rw [lcW]; exact lc_gt x y
theorem own_lce (x y : Int64) : lcmpW x y = 0 ↔ x = y := by rw [lcW]; exact lc_eq x y
theorem pn_0 : plainName "com/example/wharfline/wharfline/woocommerce/DirectionIsAfterPinLaw" = true := by first | (simp [plainName, overriddenIn]; done) | decide +kernel
theorem pd_0 : parseMethodDescriptor "(JJJI)Z" = some ⟨[.long, .long, .long, .int], some .boolean⟩ := by decide +kernel
theorem d1_0 : decode prog_102_method_5_code 0 = .ok (.aload_n 0, 1) := by decide +kernel
theorem d1_1 : decode prog_102_method_5_code 1 = .ok (.getstatic 3, 3) := by decide +kernel
theorem d1_4 : decode prog_102_method_5_code 4 = .ok (.if_acmp .ne 17, 3) := by decide +kernel
theorem d1_7 : decode prog_102_method_5_code 7 = .ok (.lload_n 1, 1) := by decide +kernel
theorem d1_8 : decode prog_102_method_5_code 8 = .ok (.lload_n 3, 1) := by decide +kernel
theorem d1_9 : decode prog_102_method_5_code 9 = .ok (.lcmp, 1) := by decide +kernel
theorem d1_10 : decode prog_102_method_5_code 10 = .ok (.ifCond .le 7, 3) := by decide +kernel
theorem d1_13 : decode prog_102_method_5_code 13 = .ok (.iconst 1, 1) := by decide +kernel
theorem d1_14 : decode prog_102_method_5_code 14 = .ok (.goto 18, 3) := by decide +kernel
theorem d1_17 : decode prog_102_method_5_code 17 = .ok (.iconst 0, 1) := by decide +kernel
theorem d1_18 : decode prog_102_method_5_code 18 = .ok (.goto 14, 3) := by decide +kernel
theorem d1_21 : decode prog_102_method_5_code 21 = .ok (.lload_n 1, 1) := by decide +kernel
theorem d1_22 : decode prog_102_method_5_code 22 = .ok (.lload_n 3, 1) := by decide +kernel
theorem d1_23 : decode prog_102_method_5_code 23 = .ok (.lcmp, 1) := by decide +kernel
theorem d1_24 : decode prog_102_method_5_code 24 = .ok (.ifCond .ge 7, 3) := by decide +kernel
theorem d1_27 : decode prog_102_method_5_code 27 = .ok (.iconst 1, 1) := by decide +kernel
theorem d1_28 : decode prog_102_method_5_code 28 = .ok (.goto 4, 3) := by decide +kernel
theorem d1_31 : decode prog_102_method_5_code 31 = .ok (.iconst 0, 1) := by decide +kernel
theorem d1_32 : decode prog_102_method_5_code 32 = .ok (.ireturn, 1) := by decide +kernel
theorem pn_1 : plainName "com/example/wharfline/wharfline/woocommerce/ListWalk$Direction" = true := by first | (simp [plainName, overriddenIn]; done) | decide +kernel
theorem pd_1 : parseMethodDescriptor "(JJ)Z" = some ⟨[.long, .long], some .boolean⟩ := by decide +kernel

def aft (d asc : Addr) (x y : Int64) : Int32 := if d = asc then (if y < x then 1 else 0) else (if x < y then 1 else 0)
theorem own_aft_eq {d asc : Addr} {x y : Int64} (h : x = y) : aft d asc x y = 0 := by
  subst h; unfold aft; split <;> simp
theorem own_aft_ne {d asc : Addr} {x y : Int64} (h : ¬ x = y) : ¬ aft d asc x y = aft d asc y x := by
  unfold aft
  rw [← Int64.toInt_inj] at h
  simp only [Int64.lt_iff_toInt_lt]
  by_cases q : d = asc <;> by_cases h1 : x.toInt < y.toInt
  · have h2 : ¬ y.toInt < x.toInt := by omega
    simp [q, h1, h2]
  · have h2 : y.toInt < x.toInt := by omega
    simp [q, h1, h2]
  · have h2 : ¬ y.toInt < x.toInt := by omega
    simp [q, h1, h2]
  · have h2 : y.toInt < x.toInt := by omega
    simp [q, h1, h2]
theorem own_conv {dsc asc : Addr} {x y : Int64} (h : dsc ≠ asc) : aft dsc asc x y = aft asc asc y x := by
  unfold aft; rw [if_neg h, if_pos rfl]
theorem own_asc1 {asc : Addr} {x y : Int64} (h : y < x) : aft asc asc x y = 1 := by
  unfold aft; rw [if_pos rfl, if_pos h]
theorem own_asc0 {asc : Addr} {x y : Int64} (h : ¬ y < x) : aft asc asc x y = 0 := by
  unfold aft; rw [if_pos rfl, if_neg h]
theorem own_trans {d asc : Addr} {x y z : Int64} (h1 : ¬ aft d asc x y = 0) (h2 : ¬ aft d asc y z = 0) : ¬ aft d asc x z = 0 := by
  unfold aft at *
  simp only [Int64.lt_iff_toInt_lt] at *
  by_cases q : d = asc
  · simp [q] at *
    omega
  · simp [q] at *
    omega
theorem own_min {asc : Addr} {x : Int64} : aft asc asc (-9223372036854775808 : Int64) x = 0 := by
  refine own_asc0 ?_
  rw [Int64.lt_iff_toInt_lt]
  have h := Int64.le_toInt x
  have : (-9223372036854775808 : Int64).toInt = -9223372036854775808 := by decide
  omega
theorem own_max {dsc asc : Addr} {x : Int64} (h : dsc ≠ asc) : aft dsc asc (9223372036854775807 : Int64) x = 0 := by
  rw [own_conv h]
  refine own_asc0 ?_
  rw [Int64.lt_iff_toInt_lt]
  have h := Int64.toInt_lt x
  have : (9223372036854775807 : Int64).toInt = 9223372036854775807 := by decide
  omega
def Q1 (Z : State) (d1 asc : Addr) (x1 y1 : Int64) (h0 : Heap) (n0 : Nat) (v : Option Value) (h : Heap) (L : List Loc) : Prop := v = some (.int (aft d1 asc x1 y1)) ∧ Fr n0 L ∧ h = h0
theorem ef_1 (m : MethodId) (d1 : Addr) (x1 : Int64) (y1 : Int64) : entryFrame m #[(.ref d1), (.long x1), (.long y1)] 5 = mkF m 0 #[.val (.ref d1), .val (.long x1), .second, .val (.long y1), .second] [] := by first | (simp [entryFrame, mkF, argsToLocals, Value.category]; done) | rfl
set_option maxRecDepth 65536 in
set_option maxHeartbeats 40000000 in
theorem rm1 (l : Launch) (Z : State) (a0 : Array Value) (hw : ∀ d ∈ tables_1, d.before a0 Z = true) (ws : List Jvm.Cond) (d1 asc : Addr) (x1 y1 : Int64) (h0 : Heap) (n0 : Nat) (Z0 : n0 ≤ h0.size) (S_ASCENDING : Sta Z h0 "com/example/wharfline/wharfline/woocommerce/ListWalk$Direction" "ASCENDING" "Lcom/example/wharfline/wharfline/woocommerce/ListWalk$Direction;" (.ref asc)) :
    MetFree l (⟨"com/example/wharfline/wharfline/woocommerce/ListWalk$Direction", "isAfter", "(JJ)Z"⟩ : MethodName) (head1 (Jvm.Cond.code (⟨"com/example/wharfline/wharfline/woocommerce/ListWalk$Direction", "isAfter", "(JJ)Z"⟩ : MethodName) prog_102_method_5_code 5 (some .boolean) :: ws) ({ frames := 0, cells := 0, slots := 0, locals := 0 } : Room)) (fun a U => a = #[(.ref d1), (.long x1), (.long y1)] ∧ Z.Warmed39 U.vm ∧ U.heap = h0) (fun _ _ _ _ _ => True) (fun _ U o U' => ∃ v L, o = .returned v ∧ Q1 Z d1 asc x1 y1 h0 n0 v U'.heap L ∧ FrameEnd U o U' L ({ frames := 0, cells := 0, slots := 0, locals := 0 } : Room).cells ({ frames := 0, cells := 0, slots := 0, locals := 0 } : Room).slots) := by
  refine MetFree.of_bodySF (plainFor_of_name pn_1) hisR ?_
  intro p e s m args below meth c s₁ Bd hml0 hP hK
  obtain ⟨rfl, hZ, hh⟩ := hP
  have hx := Bd.exec
  have hby := Bd.bytes
  have hml : c.maxLocals = 5 := hml0
  have hown : s.vm.findClass "com/example/wharfline/wharfline/woocommerce/ListWalk$Direction" = some m.cls := findClass_of_methodNamed Bd.named
  have hnm := (name_of_methodNamed Bd.named Bd.method).1
  have X0 : Stand p l e ({ frames := 0, cells := 0, slots := 0, locals := 0 } : Room) s m #[(.ref d1), (.long x1), (.long y1)] below meth c s₁ [] 0 0 := Stand.of_body Bd
  have e0 : s₁.heap = h0 := by rw [← hh, Bd.state]; rfl
  have N0 := Fr.nil n0
  have pre0 : Lead p e below (s₁.setTop (mkF m 0 #[.val (.ref d1), .val (.long x1), .second, .val (.long y1), .second] [])) (s₁.setTop (entryFrame m #[(.ref d1), (.long x1), (.long y1)] 5)) := fun t k => castTop (ef_1 m d1 x1 y1) k
  obtain ⟨T1, X1, e1, st1⟩ := getS2 X0 hx hZ hown (host := "") (Or.inl (hw _ (List.mem_of_getElem? (i := 8) rfl))) Via.refl e0 S_ASCENDING (g := (mkF m 1 #[.val (.ref d1), .val (.long x1), .second, .val (.long y1), .second] [(.ref d1)])) rfl (hb hby d1_1)
  have pre2 : Lead p e below (T1.setTop (mkF m 4 #[.val (.ref d1), .val (.long x1), .second, .val (.long y1), .second] [(.ref asc), (.ref d1)])) (s₁.setTop (entryFrame m #[(.ref d1), (.long x1), (.long y1)] 5)) := fun t k => by
    refine pre0 t ?_
    refine XS.aloadN X0.here hx rfl (hb hby d1_0) rfl rfl ?_
    show Steps p.tables e below (s₁.setTop (mkF m 1 #[.val (.ref d1), .val (.long x1), .second, .val (.long y1), .second] [(.ref d1)])) _
    refine st1 _ ?_
    show Steps p.tables e below (T1.setTop (mkF m 4 #[.val (.ref d1), .val (.long x1), .second, .val (.long y1), .second] [(.ref asc), (.ref d1)])) _
    exact k
  by_cases h1 : d1 = asc
  · skip
    have pre3 : Lead p e below (T1.setTop (mkF m 10 #[.val (.ref d1), .val (.long x1), .second, .val (.long y1), .second] [(.int (lcmpW x1 y1))])) (s₁.setTop (entryFrame m #[(.ref d1), (.long x1), (.long y1)] 5)) := fun t k => by
      refine pre2 t ?_
      refine Jvm.RoadKit.acmp (g := (mkF m 4 #[.val (.ref d1), .val (.long x1), .second, .val (.long y1), .second] [(.ref asc), (.ref d1)])) X1 hx rfl rfl rfl (pc0 := 4) (pc' := 7) (same := true) rfl (hb hby d1_4) rfl (decide_eq_true (congrArg Value.ref h1)) (by decide) (by decide) ?_
      show Steps p.tables e below (T1.setTop (mkF m 7 #[.val (.ref d1), .val (.long x1), .second, .val (.long y1), .second] [])) _
      refine XS.lloadN X1.here hx rfl (hb hby d1_7) rfl ?_
      show Steps p.tables e below (T1.setTop (mkF m 8 #[.val (.ref d1), .val (.long x1), .second, .val (.long y1), .second] [(.long x1)])) _
      refine XS.lloadN X1.here hx rfl (hb hby d1_8) rfl ?_
      show Steps p.tables e below (T1.setTop (mkF m 9 #[.val (.ref d1), .val (.long x1), .second, .val (.long y1), .second] [(.long y1), (.long x1)])) _
      refine XS.lcmp X1.here hx rfl (hb hby d1_9) rfl ?_
      show Steps p.tables e below (T1.setTop (mkF m 10 #[.val (.ref d1), .val (.long x1), .second, .val (.long y1), .second] [(.int (lcmpW x1 y1))])) _
      exact k
    by_cases h2 : y1 < x1
    · skip
      have pre4 : Lead p e below (T1.setTop (mkF m 32 #[.val (.ref d1), .val (.long x1), .second, .val (.long y1), .second] [(.int (1 : Int32))])) (s₁.setTop (entryFrame m #[(.ref d1), (.long x1), (.long y1)] 5)) := fun t k => by
        refine pre3 t ?_
        refine XS.ifNo X1.here hx rfl (hb hby d1_10) rfl ((if0 _ _).trans (tlt ((own_lcg _ _).mpr h2)).2.2.2) ?_
        show Steps p.tables e below (T1.setTop (mkF m 13 #[.val (.ref d1), .val (.long x1), .second, .val (.long y1), .second] [])) _
        refine XS.iconst X1.here hx rfl (hb hby d1_13) ?_
        show Steps p.tables e below (T1.setTop (mkF m 14 #[.val (.ref d1), .val (.long x1), .second, .val (.long y1), .second] [(.int (1 : Int32))])) _
        refine XS.goto X1.here hx rfl (pc0 := 14) (pc' := 32) rfl (hb hby d1_14) (by decide) (by decide) ?_
        show Steps p.tables e below (T1.setTop (mkF m 32 #[.val (.ref d1), .val (.long x1), .second, .val (.long y1), .second] [(.int (1 : Int32))])) _
        exact k
      obtain ⟨fs, hr, hrun, hended, hW, hsame⟩ := X1.leave (v := some (.int (1 : Int32))) (fun h => by rw [Bd.returns] at h; cases h)
      refine ⟨_, _, pre4 _ ?_, hrun, hended, _, _, rfl, ?_, ⟨_, rfl⟩, hW, hsame.mono (by decide) (by decide)⟩
      · exact retN X1 hx (t := .boolean) Bd.returns (by simp) (hb hby d1_32) hr
      · show Q1 Z d1 asc x1 y1 h0 n0 _ T1.heap _
        rw [e1]
        exact ⟨by rw [aft, if_pos h1, if_pos h2], N0, rfl⟩
    · skip
      have pre5 : Lead p e below (T1.setTop (mkF m 32 #[.val (.ref d1), .val (.long x1), .second, .val (.long y1), .second] [(.int (0 : Int32))])) (s₁.setTop (entryFrame m #[(.ref d1), (.long x1), (.long y1)] 5)) := fun t k => by
        refine pre3 t ?_
        refine XS.ifYes X1.here hx rfl (pc0 := 10) (pc' := 17) rfl (hb hby d1_10) rfl ((if0 _ _).trans (flt (fun q => h2 ((own_lcg _ _).mp q))).2.2.2) (by decide) (by decide) ?_
        show Steps p.tables e below (T1.setTop (mkF m 17 #[.val (.ref d1), .val (.long x1), .second, .val (.long y1), .second] [])) _
        refine XS.iconst X1.here hx rfl (hb hby d1_17) ?_
        show Steps p.tables e below (T1.setTop (mkF m 18 #[.val (.ref d1), .val (.long x1), .second, .val (.long y1), .second] [(.int (0 : Int32))])) _
        refine XS.goto X1.here hx rfl (pc0 := 18) (pc' := 32) rfl (hb hby d1_18) (by decide) (by decide) ?_
        show Steps p.tables e below (T1.setTop (mkF m 32 #[.val (.ref d1), .val (.long x1), .second, .val (.long y1), .second] [(.int (0 : Int32))])) _
        exact k
      obtain ⟨fs, hr, hrun, hended, hW, hsame⟩ := X1.leave (v := some (.int (0 : Int32))) (fun h => by rw [Bd.returns] at h; cases h)
      refine ⟨_, _, pre5 _ ?_, hrun, hended, _, _, rfl, ?_, ⟨_, rfl⟩, hW, hsame.mono (by decide) (by decide)⟩
      · exact retN X1 hx (t := .boolean) Bd.returns (by simp) (hb hby d1_32) hr
      · show Q1 Z d1 asc x1 y1 h0 n0 _ T1.heap _
        rw [e1]
        exact ⟨by rw [aft, if_pos h1, if_neg h2], N0, rfl⟩
  · skip
    have pre6 : Lead p e below (T1.setTop (mkF m 24 #[.val (.ref d1), .val (.long x1), .second, .val (.long y1), .second] [(.int (lcmpW x1 y1))])) (s₁.setTop (entryFrame m #[(.ref d1), (.long x1), (.long y1)] 5)) := fun t k => by
      refine pre2 t ?_
      refine Jvm.RoadKit.acmp (g := (mkF m 4 #[.val (.ref d1), .val (.long x1), .second, .val (.long y1), .second] [(.ref asc), (.ref d1)])) X1 hx rfl rfl rfl (pc0 := 4) (pc' := 21) (same := false) rfl (hb hby d1_4) rfl (decide_eq_false fun q => h1 (Value.ref.inj q)) (by decide) (by decide) ?_
      show Steps p.tables e below (T1.setTop (mkF m 21 #[.val (.ref d1), .val (.long x1), .second, .val (.long y1), .second] [])) _
      refine XS.lloadN X1.here hx rfl (hb hby d1_21) rfl ?_
      show Steps p.tables e below (T1.setTop (mkF m 22 #[.val (.ref d1), .val (.long x1), .second, .val (.long y1), .second] [(.long x1)])) _
      refine XS.lloadN X1.here hx rfl (hb hby d1_22) rfl ?_
      show Steps p.tables e below (T1.setTop (mkF m 23 #[.val (.ref d1), .val (.long x1), .second, .val (.long y1), .second] [(.long y1), (.long x1)])) _
      refine XS.lcmp X1.here hx rfl (hb hby d1_23) rfl ?_
      show Steps p.tables e below (T1.setTop (mkF m 24 #[.val (.ref d1), .val (.long x1), .second, .val (.long y1), .second] [(.int (lcmpW x1 y1))])) _
      exact k
    by_cases h2 : x1 < y1
    · skip
      have pre7 : Lead p e below (T1.setTop (mkF m 32 #[.val (.ref d1), .val (.long x1), .second, .val (.long y1), .second] [(.int (1 : Int32))])) (s₁.setTop (entryFrame m #[(.ref d1), (.long x1), (.long y1)] 5)) := fun t k => by
        refine pre6 t ?_
        refine XS.ifNo X1.here hx rfl (hb hby d1_24) rfl ((if0 _ _).trans (tlt ((own_lcl _ _).mpr h2)).2.1) ?_
        show Steps p.tables e below (T1.setTop (mkF m 27 #[.val (.ref d1), .val (.long x1), .second, .val (.long y1), .second] [])) _
        refine XS.iconst X1.here hx rfl (hb hby d1_27) ?_
        show Steps p.tables e below (T1.setTop (mkF m 28 #[.val (.ref d1), .val (.long x1), .second, .val (.long y1), .second] [(.int (1 : Int32))])) _
        refine XS.goto X1.here hx rfl (pc0 := 28) (pc' := 32) rfl (hb hby d1_28) (by decide) (by decide) ?_
        show Steps p.tables e below (T1.setTop (mkF m 32 #[.val (.ref d1), .val (.long x1), .second, .val (.long y1), .second] [(.int (1 : Int32))])) _
        exact k
      obtain ⟨fs, hr, hrun, hended, hW, hsame⟩ := X1.leave (v := some (.int (1 : Int32))) (fun h => by rw [Bd.returns] at h; cases h)
      refine ⟨_, _, pre7 _ ?_, hrun, hended, _, _, rfl, ?_, ⟨_, rfl⟩, hW, hsame.mono (by decide) (by decide)⟩
      · exact retN X1 hx (t := .boolean) Bd.returns (by simp) (hb hby d1_32) hr
      · show Q1 Z d1 asc x1 y1 h0 n0 _ T1.heap _
        rw [e1]
        exact ⟨by rw [aft, if_neg h1, if_pos h2], N0, rfl⟩
    · skip
      have pre8 : Lead p e below (T1.setTop (mkF m 32 #[.val (.ref d1), .val (.long x1), .second, .val (.long y1), .second] [(.int (0 : Int32))])) (s₁.setTop (entryFrame m #[(.ref d1), (.long x1), (.long y1)] 5)) := fun t k => by
        refine pre6 t ?_
        refine XS.ifYes X1.here hx rfl (pc0 := 24) (pc' := 31) rfl (hb hby d1_24) rfl ((if0 _ _).trans (flt (fun q => h2 ((own_lcl _ _).mp q))).2.1) (by decide) (by decide) ?_
        show Steps p.tables e below (T1.setTop (mkF m 31 #[.val (.ref d1), .val (.long x1), .second, .val (.long y1), .second] [])) _
        refine XS.iconst X1.here hx rfl (hb hby d1_31) ?_
        show Steps p.tables e below (T1.setTop (mkF m 32 #[.val (.ref d1), .val (.long x1), .second, .val (.long y1), .second] [(.int (0 : Int32))])) _
        exact k
      obtain ⟨fs, hr, hrun, hended, hW, hsame⟩ := X1.leave (v := some (.int (0 : Int32))) (fun h => by rw [Bd.returns] at h; cases h)
      refine ⟨_, _, pre8 _ ?_, hrun, hended, _, _, rfl, ?_, ⟨_, rfl⟩, hW, hsame.mono (by decide) (by decide)⟩
      · exact retN X1 hx (t := .boolean) Bd.returns (by simp) (hb hby d1_32) hr
      · show Q1 Z d1 asc x1 y1 h0 n0 _ T1.heap _
        rw [e1]
        exact ⟨by rw [aft, if_neg h1, if_neg h2], N0, rfl⟩
def Q0 (Z : State) (qa qb qc : Int64) (pk : Int32) (h0 : Heap) (n0 : Nat) (v : Option Value) (h : Heap) (L : List Loc) : Prop := v = some (.int (1 : Int32)) ∧ Fr n0 L
theorem ef_0 (m : MethodId) (qa : Int64) (qb : Int64) (qc : Int64) (pk : Int32) : entryFrame m #[(.long qa), (.long qb), (.long qc), (.int pk)] maxLocals = mkF m 0 #[.val (.long qa), .second, .val (.long qb), .second, .val (.long qc), .second, .val (.int pk), .unset, .unset, .unset, .unset, .unset, .unset, .unset, .unset, .unset, .unset, .unset] [] := by first | (simp [entryFrame, mkF, argsToLocals, Value.category, maxLocals]; done) | rfl
set_option maxRecDepth 65536 in
set_option maxHeartbeats 40000000 in
theorem rm0 (l : Launch) (Z : State) (a0 : Array Value) (hw : ∀ d ∈ tables_1, d.before a0 Z = true) (ws : List Jvm.Cond) (qa qb qc : Int64) (pk : Int32) (asc dsc : Addr) (h0 : Heap) (n0 : Nat) (Z0 : n0 ≤ h0.size) (S_ASCENDING : Sta Z h0 "com/example/wharfline/wharfline/woocommerce/ListWalk$Direction" "ASCENDING" "Lcom/example/wharfline/wharfline/woocommerce/ListWalk$Direction;" (.ref asc)) (S_DESCENDING : Sta Z h0 "com/example/wharfline/wharfline/woocommerce/ListWalk$Direction" "DESCENDING" "Lcom/example/wharfline/wharfline/woocommerce/ListWalk$Direction;" (.ref dsc)) (Ea : Exa Z h0 asc "com/example/wharfline/wharfline/woocommerce/ListWalk$Direction") (Ed : Exa Z h0 dsc "com/example/wharfline/wharfline/woocommerce/ListWalk$Direction") (dne : dsc ≠ asc) :
    MetFree l x (head1 (Jvm.Cond.code x code maxLocals ret :: ws) room_1) (fun a U => a = #[(.long qa), (.long qb), (.long qc), (.int pk)] ∧ Z.Warmed39 U.vm ∧ U.heap = h0) (fun _ _ _ _ _ => True) (fun _ U o U' => ∃ v L, o = .returned v ∧ Q0 Z qa qb qc pk h0 n0 v U'.heap L ∧ FrameEnd U o U' L room_1.cells room_1.slots) := by
  refine MetFree.of_bodySF (plainFor_of_name pn_0) hisR ?_
  intro p e s m args below meth c s₁ Bd hml0 hP hK
  obtain ⟨rfl, hZ, hh⟩ := hP
  have hx := Bd.exec
  have hby := Bd.bytes
  have hml : c.maxLocals = 18 := hml0
  have hown : s.vm.findClass "com/example/wharfline/wharfline/woocommerce/DirectionIsAfterPinLaw" = some m.cls := findClass_of_methodNamed Bd.named
  have hnm := (name_of_methodNamed Bd.named Bd.method).1
  have X0 : Stand p l e room_1 s m #[(.long qa), (.long qb), (.long qc), (.int pk)] below meth c s₁ [] 0 0 := Stand.of_body Bd
  have e0 : s₁.heap = h0 := by rw [← hh, Bd.state]; rfl
  have N0 := Fr.nil n0
  have pre0 : Lead p e below (s₁.setTop (mkF m 0 #[.val (.long qa), .second, .val (.long qb), .second, .val (.long qc), .second, .val (.int pk), .unset, .unset, .unset, .unset, .unset, .unset, .unset, .unset, .unset, .unset, .unset] [])) (s₁.setTop (entryFrame m #[(.long qa), (.long qb), (.long qc), (.int pk)] maxLocals)) := fun t k => castTop (ef_0 m qa qb qc pk) k
  have pre9 : Lead p e below (s₁.setTop (mkF m 4 #[.val (.long qa), .second, .val (.long qb), .second, .val (.long qc), .second, .val (.int pk), .unset, .unset, .unset, .unset, .unset, .unset, .unset, .unset, .unset, .unset, .unset] [(.int (pk &&& (1 : Int32)))])) (s₁.setTop (entryFrame m #[(.long qa), (.long qb), (.long qc), (.int pk)] maxLocals)) := fun t k => by
    refine pre0 t ?_
    refine XS.iload X0.here hx rfl (hb hby at_0) rfl ?_
    show Steps p.tables e below (s₁.setTop (mkF m 2 #[.val (.long qa), .second, .val (.long qb), .second, .val (.long qc), .second, .val (.int pk), .unset, .unset, .unset, .unset, .unset, .unset, .unset, .unset, .unset, .unset, .unset] [(.int pk)])) _
    refine XS.iconst X0.here hx rfl (hb hby at_2) ?_
    show Steps p.tables e below (s₁.setTop (mkF m 3 #[.val (.long qa), .second, .val (.long qb), .second, .val (.long qc), .second, .val (.int pk), .unset, .unset, .unset, .unset, .unset, .unset, .unset, .unset, .unset, .unset, .unset] [(.int (1 : Int32)), (.int pk)])) _
    refine XS.iand X0.here hx rfl (hb hby at_3) rfl ?_
    show Steps p.tables e below (s₁.setTop (mkF m 4 #[.val (.long qa), .second, .val (.long qb), .second, .val (.long qc), .second, .val (.int pk), .unset, .unset, .unset, .unset, .unset, .unset, .unset, .unset, .unset, .unset, .unset] [(.int (pk &&& (1 : Int32)))])) _
    exact k
  obtain ⟨TJ, dd, XJ, eJ, EJ, preJ⟩ : ∃ (TJ : State) (dd : Addr), Stand p l e room_1 s m #[(.long qa), (.long qb), (.long qc), (.int pk)] below meth c TJ [] 0 0 ∧ TJ.heap = h0 ∧ Exa Z h0 dd "com/example/wharfline/wharfline/woocommerce/ListWalk$Direction" ∧ Lead p e below (TJ.setTop (mkF m 16 #[.val (.long qa), .second, .val (.long qb), .second, .val (.long qc), .second, .val (.int pk), .unset, .unset, .unset, .unset, .unset, .unset, .unset, .unset, .unset, .unset, .unset] [(.ref dd)])) (s₁.setTop (entryFrame m #[(.long qa), (.long qb), (.long qc), (.int pk)] maxLocals)) := by
    by_cases h4 : (pk &&& (1 : Int32)) = (0 : Int32)
    · skip
      obtain ⟨T10, X10, e10, st10⟩ := getS2 X0 hx hZ hown (host := "") (Or.inl (hw _ (List.mem_of_getElem? (i := 0) rfl))) Via.refl e0 S_ASCENDING (g := (mkF m 7 #[.val (.long qa), .second, .val (.long qb), .second, .val (.long qc), .second, .val (.int pk), .unset, .unset, .unset, .unset, .unset, .unset, .unset, .unset, .unset, .unset, .unset] [])) rfl (hb hby at_7)
      have pre11 : Lead p e below (T10.setTop (mkF m 16 #[.val (.long qa), .second, .val (.long qb), .second, .val (.long qc), .second, .val (.int pk), .unset, .unset, .unset, .unset, .unset, .unset, .unset, .unset, .unset, .unset, .unset] [(.ref asc)])) (s₁.setTop (entryFrame m #[(.long qa), (.long qb), (.long qc), (.int pk)] maxLocals)) := fun t k => by
        refine pre9 t ?_
        refine XS.ifNo X0.here hx rfl (hb hby at_4) rfl ((if0 _ _).trans (teq h4).2) ?_
        show Steps p.tables e below (s₁.setTop (mkF m 7 #[.val (.long qa), .second, .val (.long qb), .second, .val (.long qc), .second, .val (.int pk), .unset, .unset, .unset, .unset, .unset, .unset, .unset, .unset, .unset, .unset, .unset] [])) _
        refine st10 _ ?_
        show Steps p.tables e below (T10.setTop (mkF m 10 #[.val (.long qa), .second, .val (.long qb), .second, .val (.long qc), .second, .val (.int pk), .unset, .unset, .unset, .unset, .unset, .unset, .unset, .unset, .unset, .unset, .unset] [(.ref asc)])) _
        refine XS.goto X10.here hx rfl (pc0 := 10) (pc' := 16) rfl (hb hby at_10) (by decide) (by decide) ?_
        show Steps p.tables e below (T10.setTop (mkF m 16 #[.val (.long qa), .second, .val (.long qb), .second, .val (.long qc), .second, .val (.int pk), .unset, .unset, .unset, .unset, .unset, .unset, .unset, .unset, .unset, .unset, .unset] [(.ref asc)])) _
        exact k
      exact ⟨_, _, X10, e10, Ea, pre11⟩
    · skip
      obtain ⟨T12, X12, e12, st12⟩ := getS2 X0 hx hZ hown (host := "") (Or.inl (hw _ (List.mem_of_getElem? (i := 9) rfl))) Via.refl e0 S_DESCENDING (g := (mkF m 13 #[.val (.long qa), .second, .val (.long qb), .second, .val (.long qc), .second, .val (.int pk), .unset, .unset, .unset, .unset, .unset, .unset, .unset, .unset, .unset, .unset, .unset] [])) rfl (hb hby at_13)
      have pre13 : Lead p e below (T12.setTop (mkF m 16 #[.val (.long qa), .second, .val (.long qb), .second, .val (.long qc), .second, .val (.int pk), .unset, .unset, .unset, .unset, .unset, .unset, .unset, .unset, .unset, .unset, .unset] [(.ref dsc)])) (s₁.setTop (entryFrame m #[(.long qa), (.long qb), (.long qc), (.int pk)] maxLocals)) := fun t k => by
        refine pre9 t ?_
        refine XS.ifYes X0.here hx rfl (pc0 := 4) (pc' := 13) rfl (hb hby at_4) rfl ((if0 _ _).trans (feq h4).2) (by decide) (by decide) ?_
        show Steps p.tables e below (s₁.setTop (mkF m 13 #[.val (.long qa), .second, .val (.long qb), .second, .val (.long qc), .second, .val (.int pk), .unset, .unset, .unset, .unset, .unset, .unset, .unset, .unset, .unset, .unset, .unset] [])) _
        refine st12 _ ?_
        show Steps p.tables e below (T12.setTop (mkF m 16 #[.val (.long qa), .second, .val (.long qb), .second, .val (.long qc), .second, .val (.int pk), .unset, .unset, .unset, .unset, .unset, .unset, .unset, .unset, .unset, .unset, .unset] [(.ref dsc)])) _
        exact k
      exact ⟨_, _, X12, e12, Ed, pre13⟩
  obtain ⟨cq14, kq14, q14a, q14b, q14c⟩ := isOf hZ eJ EJ
  obtain ⟨_, _, ⟨T14, L14, k14, n14⟩, -, X14, ⟨Lc14, hQ14, l14, y14, z14⟩, st14⟩ := XJ.virtualBack hx (y := (⟨"com/example/wharfline/wharfline/woocommerce/ListWalk$Direction", "isAfter", "(JJ)Z"⟩ : MethodName)) (z := (⟨"com/example/wharfline/wharfline/woocommerce/ListWalk$Direction", "isAfter", "(JJ)Z"⟩ : MethodName)) hown (mvT hZ (hw _ (List.mem_of_getElem? (i := 3) rfl))) (mvT hZ (hw _ (List.mem_of_getElem? (i := 4) rfl))) (notFace_of_selects (args := #[]) (mvT hZ (hw _ (List.mem_of_getElem? (i := 6) rfl)))) (mvT hZ (hw _ (List.mem_of_getElem? (i := 6) rfl))) (mvT hZ (hw _ (List.mem_of_getElem? (i := 5) rfl))) (by decide) (backOf (W := 0) (rm1 l Z a0 hw [] dd asc qa qb h0 n0 Z0 S_ASCENDING) hZ (hw _ (List.mem_of_getElem? (i := 7) rfl)) (hw _ (List.mem_of_getElem? (i := 1) rfl)) (by decide) (by decide)) q14a q14c (g := (mkF m 22 #[.val (.long qa), .second, .val (.long qb), .second, .val (.long qc), .second, .val (.int pk), .val (.ref dd), .unset, .unset, .unset, .unset, .unset, .unset, .unset, .unset, .unset, .unset] [(.long qb), (.long qa), (.ref dd)])) rfl (by rw [hml]; rfl) (Steps.refl _) (argsL := [(.long qa), (.long qb)]) (rest := []) (lenOf pd_1 rfl) rfl (by show 2 * 0 + _ ≤ _; exact Nat.le_of_eq rfl) (hb hby at_22) (fun _ _ => ⟨rfl, eJ, (by decide : 0 + 0 ≤ _), (by decide : 0 + 0 ≤ _)⟩)
  dsimp only [Pt.U, Pt.locs, Pt.cells, Pt.slots] at X14 l14 y14 z14 st14 hQ14
  subst l14 y14 z14
  obtain ⟨rfl, N14q, e14⟩ := hQ14
  have N14 := Fr.app N0 N14q
  obtain ⟨cq15, kq15, q15a, q15b, q15c⟩ := isOf hZ e14 EJ
  obtain ⟨_, _, ⟨T15, L15, k15, n15⟩, -, X15, ⟨Lc15, hQ15, l15, y15, z15⟩, st15⟩ := X14.virtualBack hx (y := (⟨"com/example/wharfline/wharfline/woocommerce/ListWalk$Direction", "isAfter", "(JJ)Z"⟩ : MethodName)) (z := (⟨"com/example/wharfline/wharfline/woocommerce/ListWalk$Direction", "isAfter", "(JJ)Z"⟩ : MethodName)) hown (mvT hZ (hw _ (List.mem_of_getElem? (i := 3) rfl))) (mvT hZ (hw _ (List.mem_of_getElem? (i := 4) rfl))) (notFace_of_selects (args := #[]) (mvT hZ (hw _ (List.mem_of_getElem? (i := 6) rfl)))) (mvT hZ (hw _ (List.mem_of_getElem? (i := 6) rfl))) (mvT hZ (hw _ (List.mem_of_getElem? (i := 5) rfl))) (by decide) (backOf (W := 0) (rm1 l Z a0 hw [] dd asc qb qa h0 n0 Z0 S_ASCENDING) hZ (hw _ (List.mem_of_getElem? (i := 7) rfl)) (hw _ (List.mem_of_getElem? (i := 1) rfl)) (by decide) (by decide)) q15a q15c (g := (mkF m 31 #[.val (.long qa), .second, .val (.long qb), .second, .val (.long qc), .second, .val (.int pk), .val (.ref dd), .val (.int (aft dd asc qa qb)), .unset, .unset, .unset, .unset, .unset, .unset, .unset, .unset, .unset] [(.long qa), (.long qb), (.ref dd)])) rfl (by rw [hml]; rfl) (Steps.refl _) (argsL := [(.long qb), (.long qa)]) (rest := []) (lenOf pd_1 rfl) rfl (by show 2 * 0 + _ ≤ _; exact Nat.le_of_eq rfl) (hb hby at_31) (fun _ _ => ⟨rfl, e14, (by decide : 0 + 0 ≤ _), (by decide : 0 + 0 ≤ _)⟩)
  dsimp only [Pt.U, Pt.locs, Pt.cells, Pt.slots] at X15 l15 y15 z15 st15 hQ15
  subst l15 y15 z15
  obtain ⟨rfl, N15q, e15⟩ := hQ15
  have N15 := Fr.app N14 N15q
  have pre16 : Lead p e below (T15.setTop (mkF m 39 #[.val (.long qa), .second, .val (.long qb), .second, .val (.long qc), .second, .val (.int pk), .val (.ref dd), .val (.int (aft dd asc qa qb)), .val (.int (aft dd asc qb qa)), .unset, .unset, .unset, .unset, .unset, .unset, .unset, .unset] [(.int (lcmpW qa qb))])) (s₁.setTop (entryFrame m #[(.long qa), (.long qb), (.long qc), (.int pk)] maxLocals)) := fun t k => by
    refine preJ t ?_
    refine XS.astore XJ.here hx rfl (hb hby at_16) rfl rfl (l' := #[.val (.long qa), .second, .val (.long qb), .second, .val (.long qc), .second, .val (.int pk), .val (.ref dd), .unset, .unset, .unset, .unset, .unset, .unset, .unset, .unset, .unset, .unset]) rfl ?_
    show Steps p.tables e below (TJ.setTop (mkF m 18 #[.val (.long qa), .second, .val (.long qb), .second, .val (.long qc), .second, .val (.int pk), .val (.ref dd), .unset, .unset, .unset, .unset, .unset, .unset, .unset, .unset, .unset, .unset] [])) _
    refine XS.aload XJ.here hx rfl (hb hby at_18) rfl rfl ?_
    show Steps p.tables e below (TJ.setTop (mkF m 20 #[.val (.long qa), .second, .val (.long qb), .second, .val (.long qc), .second, .val (.int pk), .val (.ref dd), .unset, .unset, .unset, .unset, .unset, .unset, .unset, .unset, .unset, .unset] [(.ref dd)])) _
    refine XS.lloadN XJ.here hx rfl (hb hby at_20) rfl ?_
    show Steps p.tables e below (TJ.setTop (mkF m 21 #[.val (.long qa), .second, .val (.long qb), .second, .val (.long qc), .second, .val (.int pk), .val (.ref dd), .unset, .unset, .unset, .unset, .unset, .unset, .unset, .unset, .unset, .unset] [(.long qa), (.ref dd)])) _
    refine XS.lloadN XJ.here hx rfl (hb hby at_21) rfl ?_
    show Steps p.tables e below (TJ.setTop (mkF m 22 #[.val (.long qa), .second, .val (.long qb), .second, .val (.long qc), .second, .val (.int pk), .val (.ref dd), .unset, .unset, .unset, .unset, .unset, .unset, .unset, .unset, .unset, .unset] [(.long qb), (.long qa), (.ref dd)])) _
    refine st14.trans ?_
    show Steps p.tables e below (T14.setTop (mkF m 25 #[.val (.long qa), .second, .val (.long qb), .second, .val (.long qc), .second, .val (.int pk), .val (.ref dd), .unset, .unset, .unset, .unset, .unset, .unset, .unset, .unset, .unset, .unset] [(.int (aft dd asc qa qb))])) _
    refine XS.istore X14.here hx rfl (hb hby at_25) rfl (l' := #[.val (.long qa), .second, .val (.long qb), .second, .val (.long qc), .second, .val (.int pk), .val (.ref dd), .val (.int (aft dd asc qa qb)), .unset, .unset, .unset, .unset, .unset, .unset, .unset, .unset, .unset]) rfl ?_
    show Steps p.tables e below (T14.setTop (mkF m 27 #[.val (.long qa), .second, .val (.long qb), .second, .val (.long qc), .second, .val (.int pk), .val (.ref dd), .val (.int (aft dd asc qa qb)), .unset, .unset, .unset, .unset, .unset, .unset, .unset, .unset, .unset] [])) _
    refine XS.aload X14.here hx rfl (hb hby at_27) rfl rfl ?_
    show Steps p.tables e below (T14.setTop (mkF m 29 #[.val (.long qa), .second, .val (.long qb), .second, .val (.long qc), .second, .val (.int pk), .val (.ref dd), .val (.int (aft dd asc qa qb)), .unset, .unset, .unset, .unset, .unset, .unset, .unset, .unset, .unset] [(.ref dd)])) _
    refine XS.lloadN X14.here hx rfl (hb hby at_29) rfl ?_
    show Steps p.tables e below (T14.setTop (mkF m 30 #[.val (.long qa), .second, .val (.long qb), .second, .val (.long qc), .second, .val (.int pk), .val (.ref dd), .val (.int (aft dd asc qa qb)), .unset, .unset, .unset, .unset, .unset, .unset, .unset, .unset, .unset] [(.long qb), (.ref dd)])) _
    refine XS.lloadN X14.here hx rfl (hb hby at_30) rfl ?_
    show Steps p.tables e below (T14.setTop (mkF m 31 #[.val (.long qa), .second, .val (.long qb), .second, .val (.long qc), .second, .val (.int pk), .val (.ref dd), .val (.int (aft dd asc qa qb)), .unset, .unset, .unset, .unset, .unset, .unset, .unset, .unset, .unset] [(.long qa), (.long qb), (.ref dd)])) _
    refine st15.trans ?_
    show Steps p.tables e below (T15.setTop (mkF m 34 #[.val (.long qa), .second, .val (.long qb), .second, .val (.long qc), .second, .val (.int pk), .val (.ref dd), .val (.int (aft dd asc qa qb)), .unset, .unset, .unset, .unset, .unset, .unset, .unset, .unset, .unset] [(.int (aft dd asc qb qa))])) _
    refine XS.istore X15.here hx rfl (hb hby at_34) rfl (l' := #[.val (.long qa), .second, .val (.long qb), .second, .val (.long qc), .second, .val (.int pk), .val (.ref dd), .val (.int (aft dd asc qa qb)), .val (.int (aft dd asc qb qa)), .unset, .unset, .unset, .unset, .unset, .unset, .unset, .unset]) rfl ?_
    show Steps p.tables e below (T15.setTop (mkF m 36 #[.val (.long qa), .second, .val (.long qb), .second, .val (.long qc), .second, .val (.int pk), .val (.ref dd), .val (.int (aft dd asc qa qb)), .val (.int (aft dd asc qb qa)), .unset, .unset, .unset, .unset, .unset, .unset, .unset, .unset] [])) _
    refine XS.lloadN X15.here hx rfl (hb hby at_36) rfl ?_
    show Steps p.tables e below (T15.setTop (mkF m 37 #[.val (.long qa), .second, .val (.long qb), .second, .val (.long qc), .second, .val (.int pk), .val (.ref dd), .val (.int (aft dd asc qa qb)), .val (.int (aft dd asc qb qa)), .unset, .unset, .unset, .unset, .unset, .unset, .unset, .unset] [(.long qa)])) _
    refine XS.lloadN X15.here hx rfl (hb hby at_37) rfl ?_
    show Steps p.tables e below (T15.setTop (mkF m 38 #[.val (.long qa), .second, .val (.long qb), .second, .val (.long qc), .second, .val (.int pk), .val (.ref dd), .val (.int (aft dd asc qa qb)), .val (.int (aft dd asc qb qa)), .unset, .unset, .unset, .unset, .unset, .unset, .unset, .unset] [(.long qb), (.long qa)])) _
    refine XS.lcmp X15.here hx rfl (hb hby at_38) rfl ?_
    show Steps p.tables e below (T15.setTop (mkF m 39 #[.val (.long qa), .second, .val (.long qb), .second, .val (.long qc), .second, .val (.int pk), .val (.ref dd), .val (.int (aft dd asc qa qb)), .val (.int (aft dd asc qb qa)), .unset, .unset, .unset, .unset, .unset, .unset, .unset, .unset] [(.int (lcmpW qa qb))])) _
    exact k
  have preA : Lead p e below (T15.setTop (mkF m 74 #[.val (.long qa), .second, .val (.long qb), .second, .val (.long qc), .second, .val (.int pk), .val (.ref dd), .val (.int (aft dd asc qa qb)), .val (.int (aft dd asc qb qa)), .val (.int (1 : Int32)), .unset, .unset, .unset, .unset, .unset, .unset, .unset] [])) (s₁.setTop (entryFrame m #[(.long qa), (.long qb), (.long qc), (.int pk)] maxLocals)) := by
    by_cases h39 : qa = qb
    · skip
      have pre17 : Lead p e below (T15.setTop (mkF m 74 #[.val (.long qa), .second, .val (.long qb), .second, .val (.long qc), .second, .val (.int pk), .val (.ref dd), .val (.int (aft dd asc qa qb)), .val (.int (aft dd asc qb qa)), .val (.int (1 : Int32)), .unset, .unset, .unset, .unset, .unset, .unset, .unset] [])) (s₁.setTop (entryFrame m #[(.long qa), (.long qb), (.long qc), (.int pk)] maxLocals)) := fun t k => by
        refine pre16 t ?_
        refine XS.ifNo X15.here hx rfl (hb hby at_39) rfl ((if0 _ _).trans (teq ((own_lce _ _).mpr h39)).2) ?_
        show Steps p.tables e below (T15.setTop (mkF m 42 #[.val (.long qa), .second, .val (.long qb), .second, .val (.long qc), .second, .val (.int pk), .val (.ref dd), .val (.int (aft dd asc qa qb)), .val (.int (aft dd asc qb qa)), .unset, .unset, .unset, .unset, .unset, .unset, .unset, .unset] [])) _
        refine XS.iload X15.here hx rfl (hb hby at_42) rfl ?_
        show Steps p.tables e below (T15.setTop (mkF m 44 #[.val (.long qa), .second, .val (.long qb), .second, .val (.long qc), .second, .val (.int pk), .val (.ref dd), .val (.int (aft dd asc qa qb)), .val (.int (aft dd asc qb qa)), .unset, .unset, .unset, .unset, .unset, .unset, .unset, .unset] [(.int (aft dd asc qa qb))])) _
        refine XS.ifNo X15.here hx rfl (hb hby at_44) rfl ((if0 _ _).trans (teq (own_aft_eq h39)).2) ?_
        show Steps p.tables e below (T15.setTop (mkF m 47 #[.val (.long qa), .second, .val (.long qb), .second, .val (.long qc), .second, .val (.int pk), .val (.ref dd), .val (.int (aft dd asc qa qb)), .val (.int (aft dd asc qb qa)), .unset, .unset, .unset, .unset, .unset, .unset, .unset, .unset] [])) _
        refine XS.iload X15.here hx rfl (hb hby at_47) rfl ?_
        show Steps p.tables e below (T15.setTop (mkF m 49 #[.val (.long qa), .second, .val (.long qb), .second, .val (.long qc), .second, .val (.int pk), .val (.ref dd), .val (.int (aft dd asc qa qb)), .val (.int (aft dd asc qb qa)), .unset, .unset, .unset, .unset, .unset, .unset, .unset, .unset] [(.int (aft dd asc qb qa))])) _
        refine XS.ifNo X15.here hx rfl (hb hby at_49) rfl ((if0 _ _).trans (teq (own_aft_eq h39.symm)).2) ?_
        show Steps p.tables e below (T15.setTop (mkF m 52 #[.val (.long qa), .second, .val (.long qb), .second, .val (.long qc), .second, .val (.int pk), .val (.ref dd), .val (.int (aft dd asc qa qb)), .val (.int (aft dd asc qb qa)), .unset, .unset, .unset, .unset, .unset, .unset, .unset, .unset] [])) _
        refine XS.iconst X15.here hx rfl (hb hby at_52) ?_
        show Steps p.tables e below (T15.setTop (mkF m 53 #[.val (.long qa), .second, .val (.long qb), .second, .val (.long qc), .second, .val (.int pk), .val (.ref dd), .val (.int (aft dd asc qa qb)), .val (.int (aft dd asc qb qa)), .unset, .unset, .unset, .unset, .unset, .unset, .unset, .unset] [(.int (1 : Int32))])) _
        refine XS.goto X15.here hx rfl (pc0 := 53) (pc' := 72) rfl (hb hby at_53) (by decide) (by decide) ?_
        show Steps p.tables e below (T15.setTop (mkF m 72 #[.val (.long qa), .second, .val (.long qb), .second, .val (.long qc), .second, .val (.int pk), .val (.ref dd), .val (.int (aft dd asc qa qb)), .val (.int (aft dd asc qb qa)), .unset, .unset, .unset, .unset, .unset, .unset, .unset, .unset] [(.int (1 : Int32))])) _
        refine XS.istore X15.here hx rfl (hb hby at_72) rfl (l' := #[.val (.long qa), .second, .val (.long qb), .second, .val (.long qc), .second, .val (.int pk), .val (.ref dd), .val (.int (aft dd asc qa qb)), .val (.int (aft dd asc qb qa)), .val (.int (1 : Int32)), .unset, .unset, .unset, .unset, .unset, .unset, .unset]) rfl ?_
        show Steps p.tables e below (T15.setTop (mkF m 74 #[.val (.long qa), .second, .val (.long qb), .second, .val (.long qc), .second, .val (.int pk), .val (.ref dd), .val (.int (aft dd asc qa qb)), .val (.int (aft dd asc qb qa)), .val (.int (1 : Int32)), .unset, .unset, .unset, .unset, .unset, .unset, .unset] [])) _
        exact k
      exact pre17
    · skip
      have pre18 : Lead p e below (T15.setTop (mkF m 74 #[.val (.long qa), .second, .val (.long qb), .second, .val (.long qc), .second, .val (.int pk), .val (.ref dd), .val (.int (aft dd asc qa qb)), .val (.int (aft dd asc qb qa)), .val (.int (1 : Int32)), .unset, .unset, .unset, .unset, .unset, .unset, .unset] [])) (s₁.setTop (entryFrame m #[(.long qa), (.long qb), (.long qc), (.int pk)] maxLocals)) := fun t k => by
        refine pre16 t ?_
        refine XS.ifYes X15.here hx rfl (pc0 := 39) (pc' := 60) rfl (hb hby at_39) rfl ((if0 _ _).trans (feq (fun q => h39 ((own_lce _ _).mp q))).2) (by decide) (by decide) ?_
        show Steps p.tables e below (T15.setTop (mkF m 60 #[.val (.long qa), .second, .val (.long qb), .second, .val (.long qc), .second, .val (.int pk), .val (.ref dd), .val (.int (aft dd asc qa qb)), .val (.int (aft dd asc qb qa)), .unset, .unset, .unset, .unset, .unset, .unset, .unset, .unset] [])) _
        refine XS.iload X15.here hx rfl (hb hby at_60) rfl ?_
        show Steps p.tables e below (T15.setTop (mkF m 62 #[.val (.long qa), .second, .val (.long qb), .second, .val (.long qc), .second, .val (.int pk), .val (.ref dd), .val (.int (aft dd asc qa qb)), .val (.int (aft dd asc qb qa)), .unset, .unset, .unset, .unset, .unset, .unset, .unset, .unset] [(.int (aft dd asc qa qb))])) _
        refine XS.iload X15.here hx rfl (hb hby at_62) rfl ?_
        show Steps p.tables e below (T15.setTop (mkF m 64 #[.val (.long qa), .second, .val (.long qb), .second, .val (.long qc), .second, .val (.int pk), .val (.ref dd), .val (.int (aft dd asc qa qb)), .val (.int (aft dd asc qb qa)), .unset, .unset, .unset, .unset, .unset, .unset, .unset, .unset] [(.int (aft dd asc qb qa)), (.int (aft dd asc qa qb))])) _
        refine XS.icmpNo X15.here hx rfl (hb hby at_64) rfl (feq (own_aft_ne h39)).1 ?_
        show Steps p.tables e below (T15.setTop (mkF m 67 #[.val (.long qa), .second, .val (.long qb), .second, .val (.long qc), .second, .val (.int pk), .val (.ref dd), .val (.int (aft dd asc qa qb)), .val (.int (aft dd asc qb qa)), .unset, .unset, .unset, .unset, .unset, .unset, .unset, .unset] [])) _
        refine XS.iconst X15.here hx rfl (hb hby at_67) ?_
        show Steps p.tables e below (T15.setTop (mkF m 68 #[.val (.long qa), .second, .val (.long qb), .second, .val (.long qc), .second, .val (.int pk), .val (.ref dd), .val (.int (aft dd asc qa qb)), .val (.int (aft dd asc qb qa)), .unset, .unset, .unset, .unset, .unset, .unset, .unset, .unset] [(.int (1 : Int32))])) _
        refine XS.goto X15.here hx rfl (pc0 := 68) (pc' := 72) rfl (hb hby at_68) (by decide) (by decide) ?_
        show Steps p.tables e below (T15.setTop (mkF m 72 #[.val (.long qa), .second, .val (.long qb), .second, .val (.long qc), .second, .val (.int pk), .val (.ref dd), .val (.int (aft dd asc qa qb)), .val (.int (aft dd asc qb qa)), .unset, .unset, .unset, .unset, .unset, .unset, .unset, .unset] [(.int (1 : Int32))])) _
        refine XS.istore X15.here hx rfl (hb hby at_72) rfl (l' := #[.val (.long qa), .second, .val (.long qb), .second, .val (.long qc), .second, .val (.int pk), .val (.ref dd), .val (.int (aft dd asc qa qb)), .val (.int (aft dd asc qb qa)), .val (.int (1 : Int32)), .unset, .unset, .unset, .unset, .unset, .unset, .unset]) rfl ?_
        show Steps p.tables e below (T15.setTop (mkF m 74 #[.val (.long qa), .second, .val (.long qb), .second, .val (.long qc), .second, .val (.int pk), .val (.ref dd), .val (.int (aft dd asc qa qb)), .val (.int (aft dd asc qb qa)), .val (.int (1 : Int32)), .unset, .unset, .unset, .unset, .unset, .unset, .unset] [])) _
        exact k
      exact pre18
  obtain ⟨T19, X19, e19, st19⟩ := getS2 X15 hx hZ hown (host := "") (Or.inl (hw _ (List.mem_of_getElem? (i := 9) rfl))) Via.refl e15 S_DESCENDING (g := (mkF m 74 #[.val (.long qa), .second, .val (.long qb), .second, .val (.long qc), .second, .val (.int pk), .val (.ref dd), .val (.int (aft dd asc qa qb)), .val (.int (aft dd asc qb qa)), .val (.int (1 : Int32)), .unset, .unset, .unset, .unset, .unset, .unset, .unset] [])) rfl (hb hby at_74)
  obtain ⟨cq20, kq20, q20a, q20b, q20c⟩ := isOf hZ e19 Ed
  obtain ⟨_, _, ⟨T20, L20, k20, n20⟩, -, X20, ⟨Lc20, hQ20, l20, y20, z20⟩, st20⟩ := X19.virtualBack hx (y := (⟨"com/example/wharfline/wharfline/woocommerce/ListWalk$Direction", "isAfter", "(JJ)Z"⟩ : MethodName)) (z := (⟨"com/example/wharfline/wharfline/woocommerce/ListWalk$Direction", "isAfter", "(JJ)Z"⟩ : MethodName)) hown (mvT hZ (hw _ (List.mem_of_getElem? (i := 3) rfl))) (mvT hZ (hw _ (List.mem_of_getElem? (i := 4) rfl))) (notFace_of_selects (args := #[]) (mvT hZ (hw _ (List.mem_of_getElem? (i := 6) rfl)))) (mvT hZ (hw _ (List.mem_of_getElem? (i := 6) rfl))) (mvT hZ (hw _ (List.mem_of_getElem? (i := 5) rfl))) (by decide) (backOf (W := 0) (rm1 l Z a0 hw [] dsc asc qa qb h0 n0 Z0 S_ASCENDING) hZ (hw _ (List.mem_of_getElem? (i := 7) rfl)) (hw _ (List.mem_of_getElem? (i := 1) rfl)) (by decide) (by decide)) q20a q20c (g := (mkF m 79 #[.val (.long qa), .second, .val (.long qb), .second, .val (.long qc), .second, .val (.int pk), .val (.ref dd), .val (.int (aft dd asc qa qb)), .val (.int (aft dd asc qb qa)), .val (.int (1 : Int32)), .unset, .unset, .unset, .unset, .unset, .unset, .unset] [(.long qb), (.long qa), (.ref dsc)])) rfl (by rw [hml]; rfl) (Steps.refl _) (argsL := [(.long qa), (.long qb)]) (rest := []) (lenOf pd_1 rfl) rfl (by show 2 * 0 + _ ≤ _; exact Nat.le_of_eq rfl) (hb hby at_79) (fun _ _ => ⟨rfl, e19, (by decide : 0 + 0 ≤ _), (by decide : 0 + 0 ≤ _)⟩)
  dsimp only [Pt.U, Pt.locs, Pt.cells, Pt.slots] at X20 l20 y20 z20 st20 hQ20
  subst l20 y20 z20
  obtain ⟨rfl, N20q, e20⟩ := hQ20
  have N20 := Fr.app N15 N20q
  obtain ⟨T21, X21, e21, st21⟩ := getS2 X20 hx hZ hown (host := "") (Or.inl (hw _ (List.mem_of_getElem? (i := 0) rfl))) Via.refl e20 S_ASCENDING (g := (mkF m 82 #[.val (.long qa), .second, .val (.long qb), .second, .val (.long qc), .second, .val (.int pk), .val (.ref dd), .val (.int (aft dd asc qa qb)), .val (.int (aft dd asc qb qa)), .val (.int (1 : Int32)), .unset, .unset, .unset, .unset, .unset, .unset, .unset] [(.int (aft dsc asc qa qb))])) rfl (hb hby at_82)
  obtain ⟨cq22, kq22, q22a, q22b, q22c⟩ := isOf hZ e21 Ea
  obtain ⟨_, _, ⟨T22, L22, k22, n22⟩, -, X22, ⟨Lc22, hQ22, l22, y22, z22⟩, st22⟩ := X21.virtualBack hx (y := (⟨"com/example/wharfline/wharfline/woocommerce/ListWalk$Direction", "isAfter", "(JJ)Z"⟩ : MethodName)) (z := (⟨"com/example/wharfline/wharfline/woocommerce/ListWalk$Direction", "isAfter", "(JJ)Z"⟩ : MethodName)) hown (mvT hZ (hw _ (List.mem_of_getElem? (i := 3) rfl))) (mvT hZ (hw _ (List.mem_of_getElem? (i := 4) rfl))) (notFace_of_selects (args := #[]) (mvT hZ (hw _ (List.mem_of_getElem? (i := 6) rfl)))) (mvT hZ (hw _ (List.mem_of_getElem? (i := 6) rfl))) (mvT hZ (hw _ (List.mem_of_getElem? (i := 5) rfl))) (by decide) (backOf (W := 1) (rm1 l Z a0 hw [] asc asc qb qa h0 n0 Z0 S_ASCENDING) hZ (hw _ (List.mem_of_getElem? (i := 7) rfl)) (hw _ (List.mem_of_getElem? (i := 1) rfl)) (by decide) (by decide)) q22a q22c (g := (mkF m 87 #[.val (.long qa), .second, .val (.long qb), .second, .val (.long qc), .second, .val (.int pk), .val (.ref dd), .val (.int (aft dd asc qa qb)), .val (.int (aft dd asc qb qa)), .val (.int (1 : Int32)), .unset, .unset, .unset, .unset, .unset, .unset, .unset] [(.long qa), (.long qb), (.ref asc), (.int (aft dsc asc qa qb))])) rfl (by rw [hml]; rfl) (Steps.refl _) (argsL := [(.long qb), (.long qa)]) (rest := [(.int (aft dsc asc qa qb))]) (lenOf pd_1 rfl) rfl (by show 2 * 0 + _ ≤ _; exact Nat.le_of_eq rfl) (hb hby at_87) (fun _ _ => ⟨rfl, e21, (by decide : 0 + 0 ≤ _), (by decide : 0 + 0 ≤ _)⟩)
  dsimp only [Pt.U, Pt.locs, Pt.cells, Pt.slots] at X22 l22 y22 z22 st22 hQ22
  subst l22 y22 z22
  obtain ⟨rfl, N22q, e22⟩ := hQ22
  have N22 := Fr.app N20 N22q
  obtain ⟨T23, X23, e23, st23⟩ := getS2 X22 hx hZ hown (host := "") (Or.inl (hw _ (List.mem_of_getElem? (i := 0) rfl))) Via.refl e22 S_ASCENDING (g := (mkF m 100 #[.val (.long qa), .second, .val (.long qb), .second, .val (.long qc), .second, .val (.int pk), .val (.ref dd), .val (.int (aft dd asc qa qb)), .val (.int (aft dd asc qb qa)), .val (.int (1 : Int32)), .val (.int (1 : Int32)), .unset, .unset, .unset, .unset, .unset, .unset] [])) rfl (hb hby at_100)
  obtain ⟨cq24, kq24, q24a, q24b, q24c⟩ := isOf hZ e23 Ea
  obtain ⟨_, _, ⟨T24, L24, k24, n24⟩, -, X24, ⟨Lc24, hQ24, l24, y24, z24⟩, st24⟩ := X23.virtualBack hx (y := (⟨"com/example/wharfline/wharfline/woocommerce/ListWalk$Direction", "isAfter", "(JJ)Z"⟩ : MethodName)) (z := (⟨"com/example/wharfline/wharfline/woocommerce/ListWalk$Direction", "isAfter", "(JJ)Z"⟩ : MethodName)) hown (mvT hZ (hw _ (List.mem_of_getElem? (i := 3) rfl))) (mvT hZ (hw _ (List.mem_of_getElem? (i := 4) rfl))) (notFace_of_selects (args := #[]) (mvT hZ (hw _ (List.mem_of_getElem? (i := 6) rfl)))) (mvT hZ (hw _ (List.mem_of_getElem? (i := 6) rfl))) (mvT hZ (hw _ (List.mem_of_getElem? (i := 5) rfl))) (by decide) (backOf (W := 0) (rm1 l Z a0 hw [] asc asc qa qb h0 n0 Z0 S_ASCENDING) hZ (hw _ (List.mem_of_getElem? (i := 7) rfl)) (hw _ (List.mem_of_getElem? (i := 1) rfl)) (by decide) (by decide)) q24a q24c (g := (mkF m 105 #[.val (.long qa), .second, .val (.long qb), .second, .val (.long qc), .second, .val (.int pk), .val (.ref dd), .val (.int (aft dd asc qa qb)), .val (.int (aft dd asc qb qa)), .val (.int (1 : Int32)), .val (.int (1 : Int32)), .unset, .unset, .unset, .unset, .unset, .unset] [(.long qb), (.long qa), (.ref asc)])) rfl (by rw [hml]; rfl) (Steps.refl _) (argsL := [(.long qa), (.long qb)]) (rest := []) (lenOf pd_1 rfl) rfl (by show 2 * 0 + _ ≤ _; exact Nat.le_of_eq rfl) (hb hby at_105) (fun _ _ => ⟨rfl, e23, (by decide : 0 + 0 ≤ _), (by decide : 0 + 0 ≤ _)⟩)
  dsimp only [Pt.U, Pt.locs, Pt.cells, Pt.slots] at X24 l24 y24 z24 st24 hQ24
  subst l24 y24 z24
  obtain ⟨rfl, N24q, e24⟩ := hQ24
  have N24 := Fr.app N22 N24q
  have pre25 : Lead p e below (T24.setTop (mkF m 111 #[.val (.long qa), .second, .val (.long qb), .second, .val (.long qc), .second, .val (.int pk), .val (.ref dd), .val (.int (aft dd asc qa qb)), .val (.int (aft dd asc qb qa)), .val (.int (1 : Int32)), .val (.int (1 : Int32)), .unset, .unset, .unset, .unset, .unset, .unset] [(.int (lcmpW qa qb)), (.int (aft asc asc qa qb))])) (s₁.setTop (entryFrame m #[(.long qa), (.long qb), (.long qc), (.int pk)] maxLocals)) := fun t k => by
    refine preA t ?_
    refine st19 _ ?_
    show Steps p.tables e below (T19.setTop (mkF m 77 #[.val (.long qa), .second, .val (.long qb), .second, .val (.long qc), .second, .val (.int pk), .val (.ref dd), .val (.int (aft dd asc qa qb)), .val (.int (aft dd asc qb qa)), .val (.int (1 : Int32)), .unset, .unset, .unset, .unset, .unset, .unset, .unset] [(.ref dsc)])) _
    refine XS.lloadN X19.here hx rfl (hb hby at_77) rfl ?_
    show Steps p.tables e below (T19.setTop (mkF m 78 #[.val (.long qa), .second, .val (.long qb), .second, .val (.long qc), .second, .val (.int pk), .val (.ref dd), .val (.int (aft dd asc qa qb)), .val (.int (aft dd asc qb qa)), .val (.int (1 : Int32)), .unset, .unset, .unset, .unset, .unset, .unset, .unset] [(.long qa), (.ref dsc)])) _
    refine XS.lloadN X19.here hx rfl (hb hby at_78) rfl ?_
    show Steps p.tables e below (T19.setTop (mkF m 79 #[.val (.long qa), .second, .val (.long qb), .second, .val (.long qc), .second, .val (.int pk), .val (.ref dd), .val (.int (aft dd asc qa qb)), .val (.int (aft dd asc qb qa)), .val (.int (1 : Int32)), .unset, .unset, .unset, .unset, .unset, .unset, .unset] [(.long qb), (.long qa), (.ref dsc)])) _
    refine st20.trans ?_
    show Steps p.tables e below (T20.setTop (mkF m 82 #[.val (.long qa), .second, .val (.long qb), .second, .val (.long qc), .second, .val (.int pk), .val (.ref dd), .val (.int (aft dd asc qa qb)), .val (.int (aft dd asc qb qa)), .val (.int (1 : Int32)), .unset, .unset, .unset, .unset, .unset, .unset, .unset] [(.int (aft dsc asc qa qb))])) _
    refine st21 _ ?_
    show Steps p.tables e below (T21.setTop (mkF m 85 #[.val (.long qa), .second, .val (.long qb), .second, .val (.long qc), .second, .val (.int pk), .val (.ref dd), .val (.int (aft dd asc qa qb)), .val (.int (aft dd asc qb qa)), .val (.int (1 : Int32)), .unset, .unset, .unset, .unset, .unset, .unset, .unset] [(.ref asc), (.int (aft dsc asc qa qb))])) _
    refine XS.lloadN X21.here hx rfl (hb hby at_85) rfl ?_
    show Steps p.tables e below (T21.setTop (mkF m 86 #[.val (.long qa), .second, .val (.long qb), .second, .val (.long qc), .second, .val (.int pk), .val (.ref dd), .val (.int (aft dd asc qa qb)), .val (.int (aft dd asc qb qa)), .val (.int (1 : Int32)), .unset, .unset, .unset, .unset, .unset, .unset, .unset] [(.long qb), (.ref asc), (.int (aft dsc asc qa qb))])) _
    refine XS.lloadN X21.here hx rfl (hb hby at_86) rfl ?_
    show Steps p.tables e below (T21.setTop (mkF m 87 #[.val (.long qa), .second, .val (.long qb), .second, .val (.long qc), .second, .val (.int pk), .val (.ref dd), .val (.int (aft dd asc qa qb)), .val (.int (aft dd asc qb qa)), .val (.int (1 : Int32)), .unset, .unset, .unset, .unset, .unset, .unset, .unset] [(.long qa), (.long qb), (.ref asc), (.int (aft dsc asc qa qb))])) _
    refine st22.trans ?_
    show Steps p.tables e below (T22.setTop (mkF m 90 #[.val (.long qa), .second, .val (.long qb), .second, .val (.long qc), .second, .val (.int pk), .val (.ref dd), .val (.int (aft dd asc qa qb)), .val (.int (aft dd asc qb qa)), .val (.int (1 : Int32)), .unset, .unset, .unset, .unset, .unset, .unset, .unset] [(.int (aft asc asc qb qa)), (.int (aft dsc asc qa qb))])) _
    refine XS.icmpNo X22.here hx rfl (hb hby at_90) rfl (teq (own_conv dne)).2 ?_
    show Steps p.tables e below (T22.setTop (mkF m 93 #[.val (.long qa), .second, .val (.long qb), .second, .val (.long qc), .second, .val (.int pk), .val (.ref dd), .val (.int (aft dd asc qa qb)), .val (.int (aft dd asc qb qa)), .val (.int (1 : Int32)), .unset, .unset, .unset, .unset, .unset, .unset, .unset] [])) _
    refine XS.iconst X22.here hx rfl (hb hby at_93) ?_
    show Steps p.tables e below (T22.setTop (mkF m 94 #[.val (.long qa), .second, .val (.long qb), .second, .val (.long qc), .second, .val (.int pk), .val (.ref dd), .val (.int (aft dd asc qa qb)), .val (.int (aft dd asc qb qa)), .val (.int (1 : Int32)), .unset, .unset, .unset, .unset, .unset, .unset, .unset] [(.int (1 : Int32))])) _
    refine XS.goto X22.here hx rfl (pc0 := 94) (pc' := 98) rfl (hb hby at_94) (by decide) (by decide) ?_
    show Steps p.tables e below (T22.setTop (mkF m 98 #[.val (.long qa), .second, .val (.long qb), .second, .val (.long qc), .second, .val (.int pk), .val (.ref dd), .val (.int (aft dd asc qa qb)), .val (.int (aft dd asc qb qa)), .val (.int (1 : Int32)), .unset, .unset, .unset, .unset, .unset, .unset, .unset] [(.int (1 : Int32))])) _
    refine XS.istore X22.here hx rfl (hb hby at_98) rfl (l' := #[.val (.long qa), .second, .val (.long qb), .second, .val (.long qc), .second, .val (.int pk), .val (.ref dd), .val (.int (aft dd asc qa qb)), .val (.int (aft dd asc qb qa)), .val (.int (1 : Int32)), .val (.int (1 : Int32)), .unset, .unset, .unset, .unset, .unset, .unset]) rfl ?_
    show Steps p.tables e below (T22.setTop (mkF m 100 #[.val (.long qa), .second, .val (.long qb), .second, .val (.long qc), .second, .val (.int pk), .val (.ref dd), .val (.int (aft dd asc qa qb)), .val (.int (aft dd asc qb qa)), .val (.int (1 : Int32)), .val (.int (1 : Int32)), .unset, .unset, .unset, .unset, .unset, .unset] [])) _
    refine st23 _ ?_
    show Steps p.tables e below (T23.setTop (mkF m 103 #[.val (.long qa), .second, .val (.long qb), .second, .val (.long qc), .second, .val (.int pk), .val (.ref dd), .val (.int (aft dd asc qa qb)), .val (.int (aft dd asc qb qa)), .val (.int (1 : Int32)), .val (.int (1 : Int32)), .unset, .unset, .unset, .unset, .unset, .unset] [(.ref asc)])) _
    refine XS.lloadN X23.here hx rfl (hb hby at_103) rfl ?_
    show Steps p.tables e below (T23.setTop (mkF m 104 #[.val (.long qa), .second, .val (.long qb), .second, .val (.long qc), .second, .val (.int pk), .val (.ref dd), .val (.int (aft dd asc qa qb)), .val (.int (aft dd asc qb qa)), .val (.int (1 : Int32)), .val (.int (1 : Int32)), .unset, .unset, .unset, .unset, .unset, .unset] [(.long qa), (.ref asc)])) _
    refine XS.lloadN X23.here hx rfl (hb hby at_104) rfl ?_
    show Steps p.tables e below (T23.setTop (mkF m 105 #[.val (.long qa), .second, .val (.long qb), .second, .val (.long qc), .second, .val (.int pk), .val (.ref dd), .val (.int (aft dd asc qa qb)), .val (.int (aft dd asc qb qa)), .val (.int (1 : Int32)), .val (.int (1 : Int32)), .unset, .unset, .unset, .unset, .unset, .unset] [(.long qb), (.long qa), (.ref asc)])) _
    refine st24.trans ?_
    show Steps p.tables e below (T24.setTop (mkF m 108 #[.val (.long qa), .second, .val (.long qb), .second, .val (.long qc), .second, .val (.int pk), .val (.ref dd), .val (.int (aft dd asc qa qb)), .val (.int (aft dd asc qb qa)), .val (.int (1 : Int32)), .val (.int (1 : Int32)), .unset, .unset, .unset, .unset, .unset, .unset] [(.int (aft asc asc qa qb))])) _
    refine XS.lloadN X24.here hx rfl (hb hby at_108) rfl ?_
    show Steps p.tables e below (T24.setTop (mkF m 109 #[.val (.long qa), .second, .val (.long qb), .second, .val (.long qc), .second, .val (.int pk), .val (.ref dd), .val (.int (aft dd asc qa qb)), .val (.int (aft dd asc qb qa)), .val (.int (1 : Int32)), .val (.int (1 : Int32)), .unset, .unset, .unset, .unset, .unset, .unset] [(.long qa), (.int (aft asc asc qa qb))])) _
    refine XS.lloadN X24.here hx rfl (hb hby at_109) rfl ?_
    show Steps p.tables e below (T24.setTop (mkF m 110 #[.val (.long qa), .second, .val (.long qb), .second, .val (.long qc), .second, .val (.int pk), .val (.ref dd), .val (.int (aft dd asc qa qb)), .val (.int (aft dd asc qb qa)), .val (.int (1 : Int32)), .val (.int (1 : Int32)), .unset, .unset, .unset, .unset, .unset, .unset] [(.long qb), (.long qa), (.int (aft asc asc qa qb))])) _
    refine XS.lcmp X24.here hx rfl (hb hby at_110) rfl ?_
    show Steps p.tables e below (T24.setTop (mkF m 111 #[.val (.long qa), .second, .val (.long qb), .second, .val (.long qc), .second, .val (.int pk), .val (.ref dd), .val (.int (aft dd asc qa qb)), .val (.int (aft dd asc qb qa)), .val (.int (1 : Int32)), .val (.int (1 : Int32)), .unset, .unset, .unset, .unset, .unset, .unset] [(.int (lcmpW qa qb)), (.int (aft asc asc qa qb))])) _
    exact k
  have preB : Lead p e below (T24.setTop (mkF m 129 #[.val (.long qa), .second, .val (.long qb), .second, .val (.long qc), .second, .val (.int pk), .val (.ref dd), .val (.int (aft dd asc qa qb)), .val (.int (aft dd asc qb qa)), .val (.int (1 : Int32)), .val (.int (1 : Int32)), .val (.int (1 : Int32)), .unset, .unset, .unset, .unset, .unset] [])) (s₁.setTop (entryFrame m #[(.long qa), (.long qb), (.long qc), (.int pk)] maxLocals)) := by
    by_cases h111 : qb < qa
    · skip
      have pre26 : Lead p e below (T24.setTop (mkF m 129 #[.val (.long qa), .second, .val (.long qb), .second, .val (.long qc), .second, .val (.int pk), .val (.ref dd), .val (.int (aft dd asc qa qb)), .val (.int (aft dd asc qb qa)), .val (.int (1 : Int32)), .val (.int (1 : Int32)), .val (.int (1 : Int32)), .unset, .unset, .unset, .unset, .unset] [])) (s₁.setTop (entryFrame m #[(.long qa), (.long qb), (.long qc), (.int pk)] maxLocals)) := fun t k => by
        refine pre25 t ?_
        refine XS.ifNo X24.here hx rfl (hb hby at_111) rfl ((if0 _ _).trans (tlt ((own_lcg _ _).mpr h111)).2.2.2) ?_
        show Steps p.tables e below (T24.setTop (mkF m 114 #[.val (.long qa), .second, .val (.long qb), .second, .val (.long qc), .second, .val (.int pk), .val (.ref dd), .val (.int (aft dd asc qa qb)), .val (.int (aft dd asc qb qa)), .val (.int (1 : Int32)), .val (.int (1 : Int32)), .unset, .unset, .unset, .unset, .unset, .unset] [(.int (aft asc asc qa qb))])) _
        refine XS.iconst X24.here hx rfl (hb hby at_114) ?_
        show Steps p.tables e below (T24.setTop (mkF m 115 #[.val (.long qa), .second, .val (.long qb), .second, .val (.long qc), .second, .val (.int pk), .val (.ref dd), .val (.int (aft dd asc qa qb)), .val (.int (aft dd asc qb qa)), .val (.int (1 : Int32)), .val (.int (1 : Int32)), .unset, .unset, .unset, .unset, .unset, .unset] [(.int (1 : Int32)), (.int (aft asc asc qa qb))])) _
        refine XS.goto X24.here hx rfl (pc0 := 115) (pc' := 119) rfl (hb hby at_115) (by decide) (by decide) ?_
        show Steps p.tables e below (T24.setTop (mkF m 119 #[.val (.long qa), .second, .val (.long qb), .second, .val (.long qc), .second, .val (.int pk), .val (.ref dd), .val (.int (aft dd asc qa qb)), .val (.int (aft dd asc qb qa)), .val (.int (1 : Int32)), .val (.int (1 : Int32)), .unset, .unset, .unset, .unset, .unset, .unset] [(.int (1 : Int32)), (.int (aft asc asc qa qb))])) _
        refine XS.icmpNo X24.here hx rfl (hb hby at_119) rfl (teq (own_asc1 h111)).2 ?_
        show Steps p.tables e below (T24.setTop (mkF m 122 #[.val (.long qa), .second, .val (.long qb), .second, .val (.long qc), .second, .val (.int pk), .val (.ref dd), .val (.int (aft dd asc qa qb)), .val (.int (aft dd asc qb qa)), .val (.int (1 : Int32)), .val (.int (1 : Int32)), .unset, .unset, .unset, .unset, .unset, .unset] [])) _
        refine XS.iconst X24.here hx rfl (hb hby at_122) ?_
        show Steps p.tables e below (T24.setTop (mkF m 123 #[.val (.long qa), .second, .val (.long qb), .second, .val (.long qc), .second, .val (.int pk), .val (.ref dd), .val (.int (aft dd asc qa qb)), .val (.int (aft dd asc qb qa)), .val (.int (1 : Int32)), .val (.int (1 : Int32)), .unset, .unset, .unset, .unset, .unset, .unset] [(.int (1 : Int32))])) _
        refine XS.goto X24.here hx rfl (pc0 := 123) (pc' := 127) rfl (hb hby at_123) (by decide) (by decide) ?_
        show Steps p.tables e below (T24.setTop (mkF m 127 #[.val (.long qa), .second, .val (.long qb), .second, .val (.long qc), .second, .val (.int pk), .val (.ref dd), .val (.int (aft dd asc qa qb)), .val (.int (aft dd asc qb qa)), .val (.int (1 : Int32)), .val (.int (1 : Int32)), .unset, .unset, .unset, .unset, .unset, .unset] [(.int (1 : Int32))])) _
        refine XS.istore X24.here hx rfl (hb hby at_127) rfl (l' := #[.val (.long qa), .second, .val (.long qb), .second, .val (.long qc), .second, .val (.int pk), .val (.ref dd), .val (.int (aft dd asc qa qb)), .val (.int (aft dd asc qb qa)), .val (.int (1 : Int32)), .val (.int (1 : Int32)), .val (.int (1 : Int32)), .unset, .unset, .unset, .unset, .unset]) rfl ?_
        show Steps p.tables e below (T24.setTop (mkF m 129 #[.val (.long qa), .second, .val (.long qb), .second, .val (.long qc), .second, .val (.int pk), .val (.ref dd), .val (.int (aft dd asc qa qb)), .val (.int (aft dd asc qb qa)), .val (.int (1 : Int32)), .val (.int (1 : Int32)), .val (.int (1 : Int32)), .unset, .unset, .unset, .unset, .unset] [])) _
        exact k
      exact pre26
    · skip
      have pre27 : Lead p e below (T24.setTop (mkF m 129 #[.val (.long qa), .second, .val (.long qb), .second, .val (.long qc), .second, .val (.int pk), .val (.ref dd), .val (.int (aft dd asc qa qb)), .val (.int (aft dd asc qb qa)), .val (.int (1 : Int32)), .val (.int (1 : Int32)), .val (.int (1 : Int32)), .unset, .unset, .unset, .unset, .unset] [])) (s₁.setTop (entryFrame m #[(.long qa), (.long qb), (.long qc), (.int pk)] maxLocals)) := fun t k => by
        refine pre25 t ?_
        refine XS.ifYes X24.here hx rfl (pc0 := 111) (pc' := 118) rfl (hb hby at_111) rfl ((if0 _ _).trans (flt (fun q => h111 ((own_lcg _ _).mp q))).2.2.2) (by decide) (by decide) ?_
        show Steps p.tables e below (T24.setTop (mkF m 118 #[.val (.long qa), .second, .val (.long qb), .second, .val (.long qc), .second, .val (.int pk), .val (.ref dd), .val (.int (aft dd asc qa qb)), .val (.int (aft dd asc qb qa)), .val (.int (1 : Int32)), .val (.int (1 : Int32)), .unset, .unset, .unset, .unset, .unset, .unset] [(.int (aft asc asc qa qb))])) _
        refine XS.iconst X24.here hx rfl (hb hby at_118) ?_
        show Steps p.tables e below (T24.setTop (mkF m 119 #[.val (.long qa), .second, .val (.long qb), .second, .val (.long qc), .second, .val (.int pk), .val (.ref dd), .val (.int (aft dd asc qa qb)), .val (.int (aft dd asc qb qa)), .val (.int (1 : Int32)), .val (.int (1 : Int32)), .unset, .unset, .unset, .unset, .unset, .unset] [(.int (0 : Int32)), (.int (aft asc asc qa qb))])) _
        refine XS.icmpNo X24.here hx rfl (hb hby at_119) rfl (teq (own_asc0 h111)).2 ?_
        show Steps p.tables e below (T24.setTop (mkF m 122 #[.val (.long qa), .second, .val (.long qb), .second, .val (.long qc), .second, .val (.int pk), .val (.ref dd), .val (.int (aft dd asc qa qb)), .val (.int (aft dd asc qb qa)), .val (.int (1 : Int32)), .val (.int (1 : Int32)), .unset, .unset, .unset, .unset, .unset, .unset] [])) _
        refine XS.iconst X24.here hx rfl (hb hby at_122) ?_
        show Steps p.tables e below (T24.setTop (mkF m 123 #[.val (.long qa), .second, .val (.long qb), .second, .val (.long qc), .second, .val (.int pk), .val (.ref dd), .val (.int (aft dd asc qa qb)), .val (.int (aft dd asc qb qa)), .val (.int (1 : Int32)), .val (.int (1 : Int32)), .unset, .unset, .unset, .unset, .unset, .unset] [(.int (1 : Int32))])) _
        refine XS.goto X24.here hx rfl (pc0 := 123) (pc' := 127) rfl (hb hby at_123) (by decide) (by decide) ?_
        show Steps p.tables e below (T24.setTop (mkF m 127 #[.val (.long qa), .second, .val (.long qb), .second, .val (.long qc), .second, .val (.int pk), .val (.ref dd), .val (.int (aft dd asc qa qb)), .val (.int (aft dd asc qb qa)), .val (.int (1 : Int32)), .val (.int (1 : Int32)), .unset, .unset, .unset, .unset, .unset, .unset] [(.int (1 : Int32))])) _
        refine XS.istore X24.here hx rfl (hb hby at_127) rfl (l' := #[.val (.long qa), .second, .val (.long qb), .second, .val (.long qc), .second, .val (.int pk), .val (.ref dd), .val (.int (aft dd asc qa qb)), .val (.int (aft dd asc qb qa)), .val (.int (1 : Int32)), .val (.int (1 : Int32)), .val (.int (1 : Int32)), .unset, .unset, .unset, .unset, .unset]) rfl ?_
        show Steps p.tables e below (T24.setTop (mkF m 129 #[.val (.long qa), .second, .val (.long qb), .second, .val (.long qc), .second, .val (.int pk), .val (.ref dd), .val (.int (aft dd asc qa qb)), .val (.int (aft dd asc qb qa)), .val (.int (1 : Int32)), .val (.int (1 : Int32)), .val (.int (1 : Int32)), .unset, .unset, .unset, .unset, .unset] [])) _
        exact k
      exact pre27
  obtain ⟨cq28, kq28, q28a, q28b, q28c⟩ := isOf hZ e24 EJ
  obtain ⟨_, _, ⟨T28, L28, k28, n28⟩, -, X28, ⟨Lc28, hQ28, l28, y28, z28⟩, st28⟩ := X24.virtualBack hx (y := (⟨"com/example/wharfline/wharfline/woocommerce/ListWalk$Direction", "isAfter", "(JJ)Z"⟩ : MethodName)) (z := (⟨"com/example/wharfline/wharfline/woocommerce/ListWalk$Direction", "isAfter", "(JJ)Z"⟩ : MethodName)) hown (mvT hZ (hw _ (List.mem_of_getElem? (i := 3) rfl))) (mvT hZ (hw _ (List.mem_of_getElem? (i := 4) rfl))) (notFace_of_selects (args := #[]) (mvT hZ (hw _ (List.mem_of_getElem? (i := 6) rfl)))) (mvT hZ (hw _ (List.mem_of_getElem? (i := 6) rfl))) (mvT hZ (hw _ (List.mem_of_getElem? (i := 5) rfl))) (by decide) (backOf (W := 0) (rm1 l Z a0 hw [] dd asc qb qc h0 n0 Z0 S_ASCENDING) hZ (hw _ (List.mem_of_getElem? (i := 7) rfl)) (hw _ (List.mem_of_getElem? (i := 1) rfl)) (by decide) (by decide)) q28a q28c (g := (mkF m 134 #[.val (.long qa), .second, .val (.long qb), .second, .val (.long qc), .second, .val (.int pk), .val (.ref dd), .val (.int (aft dd asc qa qb)), .val (.int (aft dd asc qb qa)), .val (.int (1 : Int32)), .val (.int (1 : Int32)), .val (.int (1 : Int32)), .unset, .unset, .unset, .unset, .unset] [(.long qc), (.long qb), (.ref dd)])) rfl (by rw [hml]; rfl) (Steps.refl _) (argsL := [(.long qb), (.long qc)]) (rest := []) (lenOf pd_1 rfl) rfl (by show 2 * 0 + _ ≤ _; exact Nat.le_of_eq rfl) (hb hby at_134) (fun _ _ => ⟨rfl, e24, (by decide : 0 + 0 ≤ _), (by decide : 0 + 0 ≤ _)⟩)
  dsimp only [Pt.U, Pt.locs, Pt.cells, Pt.slots] at X28 l28 y28 z28 st28 hQ28
  subst l28 y28 z28
  obtain ⟨rfl, N28q, e28⟩ := hQ28
  have N28 := Fr.app N24 N28q
  obtain ⟨cq29, kq29, q29a, q29b, q29c⟩ := isOf hZ e28 EJ
  obtain ⟨_, _, ⟨T29, L29, k29, n29⟩, -, X29, ⟨Lc29, hQ29, l29, y29, z29⟩, st29⟩ := X28.virtualBack hx (y := (⟨"com/example/wharfline/wharfline/woocommerce/ListWalk$Direction", "isAfter", "(JJ)Z"⟩ : MethodName)) (z := (⟨"com/example/wharfline/wharfline/woocommerce/ListWalk$Direction", "isAfter", "(JJ)Z"⟩ : MethodName)) hown (mvT hZ (hw _ (List.mem_of_getElem? (i := 3) rfl))) (mvT hZ (hw _ (List.mem_of_getElem? (i := 4) rfl))) (notFace_of_selects (args := #[]) (mvT hZ (hw _ (List.mem_of_getElem? (i := 6) rfl)))) (mvT hZ (hw _ (List.mem_of_getElem? (i := 6) rfl))) (mvT hZ (hw _ (List.mem_of_getElem? (i := 5) rfl))) (by decide) (backOf (W := 0) (rm1 l Z a0 hw [] dd asc qa qc h0 n0 Z0 S_ASCENDING) hZ (hw _ (List.mem_of_getElem? (i := 7) rfl)) (hw _ (List.mem_of_getElem? (i := 1) rfl)) (by decide) (by decide)) q29a q29c (g := (mkF m 144 #[.val (.long qa), .second, .val (.long qb), .second, .val (.long qc), .second, .val (.int pk), .val (.ref dd), .val (.int (aft dd asc qa qb)), .val (.int (aft dd asc qb qa)), .val (.int (1 : Int32)), .val (.int (1 : Int32)), .val (.int (1 : Int32)), .val (.int (aft dd asc qb qc)), .unset, .unset, .unset, .unset] [(.long qc), (.long qa), (.ref dd)])) rfl (by rw [hml]; rfl) (Steps.refl _) (argsL := [(.long qa), (.long qc)]) (rest := []) (lenOf pd_1 rfl) rfl (by show 2 * 0 + _ ≤ _; exact Nat.le_of_eq rfl) (hb hby at_144) (fun _ _ => ⟨rfl, e28, (by decide : 0 + 0 ≤ _), (by decide : 0 + 0 ≤ _)⟩)
  dsimp only [Pt.U, Pt.locs, Pt.cells, Pt.slots] at X29 l29 y29 z29 st29 hQ29
  subst l29 y29 z29
  obtain ⟨rfl, N29q, e29⟩ := hQ29
  have N29 := Fr.app N28 N29q
  have pre30 : Lead p e below (T29.setTop (mkF m 151 #[.val (.long qa), .second, .val (.long qb), .second, .val (.long qc), .second, .val (.int pk), .val (.ref dd), .val (.int (aft dd asc qa qb)), .val (.int (aft dd asc qb qa)), .val (.int (1 : Int32)), .val (.int (1 : Int32)), .val (.int (1 : Int32)), .val (.int (aft dd asc qb qc)), .val (.int (aft dd asc qa qc)), .unset, .unset, .unset] [(.int (aft dd asc qa qb))])) (s₁.setTop (entryFrame m #[(.long qa), (.long qb), (.long qc), (.int pk)] maxLocals)) := fun t k => by
    refine preB t ?_
    refine XS.aload X24.here hx rfl (hb hby at_129) rfl rfl ?_
    show Steps p.tables e below (T24.setTop (mkF m 131 #[.val (.long qa), .second, .val (.long qb), .second, .val (.long qc), .second, .val (.int pk), .val (.ref dd), .val (.int (aft dd asc qa qb)), .val (.int (aft dd asc qb qa)), .val (.int (1 : Int32)), .val (.int (1 : Int32)), .val (.int (1 : Int32)), .unset, .unset, .unset, .unset, .unset] [(.ref dd)])) _
    refine XS.lloadN X24.here hx rfl (hb hby at_131) rfl ?_
    show Steps p.tables e below (T24.setTop (mkF m 132 #[.val (.long qa), .second, .val (.long qb), .second, .val (.long qc), .second, .val (.int pk), .val (.ref dd), .val (.int (aft dd asc qa qb)), .val (.int (aft dd asc qb qa)), .val (.int (1 : Int32)), .val (.int (1 : Int32)), .val (.int (1 : Int32)), .unset, .unset, .unset, .unset, .unset] [(.long qb), (.ref dd)])) _
    refine XS.lload X24.here hx rfl (hb hby at_132) rfl ?_
    show Steps p.tables e below (T24.setTop (mkF m 134 #[.val (.long qa), .second, .val (.long qb), .second, .val (.long qc), .second, .val (.int pk), .val (.ref dd), .val (.int (aft dd asc qa qb)), .val (.int (aft dd asc qb qa)), .val (.int (1 : Int32)), .val (.int (1 : Int32)), .val (.int (1 : Int32)), .unset, .unset, .unset, .unset, .unset] [(.long qc), (.long qb), (.ref dd)])) _
    refine st28.trans ?_
    show Steps p.tables e below (T28.setTop (mkF m 137 #[.val (.long qa), .second, .val (.long qb), .second, .val (.long qc), .second, .val (.int pk), .val (.ref dd), .val (.int (aft dd asc qa qb)), .val (.int (aft dd asc qb qa)), .val (.int (1 : Int32)), .val (.int (1 : Int32)), .val (.int (1 : Int32)), .unset, .unset, .unset, .unset, .unset] [(.int (aft dd asc qb qc))])) _
    refine XS.istore X28.here hx rfl (hb hby at_137) rfl (l' := #[.val (.long qa), .second, .val (.long qb), .second, .val (.long qc), .second, .val (.int pk), .val (.ref dd), .val (.int (aft dd asc qa qb)), .val (.int (aft dd asc qb qa)), .val (.int (1 : Int32)), .val (.int (1 : Int32)), .val (.int (1 : Int32)), .val (.int (aft dd asc qb qc)), .unset, .unset, .unset, .unset]) rfl ?_
    show Steps p.tables e below (T28.setTop (mkF m 139 #[.val (.long qa), .second, .val (.long qb), .second, .val (.long qc), .second, .val (.int pk), .val (.ref dd), .val (.int (aft dd asc qa qb)), .val (.int (aft dd asc qb qa)), .val (.int (1 : Int32)), .val (.int (1 : Int32)), .val (.int (1 : Int32)), .val (.int (aft dd asc qb qc)), .unset, .unset, .unset, .unset] [])) _
    refine XS.aload X28.here hx rfl (hb hby at_139) rfl rfl ?_
    show Steps p.tables e below (T28.setTop (mkF m 141 #[.val (.long qa), .second, .val (.long qb), .second, .val (.long qc), .second, .val (.int pk), .val (.ref dd), .val (.int (aft dd asc qa qb)), .val (.int (aft dd asc qb qa)), .val (.int (1 : Int32)), .val (.int (1 : Int32)), .val (.int (1 : Int32)), .val (.int (aft dd asc qb qc)), .unset, .unset, .unset, .unset] [(.ref dd)])) _
    refine XS.lloadN X28.here hx rfl (hb hby at_141) rfl ?_
    show Steps p.tables e below (T28.setTop (mkF m 142 #[.val (.long qa), .second, .val (.long qb), .second, .val (.long qc), .second, .val (.int pk), .val (.ref dd), .val (.int (aft dd asc qa qb)), .val (.int (aft dd asc qb qa)), .val (.int (1 : Int32)), .val (.int (1 : Int32)), .val (.int (1 : Int32)), .val (.int (aft dd asc qb qc)), .unset, .unset, .unset, .unset] [(.long qa), (.ref dd)])) _
    refine XS.lload X28.here hx rfl (hb hby at_142) rfl ?_
    show Steps p.tables e below (T28.setTop (mkF m 144 #[.val (.long qa), .second, .val (.long qb), .second, .val (.long qc), .second, .val (.int pk), .val (.ref dd), .val (.int (aft dd asc qa qb)), .val (.int (aft dd asc qb qa)), .val (.int (1 : Int32)), .val (.int (1 : Int32)), .val (.int (1 : Int32)), .val (.int (aft dd asc qb qc)), .unset, .unset, .unset, .unset] [(.long qc), (.long qa), (.ref dd)])) _
    refine st29.trans ?_
    show Steps p.tables e below (T29.setTop (mkF m 147 #[.val (.long qa), .second, .val (.long qb), .second, .val (.long qc), .second, .val (.int pk), .val (.ref dd), .val (.int (aft dd asc qa qb)), .val (.int (aft dd asc qb qa)), .val (.int (1 : Int32)), .val (.int (1 : Int32)), .val (.int (1 : Int32)), .val (.int (aft dd asc qb qc)), .unset, .unset, .unset, .unset] [(.int (aft dd asc qa qc))])) _
    refine XS.istore X29.here hx rfl (hb hby at_147) rfl (l' := #[.val (.long qa), .second, .val (.long qb), .second, .val (.long qc), .second, .val (.int pk), .val (.ref dd), .val (.int (aft dd asc qa qb)), .val (.int (aft dd asc qb qa)), .val (.int (1 : Int32)), .val (.int (1 : Int32)), .val (.int (1 : Int32)), .val (.int (aft dd asc qb qc)), .val (.int (aft dd asc qa qc)), .unset, .unset, .unset]) rfl ?_
    show Steps p.tables e below (T29.setTop (mkF m 149 #[.val (.long qa), .second, .val (.long qb), .second, .val (.long qc), .second, .val (.int pk), .val (.ref dd), .val (.int (aft dd asc qa qb)), .val (.int (aft dd asc qb qa)), .val (.int (1 : Int32)), .val (.int (1 : Int32)), .val (.int (1 : Int32)), .val (.int (aft dd asc qb qc)), .val (.int (aft dd asc qa qc)), .unset, .unset, .unset] [])) _
    refine XS.iload X29.here hx rfl (hb hby at_149) rfl ?_
    show Steps p.tables e below (T29.setTop (mkF m 151 #[.val (.long qa), .second, .val (.long qb), .second, .val (.long qc), .second, .val (.int pk), .val (.ref dd), .val (.int (aft dd asc qa qb)), .val (.int (aft dd asc qb qa)), .val (.int (1 : Int32)), .val (.int (1 : Int32)), .val (.int (1 : Int32)), .val (.int (aft dd asc qb qc)), .val (.int (aft dd asc qa qc)), .unset, .unset, .unset] [(.int (aft dd asc qa qb))])) _
    exact k
  have preC : Lead p e below (T29.setTop (mkF m 171 #[.val (.long qa), .second, .val (.long qb), .second, .val (.long qc), .second, .val (.int pk), .val (.ref dd), .val (.int (aft dd asc qa qb)), .val (.int (aft dd asc qb qa)), .val (.int (1 : Int32)), .val (.int (1 : Int32)), .val (.int (1 : Int32)), .val (.int (aft dd asc qb qc)), .val (.int (aft dd asc qa qc)), .val (.int (1 : Int32)), .unset, .unset] [])) (s₁.setTop (entryFrame m #[(.long qa), (.long qb), (.long qc), (.int pk)] maxLocals)) := by
    by_cases h151 : (aft dd asc qa qb) = (0 : Int32)
    · skip
      have pre31 : Lead p e below (T29.setTop (mkF m 171 #[.val (.long qa), .second, .val (.long qb), .second, .val (.long qc), .second, .val (.int pk), .val (.ref dd), .val (.int (aft dd asc qa qb)), .val (.int (aft dd asc qb qa)), .val (.int (1 : Int32)), .val (.int (1 : Int32)), .val (.int (1 : Int32)), .val (.int (aft dd asc qb qc)), .val (.int (aft dd asc qa qc)), .val (.int (1 : Int32)), .unset, .unset] [])) (s₁.setTop (entryFrame m #[(.long qa), (.long qb), (.long qc), (.int pk)] maxLocals)) := fun t k => by
        refine pre30 t ?_
        refine XS.ifYes X29.here hx rfl (pc0 := 151) (pc' := 164) rfl (hb hby at_151) rfl ((if0 _ _).trans (teq h151).1) (by decide) (by decide) ?_
        show Steps p.tables e below (T29.setTop (mkF m 164 #[.val (.long qa), .second, .val (.long qb), .second, .val (.long qc), .second, .val (.int pk), .val (.ref dd), .val (.int (aft dd asc qa qb)), .val (.int (aft dd asc qb qa)), .val (.int (1 : Int32)), .val (.int (1 : Int32)), .val (.int (1 : Int32)), .val (.int (aft dd asc qb qc)), .val (.int (aft dd asc qa qc)), .unset, .unset, .unset] [])) _
        refine XS.iconst X29.here hx rfl (hb hby at_164) ?_
        show Steps p.tables e below (T29.setTop (mkF m 165 #[.val (.long qa), .second, .val (.long qb), .second, .val (.long qc), .second, .val (.int pk), .val (.ref dd), .val (.int (aft dd asc qa qb)), .val (.int (aft dd asc qb qa)), .val (.int (1 : Int32)), .val (.int (1 : Int32)), .val (.int (1 : Int32)), .val (.int (aft dd asc qb qc)), .val (.int (aft dd asc qa qc)), .unset, .unset, .unset] [(.int (1 : Int32))])) _
        refine XS.goto X29.here hx rfl (pc0 := 165) (pc' := 169) rfl (hb hby at_165) (by decide) (by decide) ?_
        show Steps p.tables e below (T29.setTop (mkF m 169 #[.val (.long qa), .second, .val (.long qb), .second, .val (.long qc), .second, .val (.int pk), .val (.ref dd), .val (.int (aft dd asc qa qb)), .val (.int (aft dd asc qb qa)), .val (.int (1 : Int32)), .val (.int (1 : Int32)), .val (.int (1 : Int32)), .val (.int (aft dd asc qb qc)), .val (.int (aft dd asc qa qc)), .unset, .unset, .unset] [(.int (1 : Int32))])) _
        refine XS.istore X29.here hx rfl (hb hby at_169) rfl (l' := #[.val (.long qa), .second, .val (.long qb), .second, .val (.long qc), .second, .val (.int pk), .val (.ref dd), .val (.int (aft dd asc qa qb)), .val (.int (aft dd asc qb qa)), .val (.int (1 : Int32)), .val (.int (1 : Int32)), .val (.int (1 : Int32)), .val (.int (aft dd asc qb qc)), .val (.int (aft dd asc qa qc)), .val (.int (1 : Int32)), .unset, .unset]) rfl ?_
        show Steps p.tables e below (T29.setTop (mkF m 171 #[.val (.long qa), .second, .val (.long qb), .second, .val (.long qc), .second, .val (.int pk), .val (.ref dd), .val (.int (aft dd asc qa qb)), .val (.int (aft dd asc qb qa)), .val (.int (1 : Int32)), .val (.int (1 : Int32)), .val (.int (1 : Int32)), .val (.int (aft dd asc qb qc)), .val (.int (aft dd asc qa qc)), .val (.int (1 : Int32)), .unset, .unset] [])) _
        exact k
      exact pre31
    · skip
      have pre32 : Lead p e below (T29.setTop (mkF m 156 #[.val (.long qa), .second, .val (.long qb), .second, .val (.long qc), .second, .val (.int pk), .val (.ref dd), .val (.int (aft dd asc qa qb)), .val (.int (aft dd asc qb qa)), .val (.int (1 : Int32)), .val (.int (1 : Int32)), .val (.int (1 : Int32)), .val (.int (aft dd asc qb qc)), .val (.int (aft dd asc qa qc)), .unset, .unset, .unset] [(.int (aft dd asc qb qc))])) (s₁.setTop (entryFrame m #[(.long qa), (.long qb), (.long qc), (.int pk)] maxLocals)) := fun t k => by
        refine pre30 t ?_
        refine XS.ifNo X29.here hx rfl (hb hby at_151) rfl ((if0 _ _).trans (feq h151).1) ?_
        show Steps p.tables e below (T29.setTop (mkF m 154 #[.val (.long qa), .second, .val (.long qb), .second, .val (.long qc), .second, .val (.int pk), .val (.ref dd), .val (.int (aft dd asc qa qb)), .val (.int (aft dd asc qb qa)), .val (.int (1 : Int32)), .val (.int (1 : Int32)), .val (.int (1 : Int32)), .val (.int (aft dd asc qb qc)), .val (.int (aft dd asc qa qc)), .unset, .unset, .unset] [])) _
        refine XS.iload X29.here hx rfl (hb hby at_154) rfl ?_
        show Steps p.tables e below (T29.setTop (mkF m 156 #[.val (.long qa), .second, .val (.long qb), .second, .val (.long qc), .second, .val (.int pk), .val (.ref dd), .val (.int (aft dd asc qa qb)), .val (.int (aft dd asc qb qa)), .val (.int (1 : Int32)), .val (.int (1 : Int32)), .val (.int (1 : Int32)), .val (.int (aft dd asc qb qc)), .val (.int (aft dd asc qa qc)), .unset, .unset, .unset] [(.int (aft dd asc qb qc))])) _
        exact k
      by_cases h156 : (aft dd asc qb qc) = (0 : Int32)
      · skip
        have pre33 : Lead p e below (T29.setTop (mkF m 171 #[.val (.long qa), .second, .val (.long qb), .second, .val (.long qc), .second, .val (.int pk), .val (.ref dd), .val (.int (aft dd asc qa qb)), .val (.int (aft dd asc qb qa)), .val (.int (1 : Int32)), .val (.int (1 : Int32)), .val (.int (1 : Int32)), .val (.int (aft dd asc qb qc)), .val (.int (aft dd asc qa qc)), .val (.int (1 : Int32)), .unset, .unset] [])) (s₁.setTop (entryFrame m #[(.long qa), (.long qb), (.long qc), (.int pk)] maxLocals)) := fun t k => by
          refine pre32 t ?_
          refine XS.ifYes X29.here hx rfl (pc0 := 156) (pc' := 164) rfl (hb hby at_156) rfl ((if0 _ _).trans (teq h156).1) (by decide) (by decide) ?_
          show Steps p.tables e below (T29.setTop (mkF m 164 #[.val (.long qa), .second, .val (.long qb), .second, .val (.long qc), .second, .val (.int pk), .val (.ref dd), .val (.int (aft dd asc qa qb)), .val (.int (aft dd asc qb qa)), .val (.int (1 : Int32)), .val (.int (1 : Int32)), .val (.int (1 : Int32)), .val (.int (aft dd asc qb qc)), .val (.int (aft dd asc qa qc)), .unset, .unset, .unset] [])) _
          refine XS.iconst X29.here hx rfl (hb hby at_164) ?_
          show Steps p.tables e below (T29.setTop (mkF m 165 #[.val (.long qa), .second, .val (.long qb), .second, .val (.long qc), .second, .val (.int pk), .val (.ref dd), .val (.int (aft dd asc qa qb)), .val (.int (aft dd asc qb qa)), .val (.int (1 : Int32)), .val (.int (1 : Int32)), .val (.int (1 : Int32)), .val (.int (aft dd asc qb qc)), .val (.int (aft dd asc qa qc)), .unset, .unset, .unset] [(.int (1 : Int32))])) _
          refine XS.goto X29.here hx rfl (pc0 := 165) (pc' := 169) rfl (hb hby at_165) (by decide) (by decide) ?_
          show Steps p.tables e below (T29.setTop (mkF m 169 #[.val (.long qa), .second, .val (.long qb), .second, .val (.long qc), .second, .val (.int pk), .val (.ref dd), .val (.int (aft dd asc qa qb)), .val (.int (aft dd asc qb qa)), .val (.int (1 : Int32)), .val (.int (1 : Int32)), .val (.int (1 : Int32)), .val (.int (aft dd asc qb qc)), .val (.int (aft dd asc qa qc)), .unset, .unset, .unset] [(.int (1 : Int32))])) _
          refine XS.istore X29.here hx rfl (hb hby at_169) rfl (l' := #[.val (.long qa), .second, .val (.long qb), .second, .val (.long qc), .second, .val (.int pk), .val (.ref dd), .val (.int (aft dd asc qa qb)), .val (.int (aft dd asc qb qa)), .val (.int (1 : Int32)), .val (.int (1 : Int32)), .val (.int (1 : Int32)), .val (.int (aft dd asc qb qc)), .val (.int (aft dd asc qa qc)), .val (.int (1 : Int32)), .unset, .unset]) rfl ?_
          show Steps p.tables e below (T29.setTop (mkF m 171 #[.val (.long qa), .second, .val (.long qb), .second, .val (.long qc), .second, .val (.int pk), .val (.ref dd), .val (.int (aft dd asc qa qb)), .val (.int (aft dd asc qb qa)), .val (.int (1 : Int32)), .val (.int (1 : Int32)), .val (.int (1 : Int32)), .val (.int (aft dd asc qb qc)), .val (.int (aft dd asc qa qc)), .val (.int (1 : Int32)), .unset, .unset] [])) _
          exact k
        exact pre33
      · skip
        have pre34 : Lead p e below (T29.setTop (mkF m 171 #[.val (.long qa), .second, .val (.long qb), .second, .val (.long qc), .second, .val (.int pk), .val (.ref dd), .val (.int (aft dd asc qa qb)), .val (.int (aft dd asc qb qa)), .val (.int (1 : Int32)), .val (.int (1 : Int32)), .val (.int (1 : Int32)), .val (.int (aft dd asc qb qc)), .val (.int (aft dd asc qa qc)), .val (.int (1 : Int32)), .unset, .unset] [])) (s₁.setTop (entryFrame m #[(.long qa), (.long qb), (.long qc), (.int pk)] maxLocals)) := fun t k => by
          refine pre32 t ?_
          refine XS.ifNo X29.here hx rfl (hb hby at_156) rfl ((if0 _ _).trans (feq h156).1) ?_
          show Steps p.tables e below (T29.setTop (mkF m 159 #[.val (.long qa), .second, .val (.long qb), .second, .val (.long qc), .second, .val (.int pk), .val (.ref dd), .val (.int (aft dd asc qa qb)), .val (.int (aft dd asc qb qa)), .val (.int (1 : Int32)), .val (.int (1 : Int32)), .val (.int (1 : Int32)), .val (.int (aft dd asc qb qc)), .val (.int (aft dd asc qa qc)), .unset, .unset, .unset] [])) _
          refine XS.iload X29.here hx rfl (hb hby at_159) rfl ?_
          show Steps p.tables e below (T29.setTop (mkF m 161 #[.val (.long qa), .second, .val (.long qb), .second, .val (.long qc), .second, .val (.int pk), .val (.ref dd), .val (.int (aft dd asc qa qb)), .val (.int (aft dd asc qb qa)), .val (.int (1 : Int32)), .val (.int (1 : Int32)), .val (.int (1 : Int32)), .val (.int (aft dd asc qb qc)), .val (.int (aft dd asc qa qc)), .unset, .unset, .unset] [(.int (aft dd asc qa qc))])) _
          refine XS.ifNo X29.here hx rfl (hb hby at_161) rfl ((if0 _ _).trans (feq (own_trans h151 h156)).1) ?_
          show Steps p.tables e below (T29.setTop (mkF m 164 #[.val (.long qa), .second, .val (.long qb), .second, .val (.long qc), .second, .val (.int pk), .val (.ref dd), .val (.int (aft dd asc qa qb)), .val (.int (aft dd asc qb qa)), .val (.int (1 : Int32)), .val (.int (1 : Int32)), .val (.int (1 : Int32)), .val (.int (aft dd asc qb qc)), .val (.int (aft dd asc qa qc)), .unset, .unset, .unset] [])) _
          refine XS.iconst X29.here hx rfl (hb hby at_164) ?_
          show Steps p.tables e below (T29.setTop (mkF m 165 #[.val (.long qa), .second, .val (.long qb), .second, .val (.long qc), .second, .val (.int pk), .val (.ref dd), .val (.int (aft dd asc qa qb)), .val (.int (aft dd asc qb qa)), .val (.int (1 : Int32)), .val (.int (1 : Int32)), .val (.int (1 : Int32)), .val (.int (aft dd asc qb qc)), .val (.int (aft dd asc qa qc)), .unset, .unset, .unset] [(.int (1 : Int32))])) _
          refine XS.goto X29.here hx rfl (pc0 := 165) (pc' := 169) rfl (hb hby at_165) (by decide) (by decide) ?_
          show Steps p.tables e below (T29.setTop (mkF m 169 #[.val (.long qa), .second, .val (.long qb), .second, .val (.long qc), .second, .val (.int pk), .val (.ref dd), .val (.int (aft dd asc qa qb)), .val (.int (aft dd asc qb qa)), .val (.int (1 : Int32)), .val (.int (1 : Int32)), .val (.int (1 : Int32)), .val (.int (aft dd asc qb qc)), .val (.int (aft dd asc qa qc)), .unset, .unset, .unset] [(.int (1 : Int32))])) _
          refine XS.istore X29.here hx rfl (hb hby at_169) rfl (l' := #[.val (.long qa), .second, .val (.long qb), .second, .val (.long qc), .second, .val (.int pk), .val (.ref dd), .val (.int (aft dd asc qa qb)), .val (.int (aft dd asc qb qa)), .val (.int (1 : Int32)), .val (.int (1 : Int32)), .val (.int (1 : Int32)), .val (.int (aft dd asc qb qc)), .val (.int (aft dd asc qa qc)), .val (.int (1 : Int32)), .unset, .unset]) rfl ?_
          show Steps p.tables e below (T29.setTop (mkF m 171 #[.val (.long qa), .second, .val (.long qb), .second, .val (.long qc), .second, .val (.int pk), .val (.ref dd), .val (.int (aft dd asc qa qb)), .val (.int (aft dd asc qb qa)), .val (.int (1 : Int32)), .val (.int (1 : Int32)), .val (.int (1 : Int32)), .val (.int (aft dd asc qb qc)), .val (.int (aft dd asc qa qc)), .val (.int (1 : Int32)), .unset, .unset] [])) _
          exact k
        exact pre34
  obtain ⟨T35, X35, e35, st35⟩ := getS2 X29 hx hZ hown (host := "") (Or.inl (hw _ (List.mem_of_getElem? (i := 0) rfl))) Via.refl e29 S_ASCENDING (g := (mkF m 171 #[.val (.long qa), .second, .val (.long qb), .second, .val (.long qc), .second, .val (.int pk), .val (.ref dd), .val (.int (aft dd asc qa qb)), .val (.int (aft dd asc qb qa)), .val (.int (1 : Int32)), .val (.int (1 : Int32)), .val (.int (1 : Int32)), .val (.int (aft dd asc qb qc)), .val (.int (aft dd asc qa qc)), .val (.int (1 : Int32)), .unset, .unset] [])) rfl (hb hby at_171)
  obtain ⟨cq36, kq36, q36a, q36b, q36c⟩ := isOf hZ e35 Ea
  obtain ⟨_, _, ⟨T36, L36, k36, n36⟩, -, X36, ⟨Lc36, hQ36, l36, y36, z36⟩, st36⟩ := X35.virtualBack hx (y := (⟨"com/example/wharfline/wharfline/woocommerce/ListWalk$Direction", "isAfter", "(JJ)Z"⟩ : MethodName)) (z := (⟨"com/example/wharfline/wharfline/woocommerce/ListWalk$Direction", "isAfter", "(JJ)Z"⟩ : MethodName)) hown (mvT hZ (hw _ (List.mem_of_getElem? (i := 3) rfl))) (mvT hZ (hw _ (List.mem_of_getElem? (i := 4) rfl))) (notFace_of_selects (args := #[]) (mvT hZ (hw _ (List.mem_of_getElem? (i := 6) rfl)))) (mvT hZ (hw _ (List.mem_of_getElem? (i := 6) rfl))) (mvT hZ (hw _ (List.mem_of_getElem? (i := 5) rfl))) (by decide) (backOf (W := 0) (rm1 l Z a0 hw [] asc asc (-9223372036854775808 : Int64) qa h0 n0 Z0 S_ASCENDING) hZ (hw _ (List.mem_of_getElem? (i := 7) rfl)) (hw _ (List.mem_of_getElem? (i := 1) rfl)) (by decide) (by decide)) q36a q36c (g := (mkF m 178 #[.val (.long qa), .second, .val (.long qb), .second, .val (.long qc), .second, .val (.int pk), .val (.ref dd), .val (.int (aft dd asc qa qb)), .val (.int (aft dd asc qb qa)), .val (.int (1 : Int32)), .val (.int (1 : Int32)), .val (.int (1 : Int32)), .val (.int (aft dd asc qb qc)), .val (.int (aft dd asc qa qc)), .val (.int (1 : Int32)), .unset, .unset] [(.long qa), (.long (-9223372036854775808 : Int64)), (.ref asc)])) rfl (by rw [hml]; rfl) (Steps.refl _) (argsL := [(.long (-9223372036854775808 : Int64)), (.long qa)]) (rest := []) (lenOf pd_1 rfl) rfl (by show 2 * 0 + _ ≤ _; exact Nat.le_of_eq rfl) (hb hby at_178) (fun _ _ => ⟨rfl, e35, (by decide : 0 + 0 ≤ _), (by decide : 0 + 0 ≤ _)⟩)
  dsimp only [Pt.U, Pt.locs, Pt.cells, Pt.slots] at X36 l36 y36 z36 st36 hQ36
  subst l36 y36 z36
  obtain ⟨rfl, N36q, e36⟩ := hQ36
  have N36 := Fr.app N29 N36q
  obtain ⟨T37, X37, e37, st37⟩ := getS2 X36 hx hZ hown (host := "") (Or.inl (hw _ (List.mem_of_getElem? (i := 9) rfl))) Via.refl e36 S_DESCENDING (g := (mkF m 191 #[.val (.long qa), .second, .val (.long qb), .second, .val (.long qc), .second, .val (.int pk), .val (.ref dd), .val (.int (aft dd asc qa qb)), .val (.int (aft dd asc qb qa)), .val (.int (1 : Int32)), .val (.int (1 : Int32)), .val (.int (1 : Int32)), .val (.int (aft dd asc qb qc)), .val (.int (aft dd asc qa qc)), .val (.int (1 : Int32)), .val (.int (1 : Int32)), .unset] [])) rfl (hb hby at_191)
  obtain ⟨cq38, kq38, q38a, q38b, q38c⟩ := isOf hZ e37 Ed
  obtain ⟨_, _, ⟨T38, L38, k38, n38⟩, -, X38, ⟨Lc38, hQ38, l38, y38, z38⟩, st38⟩ := X37.virtualBack hx (y := (⟨"com/example/wharfline/wharfline/woocommerce/ListWalk$Direction", "isAfter", "(JJ)Z"⟩ : MethodName)) (z := (⟨"com/example/wharfline/wharfline/woocommerce/ListWalk$Direction", "isAfter", "(JJ)Z"⟩ : MethodName)) hown (mvT hZ (hw _ (List.mem_of_getElem? (i := 3) rfl))) (mvT hZ (hw _ (List.mem_of_getElem? (i := 4) rfl))) (notFace_of_selects (args := #[]) (mvT hZ (hw _ (List.mem_of_getElem? (i := 6) rfl)))) (mvT hZ (hw _ (List.mem_of_getElem? (i := 6) rfl))) (mvT hZ (hw _ (List.mem_of_getElem? (i := 5) rfl))) (by decide) (backOf (W := 0) (rm1 l Z a0 hw [] dsc asc (9223372036854775807 : Int64) qa h0 n0 Z0 S_ASCENDING) hZ (hw _ (List.mem_of_getElem? (i := 7) rfl)) (hw _ (List.mem_of_getElem? (i := 1) rfl)) (by decide) (by decide)) q38a q38c (g := (mkF m 198 #[.val (.long qa), .second, .val (.long qb), .second, .val (.long qc), .second, .val (.int pk), .val (.ref dd), .val (.int (aft dd asc qa qb)), .val (.int (aft dd asc qb qa)), .val (.int (1 : Int32)), .val (.int (1 : Int32)), .val (.int (1 : Int32)), .val (.int (aft dd asc qb qc)), .val (.int (aft dd asc qa qc)), .val (.int (1 : Int32)), .val (.int (1 : Int32)), .unset] [(.long qa), (.long (9223372036854775807 : Int64)), (.ref dsc)])) rfl (by rw [hml]; rfl) (Steps.refl _) (argsL := [(.long (9223372036854775807 : Int64)), (.long qa)]) (rest := []) (lenOf pd_1 rfl) rfl (by show 2 * 0 + _ ≤ _; exact Nat.le_of_eq rfl) (hb hby at_198) (fun _ _ => ⟨rfl, e37, (by decide : 0 + 0 ≤ _), (by decide : 0 + 0 ≤ _)⟩)
  dsimp only [Pt.U, Pt.locs, Pt.cells, Pt.slots] at X38 l38 y38 z38 st38 hQ38
  subst l38 y38 z38
  obtain ⟨rfl, N38q, e38⟩ := hQ38
  have N38 := Fr.app N36 N38q
  have pre39 : Lead p e below (T38.setTop (mkF m 246 #[.val (.long qa), .second, .val (.long qb), .second, .val (.long qc), .second, .val (.int pk), .val (.ref dd), .val (.int (aft dd asc qa qb)), .val (.int (aft dd asc qb qa)), .val (.int (1 : Int32)), .val (.int (1 : Int32)), .val (.int (1 : Int32)), .val (.int (aft dd asc qb qc)), .val (.int (aft dd asc qa qc)), .val (.int (1 : Int32)), .val (.int (1 : Int32)), .val (.int (1 : Int32))] [(.int (1 : Int32))])) (s₁.setTop (entryFrame m #[(.long qa), (.long qb), (.long qc), (.int pk)] maxLocals)) := fun t k => by
    refine preC t ?_
    refine st35 _ ?_
    show Steps p.tables e below (T35.setTop (mkF m 174 #[.val (.long qa), .second, .val (.long qb), .second, .val (.long qc), .second, .val (.int pk), .val (.ref dd), .val (.int (aft dd asc qa qb)), .val (.int (aft dd asc qb qa)), .val (.int (1 : Int32)), .val (.int (1 : Int32)), .val (.int (1 : Int32)), .val (.int (aft dd asc qb qc)), .val (.int (aft dd asc qa qc)), .val (.int (1 : Int32)), .unset, .unset] [(.ref asc)])) _
    refine X35.ldc2Long hx hown (mvT hZ (hw _ (List.mem_of_getElem? (i := 11) rfl))) (g := (mkF m 174 #[.val (.long qa), .second, .val (.long qb), .second, .val (.long qc), .second, .val (.int pk), .val (.ref dd), .val (.int (aft dd asc qa qb)), .val (.int (aft dd asc qb qa)), .val (.int (1 : Int32)), .val (.int (1 : Int32)), .val (.int (1 : Int32)), .val (.int (aft dd asc qb qc)), .val (.int (aft dd asc qa qc)), .val (.int (1 : Int32)), .unset, .unset] [(.ref asc)])) rfl (hb hby at_174) _ ?_
    show Steps p.tables e below (T35.setTop (mkF m 177 #[.val (.long qa), .second, .val (.long qb), .second, .val (.long qc), .second, .val (.int pk), .val (.ref dd), .val (.int (aft dd asc qa qb)), .val (.int (aft dd asc qb qa)), .val (.int (1 : Int32)), .val (.int (1 : Int32)), .val (.int (1 : Int32)), .val (.int (aft dd asc qb qc)), .val (.int (aft dd asc qa qc)), .val (.int (1 : Int32)), .unset, .unset] [(.long (-9223372036854775808 : Int64)), (.ref asc)])) _
    refine XS.lloadN X35.here hx rfl (hb hby at_177) rfl ?_
    show Steps p.tables e below (T35.setTop (mkF m 178 #[.val (.long qa), .second, .val (.long qb), .second, .val (.long qc), .second, .val (.int pk), .val (.ref dd), .val (.int (aft dd asc qa qb)), .val (.int (aft dd asc qb qa)), .val (.int (1 : Int32)), .val (.int (1 : Int32)), .val (.int (1 : Int32)), .val (.int (aft dd asc qb qc)), .val (.int (aft dd asc qa qc)), .val (.int (1 : Int32)), .unset, .unset] [(.long qa), (.long (-9223372036854775808 : Int64)), (.ref asc)])) _
    refine st36.trans ?_
    show Steps p.tables e below (T36.setTop (mkF m 181 #[.val (.long qa), .second, .val (.long qb), .second, .val (.long qc), .second, .val (.int pk), .val (.ref dd), .val (.int (aft dd asc qa qb)), .val (.int (aft dd asc qb qa)), .val (.int (1 : Int32)), .val (.int (1 : Int32)), .val (.int (1 : Int32)), .val (.int (aft dd asc qb qc)), .val (.int (aft dd asc qa qc)), .val (.int (1 : Int32)), .unset, .unset] [(.int (aft asc asc (-9223372036854775808 : Int64) qa))])) _
    refine XS.ifNo X36.here hx rfl (hb hby at_181) rfl ((if0 _ _).trans (teq own_min).2) ?_
    show Steps p.tables e below (T36.setTop (mkF m 184 #[.val (.long qa), .second, .val (.long qb), .second, .val (.long qc), .second, .val (.int pk), .val (.ref dd), .val (.int (aft dd asc qa qb)), .val (.int (aft dd asc qb qa)), .val (.int (1 : Int32)), .val (.int (1 : Int32)), .val (.int (1 : Int32)), .val (.int (aft dd asc qb qc)), .val (.int (aft dd asc qa qc)), .val (.int (1 : Int32)), .unset, .unset] [])) _
    refine XS.iconst X36.here hx rfl (hb hby at_184) ?_
    show Steps p.tables e below (T36.setTop (mkF m 185 #[.val (.long qa), .second, .val (.long qb), .second, .val (.long qc), .second, .val (.int pk), .val (.ref dd), .val (.int (aft dd asc qa qb)), .val (.int (aft dd asc qb qa)), .val (.int (1 : Int32)), .val (.int (1 : Int32)), .val (.int (1 : Int32)), .val (.int (aft dd asc qb qc)), .val (.int (aft dd asc qa qc)), .val (.int (1 : Int32)), .unset, .unset] [(.int (1 : Int32))])) _
    refine XS.goto X36.here hx rfl (pc0 := 185) (pc' := 189) rfl (hb hby at_185) (by decide) (by decide) ?_
    show Steps p.tables e below (T36.setTop (mkF m 189 #[.val (.long qa), .second, .val (.long qb), .second, .val (.long qc), .second, .val (.int pk), .val (.ref dd), .val (.int (aft dd asc qa qb)), .val (.int (aft dd asc qb qa)), .val (.int (1 : Int32)), .val (.int (1 : Int32)), .val (.int (1 : Int32)), .val (.int (aft dd asc qb qc)), .val (.int (aft dd asc qa qc)), .val (.int (1 : Int32)), .unset, .unset] [(.int (1 : Int32))])) _
    refine XS.istore X36.here hx rfl (hb hby at_189) rfl (l' := #[.val (.long qa), .second, .val (.long qb), .second, .val (.long qc), .second, .val (.int pk), .val (.ref dd), .val (.int (aft dd asc qa qb)), .val (.int (aft dd asc qb qa)), .val (.int (1 : Int32)), .val (.int (1 : Int32)), .val (.int (1 : Int32)), .val (.int (aft dd asc qb qc)), .val (.int (aft dd asc qa qc)), .val (.int (1 : Int32)), .val (.int (1 : Int32)), .unset]) rfl ?_
    show Steps p.tables e below (T36.setTop (mkF m 191 #[.val (.long qa), .second, .val (.long qb), .second, .val (.long qc), .second, .val (.int pk), .val (.ref dd), .val (.int (aft dd asc qa qb)), .val (.int (aft dd asc qb qa)), .val (.int (1 : Int32)), .val (.int (1 : Int32)), .val (.int (1 : Int32)), .val (.int (aft dd asc qb qc)), .val (.int (aft dd asc qa qc)), .val (.int (1 : Int32)), .val (.int (1 : Int32)), .unset] [])) _
    refine st37 _ ?_
    show Steps p.tables e below (T37.setTop (mkF m 194 #[.val (.long qa), .second, .val (.long qb), .second, .val (.long qc), .second, .val (.int pk), .val (.ref dd), .val (.int (aft dd asc qa qb)), .val (.int (aft dd asc qb qa)), .val (.int (1 : Int32)), .val (.int (1 : Int32)), .val (.int (1 : Int32)), .val (.int (aft dd asc qb qc)), .val (.int (aft dd asc qa qc)), .val (.int (1 : Int32)), .val (.int (1 : Int32)), .unset] [(.ref dsc)])) _
    refine X37.ldc2Long hx hown (mvT hZ (hw _ (List.mem_of_getElem? (i := 12) rfl))) (g := (mkF m 194 #[.val (.long qa), .second, .val (.long qb), .second, .val (.long qc), .second, .val (.int pk), .val (.ref dd), .val (.int (aft dd asc qa qb)), .val (.int (aft dd asc qb qa)), .val (.int (1 : Int32)), .val (.int (1 : Int32)), .val (.int (1 : Int32)), .val (.int (aft dd asc qb qc)), .val (.int (aft dd asc qa qc)), .val (.int (1 : Int32)), .val (.int (1 : Int32)), .unset] [(.ref dsc)])) rfl (hb hby at_194) _ ?_
    show Steps p.tables e below (T37.setTop (mkF m 197 #[.val (.long qa), .second, .val (.long qb), .second, .val (.long qc), .second, .val (.int pk), .val (.ref dd), .val (.int (aft dd asc qa qb)), .val (.int (aft dd asc qb qa)), .val (.int (1 : Int32)), .val (.int (1 : Int32)), .val (.int (1 : Int32)), .val (.int (aft dd asc qb qc)), .val (.int (aft dd asc qa qc)), .val (.int (1 : Int32)), .val (.int (1 : Int32)), .unset] [(.long (9223372036854775807 : Int64)), (.ref dsc)])) _
    refine XS.lloadN X37.here hx rfl (hb hby at_197) rfl ?_
    show Steps p.tables e below (T37.setTop (mkF m 198 #[.val (.long qa), .second, .val (.long qb), .second, .val (.long qc), .second, .val (.int pk), .val (.ref dd), .val (.int (aft dd asc qa qb)), .val (.int (aft dd asc qb qa)), .val (.int (1 : Int32)), .val (.int (1 : Int32)), .val (.int (1 : Int32)), .val (.int (aft dd asc qb qc)), .val (.int (aft dd asc qa qc)), .val (.int (1 : Int32)), .val (.int (1 : Int32)), .unset] [(.long qa), (.long (9223372036854775807 : Int64)), (.ref dsc)])) _
    refine st38.trans ?_
    show Steps p.tables e below (T38.setTop (mkF m 201 #[.val (.long qa), .second, .val (.long qb), .second, .val (.long qc), .second, .val (.int pk), .val (.ref dd), .val (.int (aft dd asc qa qb)), .val (.int (aft dd asc qb qa)), .val (.int (1 : Int32)), .val (.int (1 : Int32)), .val (.int (1 : Int32)), .val (.int (aft dd asc qb qc)), .val (.int (aft dd asc qa qc)), .val (.int (1 : Int32)), .val (.int (1 : Int32)), .unset] [(.int (aft dsc asc (9223372036854775807 : Int64) qa))])) _
    refine XS.ifNo X38.here hx rfl (hb hby at_201) rfl ((if0 _ _).trans (teq (own_max dne)).2) ?_
    show Steps p.tables e below (T38.setTop (mkF m 204 #[.val (.long qa), .second, .val (.long qb), .second, .val (.long qc), .second, .val (.int pk), .val (.ref dd), .val (.int (aft dd asc qa qb)), .val (.int (aft dd asc qb qa)), .val (.int (1 : Int32)), .val (.int (1 : Int32)), .val (.int (1 : Int32)), .val (.int (aft dd asc qb qc)), .val (.int (aft dd asc qa qc)), .val (.int (1 : Int32)), .val (.int (1 : Int32)), .unset] [])) _
    refine XS.iconst X38.here hx rfl (hb hby at_204) ?_
    show Steps p.tables e below (T38.setTop (mkF m 205 #[.val (.long qa), .second, .val (.long qb), .second, .val (.long qc), .second, .val (.int pk), .val (.ref dd), .val (.int (aft dd asc qa qb)), .val (.int (aft dd asc qb qa)), .val (.int (1 : Int32)), .val (.int (1 : Int32)), .val (.int (1 : Int32)), .val (.int (aft dd asc qb qc)), .val (.int (aft dd asc qa qc)), .val (.int (1 : Int32)), .val (.int (1 : Int32)), .unset] [(.int (1 : Int32))])) _
    refine XS.goto X38.here hx rfl (pc0 := 205) (pc' := 209) rfl (hb hby at_205) (by decide) (by decide) ?_
    show Steps p.tables e below (T38.setTop (mkF m 209 #[.val (.long qa), .second, .val (.long qb), .second, .val (.long qc), .second, .val (.int pk), .val (.ref dd), .val (.int (aft dd asc qa qb)), .val (.int (aft dd asc qb qa)), .val (.int (1 : Int32)), .val (.int (1 : Int32)), .val (.int (1 : Int32)), .val (.int (aft dd asc qb qc)), .val (.int (aft dd asc qa qc)), .val (.int (1 : Int32)), .val (.int (1 : Int32)), .unset] [(.int (1 : Int32))])) _
    refine XS.istore X38.here hx rfl (hb hby at_209) rfl (l' := #[.val (.long qa), .second, .val (.long qb), .second, .val (.long qc), .second, .val (.int pk), .val (.ref dd), .val (.int (aft dd asc qa qb)), .val (.int (aft dd asc qb qa)), .val (.int (1 : Int32)), .val (.int (1 : Int32)), .val (.int (1 : Int32)), .val (.int (aft dd asc qb qc)), .val (.int (aft dd asc qa qc)), .val (.int (1 : Int32)), .val (.int (1 : Int32)), .val (.int (1 : Int32))]) rfl ?_
    show Steps p.tables e below (T38.setTop (mkF m 211 #[.val (.long qa), .second, .val (.long qb), .second, .val (.long qc), .second, .val (.int pk), .val (.ref dd), .val (.int (aft dd asc qa qb)), .val (.int (aft dd asc qb qa)), .val (.int (1 : Int32)), .val (.int (1 : Int32)), .val (.int (1 : Int32)), .val (.int (aft dd asc qb qc)), .val (.int (aft dd asc qa qc)), .val (.int (1 : Int32)), .val (.int (1 : Int32)), .val (.int (1 : Int32))] [])) _
    refine XS.iload X38.here hx rfl (hb hby at_211) rfl ?_
    show Steps p.tables e below (T38.setTop (mkF m 213 #[.val (.long qa), .second, .val (.long qb), .second, .val (.long qc), .second, .val (.int pk), .val (.ref dd), .val (.int (aft dd asc qa qb)), .val (.int (aft dd asc qb qa)), .val (.int (1 : Int32)), .val (.int (1 : Int32)), .val (.int (1 : Int32)), .val (.int (aft dd asc qb qc)), .val (.int (aft dd asc qa qc)), .val (.int (1 : Int32)), .val (.int (1 : Int32)), .val (.int (1 : Int32))] [(.int (1 : Int32))])) _
    refine XS.ifNo X38.here hx rfl (hb hby at_213) rfl ((if0 _ _).trans (feq (by decide : ¬ ((1 : Int32) = (0 : Int32)))).1) ?_
    show Steps p.tables e below (T38.setTop (mkF m 216 #[.val (.long qa), .second, .val (.long qb), .second, .val (.long qc), .second, .val (.int pk), .val (.ref dd), .val (.int (aft dd asc qa qb)), .val (.int (aft dd asc qb qa)), .val (.int (1 : Int32)), .val (.int (1 : Int32)), .val (.int (1 : Int32)), .val (.int (aft dd asc qb qc)), .val (.int (aft dd asc qa qc)), .val (.int (1 : Int32)), .val (.int (1 : Int32)), .val (.int (1 : Int32))] [])) _
    refine XS.iload X38.here hx rfl (hb hby at_216) rfl ?_
    show Steps p.tables e below (T38.setTop (mkF m 218 #[.val (.long qa), .second, .val (.long qb), .second, .val (.long qc), .second, .val (.int pk), .val (.ref dd), .val (.int (aft dd asc qa qb)), .val (.int (aft dd asc qb qa)), .val (.int (1 : Int32)), .val (.int (1 : Int32)), .val (.int (1 : Int32)), .val (.int (aft dd asc qb qc)), .val (.int (aft dd asc qa qc)), .val (.int (1 : Int32)), .val (.int (1 : Int32)), .val (.int (1 : Int32))] [(.int (1 : Int32))])) _
    refine XS.ifNo X38.here hx rfl (hb hby at_218) rfl ((if0 _ _).trans (feq (by decide : ¬ ((1 : Int32) = (0 : Int32)))).1) ?_
    show Steps p.tables e below (T38.setTop (mkF m 221 #[.val (.long qa), .second, .val (.long qb), .second, .val (.long qc), .second, .val (.int pk), .val (.ref dd), .val (.int (aft dd asc qa qb)), .val (.int (aft dd asc qb qa)), .val (.int (1 : Int32)), .val (.int (1 : Int32)), .val (.int (1 : Int32)), .val (.int (aft dd asc qb qc)), .val (.int (aft dd asc qa qc)), .val (.int (1 : Int32)), .val (.int (1 : Int32)), .val (.int (1 : Int32))] [])) _
    refine XS.iload X38.here hx rfl (hb hby at_221) rfl ?_
    show Steps p.tables e below (T38.setTop (mkF m 223 #[.val (.long qa), .second, .val (.long qb), .second, .val (.long qc), .second, .val (.int pk), .val (.ref dd), .val (.int (aft dd asc qa qb)), .val (.int (aft dd asc qb qa)), .val (.int (1 : Int32)), .val (.int (1 : Int32)), .val (.int (1 : Int32)), .val (.int (aft dd asc qb qc)), .val (.int (aft dd asc qa qc)), .val (.int (1 : Int32)), .val (.int (1 : Int32)), .val (.int (1 : Int32))] [(.int (1 : Int32))])) _
    refine XS.ifNo X38.here hx rfl (hb hby at_223) rfl ((if0 _ _).trans (feq (by decide : ¬ ((1 : Int32) = (0 : Int32)))).1) ?_
    show Steps p.tables e below (T38.setTop (mkF m 226 #[.val (.long qa), .second, .val (.long qb), .second, .val (.long qc), .second, .val (.int pk), .val (.ref dd), .val (.int (aft dd asc qa qb)), .val (.int (aft dd asc qb qa)), .val (.int (1 : Int32)), .val (.int (1 : Int32)), .val (.int (1 : Int32)), .val (.int (aft dd asc qb qc)), .val (.int (aft dd asc qa qc)), .val (.int (1 : Int32)), .val (.int (1 : Int32)), .val (.int (1 : Int32))] [])) _
    refine XS.iload X38.here hx rfl (hb hby at_226) rfl ?_
    show Steps p.tables e below (T38.setTop (mkF m 228 #[.val (.long qa), .second, .val (.long qb), .second, .val (.long qc), .second, .val (.int pk), .val (.ref dd), .val (.int (aft dd asc qa qb)), .val (.int (aft dd asc qb qa)), .val (.int (1 : Int32)), .val (.int (1 : Int32)), .val (.int (1 : Int32)), .val (.int (aft dd asc qb qc)), .val (.int (aft dd asc qa qc)), .val (.int (1 : Int32)), .val (.int (1 : Int32)), .val (.int (1 : Int32))] [(.int (1 : Int32))])) _
    refine XS.ifNo X38.here hx rfl (hb hby at_228) rfl ((if0 _ _).trans (feq (by decide : ¬ ((1 : Int32) = (0 : Int32)))).1) ?_
    show Steps p.tables e below (T38.setTop (mkF m 231 #[.val (.long qa), .second, .val (.long qb), .second, .val (.long qc), .second, .val (.int pk), .val (.ref dd), .val (.int (aft dd asc qa qb)), .val (.int (aft dd asc qb qa)), .val (.int (1 : Int32)), .val (.int (1 : Int32)), .val (.int (1 : Int32)), .val (.int (aft dd asc qb qc)), .val (.int (aft dd asc qa qc)), .val (.int (1 : Int32)), .val (.int (1 : Int32)), .val (.int (1 : Int32))] [])) _
    refine XS.iload X38.here hx rfl (hb hby at_231) rfl ?_
    show Steps p.tables e below (T38.setTop (mkF m 233 #[.val (.long qa), .second, .val (.long qb), .second, .val (.long qc), .second, .val (.int pk), .val (.ref dd), .val (.int (aft dd asc qa qb)), .val (.int (aft dd asc qb qa)), .val (.int (1 : Int32)), .val (.int (1 : Int32)), .val (.int (1 : Int32)), .val (.int (aft dd asc qb qc)), .val (.int (aft dd asc qa qc)), .val (.int (1 : Int32)), .val (.int (1 : Int32)), .val (.int (1 : Int32))] [(.int (1 : Int32))])) _
    refine XS.ifNo X38.here hx rfl (hb hby at_233) rfl ((if0 _ _).trans (feq (by decide : ¬ ((1 : Int32) = (0 : Int32)))).1) ?_
    show Steps p.tables e below (T38.setTop (mkF m 236 #[.val (.long qa), .second, .val (.long qb), .second, .val (.long qc), .second, .val (.int pk), .val (.ref dd), .val (.int (aft dd asc qa qb)), .val (.int (aft dd asc qb qa)), .val (.int (1 : Int32)), .val (.int (1 : Int32)), .val (.int (1 : Int32)), .val (.int (aft dd asc qb qc)), .val (.int (aft dd asc qa qc)), .val (.int (1 : Int32)), .val (.int (1 : Int32)), .val (.int (1 : Int32))] [])) _
    refine XS.iload X38.here hx rfl (hb hby at_236) rfl ?_
    show Steps p.tables e below (T38.setTop (mkF m 238 #[.val (.long qa), .second, .val (.long qb), .second, .val (.long qc), .second, .val (.int pk), .val (.ref dd), .val (.int (aft dd asc qa qb)), .val (.int (aft dd asc qb qa)), .val (.int (1 : Int32)), .val (.int (1 : Int32)), .val (.int (1 : Int32)), .val (.int (aft dd asc qb qc)), .val (.int (aft dd asc qa qc)), .val (.int (1 : Int32)), .val (.int (1 : Int32)), .val (.int (1 : Int32))] [(.int (1 : Int32))])) _
    refine XS.ifNo X38.here hx rfl (hb hby at_238) rfl ((if0 _ _).trans (feq (by decide : ¬ ((1 : Int32) = (0 : Int32)))).1) ?_
    show Steps p.tables e below (T38.setTop (mkF m 241 #[.val (.long qa), .second, .val (.long qb), .second, .val (.long qc), .second, .val (.int pk), .val (.ref dd), .val (.int (aft dd asc qa qb)), .val (.int (aft dd asc qb qa)), .val (.int (1 : Int32)), .val (.int (1 : Int32)), .val (.int (1 : Int32)), .val (.int (aft dd asc qb qc)), .val (.int (aft dd asc qa qc)), .val (.int (1 : Int32)), .val (.int (1 : Int32)), .val (.int (1 : Int32))] [])) _
    refine XS.iconst X38.here hx rfl (hb hby at_241) ?_
    show Steps p.tables e below (T38.setTop (mkF m 242 #[.val (.long qa), .second, .val (.long qb), .second, .val (.long qc), .second, .val (.int pk), .val (.ref dd), .val (.int (aft dd asc qa qb)), .val (.int (aft dd asc qb qa)), .val (.int (1 : Int32)), .val (.int (1 : Int32)), .val (.int (1 : Int32)), .val (.int (aft dd asc qb qc)), .val (.int (aft dd asc qa qc)), .val (.int (1 : Int32)), .val (.int (1 : Int32)), .val (.int (1 : Int32))] [(.int (1 : Int32))])) _
    refine XS.goto X38.here hx rfl (pc0 := 242) (pc' := 246) rfl (hb hby at_242) (by decide) (by decide) ?_
    show Steps p.tables e below (T38.setTop (mkF m 246 #[.val (.long qa), .second, .val (.long qb), .second, .val (.long qc), .second, .val (.int pk), .val (.ref dd), .val (.int (aft dd asc qa qb)), .val (.int (aft dd asc qb qa)), .val (.int (1 : Int32)), .val (.int (1 : Int32)), .val (.int (1 : Int32)), .val (.int (aft dd asc qb qc)), .val (.int (aft dd asc qa qc)), .val (.int (1 : Int32)), .val (.int (1 : Int32)), .val (.int (1 : Int32))] [(.int (1 : Int32))])) _
    exact k
  obtain ⟨fs, hr, hrun, hended, hW, hsame⟩ := X38.leave (v := some (.int (1 : Int32))) (fun h => by rw [Bd.returns] at h; cases h)
  refine ⟨_, _, pre39 _ ?_, hrun, hended, _, _, rfl, ?_, ⟨_, rfl⟩, hW, hsame.mono (by decide) (by decide)⟩
  · exact retN X38 hx (t := .boolean) Bd.returns (by simp) (hb hby at_246) hr
  · show Q0 Z qa qb qc pk h0 n0 _ T38.heap _
    rw [e38]
    exact ⟨rfl, N38⟩
set_option maxRecDepth 65536 in
set_option maxHeartbeats 40000000 in
theorem comes_1 {Post : Tables → Env → Array Value → State → Outcome → State → Prop} (hpost : ∀ tb e args s v u, (limb_1_1.after args s (.returned v) u = true ∧ limb_1_2.after args s (.returned v) u = true ∧ True) → FrameEnd s (.returned v) u (Jvm.fieldLocs frame_1_writes args s ++ Jvm.arrayLocs frame_1_arrays args s ++ Jvm.staticLocs frame_1_statics s) 0 0 → Post tb e args s (.returned v) u) :
    ArmFor flags0 classFile x code maxLocals ret World_1 tables_1 room_1 Calls_1 rest_1 Pre_1 Post := by
  intro l hfl _ _ p e ha hc hk s m args below hf hA hF happ hP
  obtain ⟨hcalls, hrest, hpre⟩ := hP
  obtain ⟨-, -, -, hnamed, -, -, -, hat⟩ := (Spec.applies_iff hf).mp happ
  obtain ⟨hg, hn⟩ := and_e (Cond.before_iff.mp (show (Jvm.Cond.and given_1 narrow_1).before args s = true from hpre))
  obtain ⟨hcount, gg⟩ := and_e hg
  obtain ⟨g0, gr1⟩ := and_e gg
  obtain ⟨g1, gr2⟩ := and_e gr1
  obtain ⟨g2, g3⟩ := and_e gr2
  obtain ⟨n0, nr1⟩ := and_e hn
  obtain ⟨n1, nr2⟩ := and_e nr1
  obtain ⟨n2, n3⟩ := and_e nr2
  obtain ⟨w0, w1, w2, w3, rfl⟩ : ∃ w0 w1 w2 w3 : Value, args = #[w0, w1, w2, w3] := by
    have hs : args.size = 4 := by simpa [Cond.value, given_1] using hcount
    obtain ⟨L⟩ := args
    match L, hs with
    | [w0, w1, w2, w3], _ => exact ⟨w0, w1, w2, w3, rfl⟩
  have hw := fun d (hd : d ∈ tables_1) => atoms_spec (ws := Jvm.Cond.code x code maxLocals ret :: tables_1) hat d (List.mem_cons_of_mem _ hd)
  have hfit : Fit s := fun {y c} hc i hi => by
    obtain ⟨ha, rfl⟩ := Array.getElem?_eq_some_iff.mp hc
    have q := List.all_eq_true.mp ((Array.all_eq_true_iff_forall_mem.mp hF) _ (Array.getElem_mem ha)) i (List.mem_range.mpr hi)
    simpa [Array.getElem?_eq_getElem hi] using q
  obtain ⟨i0, ei0⟩ := isL_v g0
  obtain rfl : w0 = (.long i0) := Option.some.inj ei0
  obtain ⟨i1, ei1⟩ := isL_v g1
  obtain rfl : w1 = (.long i1) := Option.some.inj ei1
  obtain ⟨i2, ei2⟩ := isL_v g2
  obtain rfl : w2 = (.long i2) := Option.some.inj ei2
  obtain ⟨i3, ei3⟩ := is_v g3
  obtain rfl : w3 = (.int i3) := Option.some.inj ei3
  obtain ⟨a_ASCENDING, ev_ASCENDING⟩ := exa_v n0
  have Ex_ASCENDING := Exa.start ev_ASCENDING n0
  have S_ASCENDING := Sta.start ev_ASCENDING (Or.inr ⟨(hw _ (List.mem_of_getElem? (i := 1) rfl)), (hw _ (List.mem_of_getElem? (i := 2) rfl))⟩)
  obtain ⟨a_DESCENDING, ev_DESCENDING⟩ := exa_v n1
  have Ex_DESCENDING := Exa.start ev_DESCENDING n1
  have S_DESCENDING := Sta.start ev_DESCENDING (Or.inr ⟨(hw _ (List.mem_of_getElem? (i := 1) rfl)), (hw _ (List.mem_of_getElem? (i := 10) rfl))⟩)
  have o_DESCENDING : s.fieldOf? a_DESCENDING "java/lang/Enum" "ordinal" "I" = some (.int (1 : Int32)) := (fld_at ev_DESCENDING).symm.trans (eqv_i (F := .int (1 : Int32)) (y := (1 : Int32)) rfl n2)
  have o_ASCENDING : s.fieldOf? a_ASCENDING "java/lang/Enum" "ordinal" "I" = some (.int (0 : Int32)) := (fld_at ev_ASCENDING).symm.trans (eqv_i (F := .int (0 : Int32)) (y := (0 : Int32)) rfl n3)
  have ne_DESCENDING_ASCENDING : a_DESCENDING ≠ a_ASCENDING := fun q => by rw [q] at o_DESCENDING; exact absurd (Option.some.inj (o_DESCENDING.symm.trans o_ASCENDING)) (by decide)
  obtain ⟨n, o, h1, h2, h3, _, L, rfl, ⟨rfl, N⟩, hq⟩ := rm0 l s _ hw tables_1 i0 i1 i2 i3 a_ASCENDING a_DESCENDING s.heap s.heap.size (Nat.le_refl _) S_ASCENDING S_DESCENDING Ex_ASCENDING Ex_DESCENDING ne_DESCENDING_ASCENDING p e ha hc hk s m _ below hf ((Spec.applies_iff_loose hf).mp happ).1 ⟨rfl, State.Warmed39.refl s, rfl⟩ trivial
  refine ⟨n, _, h1, h2, h3, hpost _ _ _ _ _ _ ⟨Cond.after_iff.mpr rfl, Cond.after_iff.mpr (eq_i res_at (Term.int_eval (1)) rfl), trivial⟩ ⟨hq.1, hq.2.1, (hq.2.2.sift fun y hy => Or.inr (N y hy)).mono (by decide) (by decide)⟩⟩
theorem main_1_1 : Claimed_1_1 := comes_1 fun _ _ _ _ _ _ h hF => ⟨h.1, hF⟩
theorem main_1_2 : Claimed_1_2 := comes_1 fun _ _ _ _ _ _ h hF => ⟨h.2.1, hF⟩

end Jvm.Pilot.@@N@@
namespace Jvm.Pilot.@@N@@
open Jvm Jvm.ClassFile Sem Op Lib Jvm.Free Jvm.Stand Jvm.Pilot.@@N@@.Jvm.D
/-! MADE BY PROGRAM (witnessworld.py) out of the Statement's table words and the real class files: 12 classes; the members and pool entries that the words name. The judged class is class 1, her method 1. -/
namespace start1
open Jvm.ClassFile
def u (s : String) : CpInfo := .utf8 (stringToUtf16 s)
/-- a pool by its gaps: so many unusable entries, then the entry; so many at the end -/
def gap : Nat → List CpInfo → List CpInfo
  | 0, r => r
  | n + 1, r => .unusable :: gap n r
def poolList (es : List (Nat × CpInfo)) (last : Nat) : List CpInfo := es.foldr (fun e r => gap e.1 (e.2 :: r)) (gap last [])
def pool (es : List (Nat × CpInfo)) (last : Nat) : Array CpInfo := ⟨poolList es last⟩
def fileOf (pool : Array CpInfo) (this : Nat) (attrs : Array Attribute := #[]) (ms : Array MethodInfo := #[]) (fl : Nat := 33) (sup : Nat := 0) (ifs : Array Nat := #[]) (fds : Array FieldInfo := #[]) : ClassFile where
  minorVersion := 0
  majorVersion := 65
  constantPool := pool
  accessFlags := fl
  thisClass := this
  superClass := sup
  interfaces := ifs
  fields := fds
  methods := ms
  attributes := attrs
def plain (name : String) (sup : Option ClassId) : Class where
  name := name
  kind := .ordinary
  loader := none
  accessFlags := 33
  super := sup
  interfaces := #[]
  cf := none
  fields := #[]
  methods := #[]
  instanceTypes := #[]
  staticTypes := #[]
  resolved := #[]
  callSites := []
  init := .initialized
  statics := none
  mirror := none

def pool0 : Array CpInfo := pool [(5, u "<init>"), (0, u "()V"), (1, .class_ 10), (1, u "java/lang/Object")] 113

def k0m0 : Method := { name := "<init>", desc := "()V", sig := { parameters := [], returnType := none }, accessFlags := 1, code := none }
/-- java/lang/Object -/
def k0 : Class := { plain "java/lang/Object" none with
  accessFlags := 33
  interfaces := #[]
  cf := some (fileOf pool0 8 #[] #[{ accessFlags := 1, nameIndex := 5, descriptorIndex := 6, attributes := #[] }] 33 0 #[] #[])
  fields := #[]
  methods := #[k0m0]
  instanceTypes := #[]
  staticTypes := #[]
  resolved := Array.replicate 124 none
  statics := none }

def pool1 : Array CpInfo := pool [(2, .class_ 4), (1, u "java/lang/Object"), (0, u "<init>"), (0, u "()V"), (0, .fieldref 8 9), (0, .class_ 10), (0, .nameAndType 11 12), (0, u "com/example/wharfline/wharfline/woocommerce/ListWalk$Direction"), (0, u "ASCENDING"), (0, u "Lcom/example/wharfline/wharfline/woocommerce/ListWalk$Direction;"), (0, .fieldref 8 14), (0, .nameAndType 15 12), (0, u "DESCENDING"), (0, .methodref 8 17), (0, .nameAndType 18 19), (0, u "isAfter"), (0, u "(JJ)Z"), (2, .long 9223372036854775808), (1, .long 9223372036854775807), (1, .class_ 27), (0, u "com/example/wharfline/wharfline/woocommerce/DirectionIsAfterPinLaw"), (2, u "law"), (0, u "(JJJI)Z")] 7

def k1m0 : Method := { name := "<init>", desc := "()V", sig := { parameters := [], returnType := none }, accessFlags := 2, code := none }
def k1c1 : Code := { maxStack := 6, maxLocals := 18, code := code, exceptionTable := #[], attributes := #[] }
def k1m1 : Method := { name := "law", desc := "(JJJI)Z", sig := { parameters := [.long, .long, .long, .int], returnType := some .boolean }, accessFlags := 9, code := some k1c1 }
/-- com/example/wharfline/wharfline/woocommerce/DirectionIsAfterPinLaw -/
def k1 : Class := { plain "com/example/wharfline/wharfline/woocommerce/DirectionIsAfterPinLaw" (some 0) with
  accessFlags := 49
  interfaces := #[]
  cf := some (fileOf pool1 26 #[] #[{ accessFlags := 2, nameIndex := 5, descriptorIndex := 6, attributes := #[] }, { accessFlags := 9, nameIndex := 30, descriptorIndex := 31, attributes := #[] }] 49 2 #[] #[])
  fields := #[]
  methods := #[k1m0, k1m1]
  instanceTypes := #[]
  staticTypes := #[]
  resolved := Array.replicate 39 none
  statics := none }

def pool2 : Array CpInfo := pool [(1, .class_ 2), (0, u "java/lang/constant/Constable"), (0, .class_ 4), (0, u "java/lang/Object")] 6

/-- java/lang/constant/Constable -/
def k2 : Class := { plain "java/lang/constant/Constable" (some 0) with
  accessFlags := 1537
  interfaces := #[]
  cf := some (fileOf pool2 1 #[] #[] 1537 3 #[] #[])
  fields := #[]
  methods := #[]
  instanceTypes := #[]
  staticTypes := #[]
  resolved := Array.replicate 11 none
  statics := none }

def pool3 : Array CpInfo := pool [(1, .class_ 2), (0, u "java/lang/Comparable"), (0, .class_ 4), (0, u "java/lang/Object")] 7

/-- java/lang/Comparable -/
def k3 : Class := { plain "java/lang/Comparable" (some 0) with
  accessFlags := 1537
  interfaces := #[]
  cf := some (fileOf pool3 1 #[] #[] 1537 3 #[] #[])
  fields := #[]
  methods := #[]
  instanceTypes := #[]
  staticTypes := #[]
  resolved := Array.replicate 12 none
  statics := none }

def pool4 : Array CpInfo := pool [(1, .class_ 2), (0, u "java/io/Serializable"), (0, .class_ 4), (0, u "java/lang/Object")] 2

/-- java/io/Serializable -/
def k4 : Class := { plain "java/io/Serializable" (some 0) with
  accessFlags := 1537
  interfaces := #[]
  cf := some (fileOf pool4 1 #[] #[] 1537 3 #[] #[])
  fields := #[]
  methods := #[]
  instanceTypes := #[]
  staticTypes := #[]
  resolved := Array.replicate 7 none
  statics := none }

def pool5 : Array CpInfo := pool [(2, .class_ 4), (1, u "java/lang/Enum"), (0, u "name"), (0, u "Ljava/lang/String;"), (2, u "ordinal"), (0, u "I"), (1, .class_ 14), (1, u "java/lang/Object"), (4, u "hash"), (86, .class_ 108), (1, u "java/lang/Enum$EnumDesc"), (2, .class_ 112), (0, u "java/lang/constant/Constable"), (0, .class_ 114), (0, u "java/lang/Comparable"), (0, .class_ 116), (0, u "java/io/Serializable")] 87

/-- java/lang/Enum -/
def k5 : Class := { plain "java/lang/Enum" (some 0) with
  accessFlags := 1057
  interfaces := #[2, 3, 4]
  cf := some (fileOf pool5 2 #[.nestMembers #[106]] #[] 1057 12 #[111, 113, 115] #[{ accessFlags := 18, nameIndex := 5, descriptorIndex := 6, attributes := #[] }, { accessFlags := 18, nameIndex := 9, descriptorIndex := 10, attributes := #[] }, { accessFlags := 2, nameIndex := 19, descriptorIndex := 10, attributes := #[] }])
  fields := #[{ name := "name", type := (.object "java/lang/String"), accessFlags := 18, slot := 0, constantValue := 0 }, { name := "ordinal", type := .int, accessFlags := 18, slot := 1, constantValue := 0 }, { name := "hash", type := .int, accessFlags := 2, slot := 2, constantValue := 0 }]
  methods := #[]
  instanceTypes := #[(.object "java/lang/String"), .int, .int]
  staticTypes := #[]
  resolved := Array.replicate 204 none
  statics := none }

def pool6 : Array CpInfo := pool [(1, .class_ 2), (0, u "com/example/wharfline/wharfline/woocommerce/ListWalk$Direction"), (0, .fieldref 1 4), (0, .nameAndType 5 6), (0, u "ASCENDING"), (0, u "Lcom/example/wharfline/wharfline/woocommerce/ListWalk$Direction;"), (2, u "DESCENDING"), (2, u "$VALUES"), (0, u "[Lcom/example/wharfline/wharfline/woocommerce/ListWalk$Direction;"), (6, .class_ 22), (1, u "java/lang/Enum"), (8, u "word"), (0, u "Ljava/lang/String;"), (2, u "start"), (0, u "J"), (27, u "isAfter"), (0, u "(JJ)Z"), (7, .class_ 74), (0, u "com/example/wharfline/wharfline/woocommerce/ListWalk")] 2

def k6c0 : Code := { maxStack := 4, maxLocals := 5, code := prog_102_method_5_code, exceptionTable := #[], attributes := #[] }
def k6m0 : Method := { name := "isAfter", desc := "(JJ)Z", sig := { parameters := [.long, .long], returnType := some .boolean }, accessFlags := 0, code := some k6c0 }
/-- com/example/wharfline/wharfline/woocommerce/ListWalk$Direction -/
def k6 : Class := { plain "com/example/wharfline/wharfline/woocommerce/ListWalk$Direction" (some 5) with
  accessFlags := 16432
  interfaces := #[]
  cf := some (fileOf pool6 1 #[.nestHost 73] #[{ accessFlags := 0, nameIndex := 64, descriptorIndex := 65, attributes := #[] }] 16432 20 #[] #[{ accessFlags := 16409, nameIndex := 5, descriptorIndex := 6, attributes := #[] }, { accessFlags := 16409, nameIndex := 9, descriptorIndex := 6, attributes := #[] }, { accessFlags := 18, nameIndex := 31, descriptorIndex := 32, attributes := #[] }, { accessFlags := 18, nameIndex := 35, descriptorIndex := 36, attributes := #[] }, { accessFlags := 4122, nameIndex := 12, descriptorIndex := 13, attributes := #[] }])
  fields := #[{ name := "ASCENDING", type := (.object "com/example/wharfline/wharfline/woocommerce/ListWalk$Direction"), accessFlags := 16409, slot := 0, constantValue := 0 }, { name := "DESCENDING", type := (.object "com/example/wharfline/wharfline/woocommerce/ListWalk$Direction"), accessFlags := 16409, slot := 1, constantValue := 0 }, { name := "word", type := (.object "java/lang/String"), accessFlags := 18, slot := 3, constantValue := 0 }, { name := "start", type := .long, accessFlags := 18, slot := 4, constantValue := 0 }, { name := "$VALUES", type := (.array (.object "com/example/wharfline/wharfline/woocommerce/ListWalk$Direction")), accessFlags := 4122, slot := 2, constantValue := 0 }]
  methods := #[k6m0]
  instanceTypes := #[(.object "java/lang/String"), .int, .int, (.object "java/lang/String"), .long]
  staticTypes := #[(.object "com/example/wharfline/wharfline/woocommerce/ListWalk$Direction"), (.object "com/example/wharfline/wharfline/woocommerce/ListWalk$Direction"), (.array (.object "com/example/wharfline/wharfline/woocommerce/ListWalk$Direction"))]
  resolved := Array.replicate 77 none
  statics := some 0 }

def pool7 : Array CpInfo := pool [(1, u "java/lang/Cloneable"), (0, .class_ 1), (0, u "java/lang/Object"), (0, .class_ 3)] 3

/-- java/lang/Cloneable -/
def k7 : Class := { plain "java/lang/Cloneable" (some 0) with
  accessFlags := 1537
  interfaces := #[]
  cf := some (fileOf pool7 2 #[] #[] 1537 4 #[] #[])
  fields := #[]
  methods := #[]
  instanceTypes := #[]
  staticTypes := #[]
  resolved := Array.replicate 8 none
  statics := none }

/-- the primitive byte -/
def k8 : Class := { plain "byte" none with kind := .primitive 'B', accessFlags := 0x411 }
/-- [B -/
def k9 : Class := { plain "[B" (some 0) with kind := .array 8 .byte, interfaces := #[7, 4], accessFlags := 1041 }

/-- the primitive int -/
def k10 : Class := { plain "int" none with kind := .primitive 'I', accessFlags := 0x411 }
/-- [I -/
def k11 : Class := { plain "[I" (some 0) with kind := .array 10 .int, interfaces := #[7, 4], accessFlags := 1041 }

def heap : Heap := #[{ cls := 6, slots := #[.ref 1, .ref 2, .null], vm := .statics 6 },
  { cls := 6, slots := #[.null, .int 0, .int 0, .null, .long 0], vm := .none },
  { cls := 6, slots := #[.null, .int 1, .int 0, .null, .long 0], vm := .none }]
def classes : Array Class := #[k0, k1, k2, k3, k4, k5, k6, k7, k8, k9, k10, k11]
def interned : List (Array UInt16 × Addr) := []
def slotsUsed : Nat := 13
def theMethod : MethodId := ⟨1, 1⟩
def args0 : Array Value := #[.long 5, .long 7, .long 9, .int 1]
def aboutOver (below : List Frame) : State where
  vm := { classes := classes, interned := interned.toArray }
  heap := heap
  slotsUsed := slotsUsed
  threads := #[{ frames := .invoking theMethod args0 :: below }]
def below0 : List Frame := [.native { method := ⟨0, 0⟩, args := #[] }]
def about1 : State := aboutOver below0
def p0 : Program := .bare "" "" ""
def e0 : Env := launch0.env 0 0 0
theorem w_frames : about1.frames = Frame.invoking theMethod args0 :: below0 := rfl
set_option maxRecDepth 65536 in
theorem w_args : argsFit about1.vm theMethod args0 = true := by decide +kernel
set_option maxRecDepth 65536 in
theorem w_heap : heapFits about1 = true := by decide +kernel
set_option maxRecDepth 65536 in
theorem w_runnable : about1.curStatus? = some .runnable := by decide +kernel
set_option maxRecDepth 65536 in
theorem w_alone : about1.alone = true := by decide +kernel
set_option maxRecDepth 65536 in
theorem w_named : about1.methodNamed? x = some theMethod := by decide +kernel
set_option maxRecDepth 65536 in
theorem w_hears : about1.hears theMethod below0 = true := by decide +kernel
set_option maxRecDepth 65536 in
theorem w_ripe : about1.ripe theMethod args0 below0 = true := by decide +kernel
theorem w_running : about1.status = .running := rfl
set_option maxRecDepth 65536 in
theorem w_room : about1.hasRoom e0.platform room_1 = true :=
  launch0.hasRoom_least _ room_1 (by decide +kernel) (by decide +kernel) (by decide +kernel) (by decide +kernel) (by decide +kernel) (by decide +kernel)
theorem allAtoms_all (ts : List Jvm.Cond) (a : Array Jvm.Value) (st : Jvm.State) : (allAtoms ts).before a st = ts.all (fun c => c.before a st) := by
  induction ts with
  | nil => rfl
  | cons c t ih =>
    show (Jvm.Cond.and c (allAtoms t)).before a st = _
    rw [Jvm.Cond.before_and, ih, List.all_cons]
def words1 : List Jvm.Cond := Jvm.Cond.code x code maxLocals ret :: tables_1
/-- a 'code' word, met by the world's own term for the bytes: nothing is compared byte by byte -/
theorem code_word {y : MethodName} {bytes : ByteArray} {mx : Nat} {rt : Option FieldType} {a : Array Value} {s : State} {m : MethodId} {meth : Method} {c : Code} (h1 : s.methodNamed? y = some m) (h2 : s.vm.method? m = some meth) (h3 : meth.code = some c) (h4 : c.code = bytes)
    (h5 : (c.maxLocals == mx && c.exceptionTable.isEmpty && decide (c.maxStack ≤ mostOperands) && decide (meth.sig.returnType = rt) && !meth.locks && decide (parseMethodDescriptor y.desc = some meth.sig)) = true) : (Jvm.Cond.code y bytes mx rt).before a s = true := by
  simp only [Bool.and_eq_true, beq_iff_eq, Bool.not_eq_true', decide_eq_true_eq] at h5
  obtain ⟨⟨⟨⟨⟨g1, g2⟩, g3⟩, g4⟩, g5⟩, g6⟩ := h5
  simp [Cond.before, Cond.holds, Cond.value, h1, h2, h3, h4, g1, g2, g3, g4, g5, g6]
def isCode : Jvm.Cond → Bool
  | .code _ _ _ _ => true
  | _ => false
theorem all_split {L : List Jvm.Cond} {P : Jvm.Cond → Bool} (h1 : L.all (fun c => isCode c || P c) = true) (h2 : ∀ c ∈ L.filter isCode, P c = true) : L.all P = true := by
  refine List.all_eq_true.mpr fun c hc => ?_
  have h := List.all_eq_true.mp h1 c hc
  rcases Bool.eq_false_or_eq_true (isCode c) with hi | hi
  · exact h2 c (List.mem_filter.mpr ⟨hc, hi⟩)
  · simpa [hi] using h
set_option maxRecDepth 65536 in
theorem w_c0 : (Jvm.Cond.code x code maxLocals ret).before args0 about1 = true := code_word (m := ⟨1, 1⟩) (meth := k1m1) (c := k1c1) (by decide +kernel) rfl rfl rfl (by decide +kernel)
set_option maxRecDepth 65536 in
theorem w_c1 : (Jvm.Cond.code ({ cls := "com/example/wharfline/wharfline/woocommerce/ListWalk$Direction", name := "isAfter", desc := "(JJ)Z" } : Jvm.MethodName) prog_102_method_5_code (5 : Nat) (Option.some Jvm.ClassFile.FieldType.boolean)).before args0 about1 = true := code_word (m := ⟨6, 0⟩) (meth := k6m0) (c := k6c0) (by decide +kernel) rfl rfl rfl (by decide +kernel)
def codes1 : List Jvm.Cond := [Jvm.Cond.code x code maxLocals ret, Jvm.Cond.code ({ cls := "com/example/wharfline/wharfline/woocommerce/ListWalk$Direction", name := "isAfter", desc := "(JJ)Z" } : Jvm.MethodName) prog_102_method_5_code (5 : Nat) (Option.some Jvm.ClassFile.FieldType.boolean)]
set_option maxRecDepth 65536 in
theorem codes_eq : words1.filter isCode = codes1 := rfl
theorem w_codes : ∀ c ∈ words1.filter isCode, c.before args0 about1 = true := by
  rw [codes_eq]
  intro c hc
  simp only [codes1, List.mem_cons, List.not_mem_nil, or_false] at hc
  rcases hc with rfl | rfl
  · exact w_c0
  · exact w_c1
set_option maxRecDepth 65536 in
theorem w_t1 : words1.all (fun c => isCode c || c.before args0 about1) = true := by decide +kernel
theorem w_tables : (allAtoms (Jvm.Cond.code x code maxLocals ret :: tables_1)).before args0 about1 = true := by
  rw [allAtoms_all]
  show words1.all (fun c => c.before args0 about1) = true
  refine all_split ?_ w_codes
  rw [w_t1]
set_option maxRecDepth 65536 in
theorem w_case : (Jvm.Cond.and given_1 narrow_1).before args0 about1 = true := by decide +kernel
theorem w_applies : (headSpec (Jvm.Cond.code x code maxLocals ret :: tables_1) room_1).applies x e0.platform about1 = true :=
  (Spec.applies_iff w_frames).mpr ⟨w_running, w_runnable, w_alone, w_named, w_hears, w_ripe, w_room, w_tables⟩
theorem atStart : AtStart classFile x code maxLocals ret World_1 tables_1 room_1 Calls_1 rest_1 Pre_1 launch0 p0 e0 about1 theMethod args0 below0 :=
  ⟨lists_1, trivial, launch0.admits_env _ _ _, launch0.least_env, fairChoices_fair.cas, fairChoices_fair.clock, w_frames, w_args, w_heap, w_applies, trivial, trivial, w_case⟩
end start1
theorem witness_1 : WitnessClaimed_1 := ⟨start1.p0, start1.e0, start1.about1, start1.theMethod, start1.args0, start1.below0, start1.atStart⟩
end Jvm.Pilot.@@N@@
