import JvmDerived
import JvmDerived.Pilot.@@N@@Statement
import JvmDerived.Pilot.@@N@@Code
set_option linter.unusedVariables false
set_option linter.unusedSimpArgs false
@@BLOCK:NumsL.lean.txt@@
namespace Jvm.Pilot.@@N@@
open Jvm Jvm.ClassFile Sem Op Lib Jvm.Free Jvm.Stand Jvm.LawKit Jvm.RoadKit Bundle Jvm.Pilot.@@N@@.Jvm.D
/-- from A the run comes to wherever it comes from B -/
def Lead (p : Program) (e : Env) (below : List Frame) (A B : State) : Prop := ∀ t, Steps p.tables e below A t → Steps p.tables e below B t
theorem own_lcl (x y : Int64) : lcmpW x y < 0 ↔ x < y := by rw [lcW]; exact lc_lt x y
theorem own_lcg (x y : Int64) : 0 < lcmpW x y ↔ y < x := by rw [lcW]; exact lc_gt x y
theorem own_lce (x y : Int64) : lcmpW x y = 0 ↔ x = y := by rw [lcW]; exact lc_eq x y
theorem own_extwr {h0 h h' : Heap} {a : Addr} {sl : Nat} {v : Value} (E : Ext h0 h) (W : Wr h h' a sl v) (q : h0.size ≤ a) : Ext h0 h' := by
  refine ⟨by rw [W.size]; exact E.1, fun x c r => ?_⟩
  obtain ⟨cb', g1, -, -, -, g2, -⟩ := wr_at W (E.2 x c r)
  rw [g1, g2 (Nat.ne_of_lt (Nat.lt_of_lt_of_le (Array.getElem?_eq_some_iff.mp r).1 q))]
theorem pn_0 : plainName "com/example/exact_grant/exactgrant/model/AccessLevelIsDenialPinLaw" = true := by first | (simp [plainName, overriddenIn]; done) | decide +kernel
theorem pd_0 : parseMethodDescriptor "(I)Z" = some ⟨[.int], some .boolean⟩ := by decide +kernel
theorem d1_0 : decode prog_9_method_7_code 0 = .ok (.aload_n 0, 1) := by decide +kernel
theorem d1_1 : decode prog_9_method_7_code 1 = .ok (.getstatic 3, 3) := by decide +kernel
theorem d1_4 : decode prog_9_method_7_code 4 = .ok (.if_acmp .ne 7, 3) := by decide +kernel
theorem d1_7 : decode prog_9_method_7_code 7 = .ok (.iconst 1, 1) := by decide +kernel
theorem d1_8 : decode prog_9_method_7_code 8 = .ok (.goto 4, 3) := by decide +kernel
theorem d1_11 : decode prog_9_method_7_code 11 = .ok (.iconst 0, 1) := by decide +kernel
theorem d1_12 : decode prog_9_method_7_code 12 = .ok (.ireturn, 1) := by decide +kernel
theorem pn_1 : plainName "com/example/exact_grant/exactgrant/model/AccessLevel" = true := by first | (simp [plainName, overriddenIn]; done) | decide +kernel
theorem pd_1 : parseMethodDescriptor "()Z" = some ⟨[], some .boolean⟩ := by decide +kernel

def dnv (a f : Addr) : Int32 := if a = f then 1 else 0
def exv (i : Int32) : Int32 := if i = 0 then 1 else 0
theorem own_nine {j : Int32} (h1 : ¬ j < 0) (h2 : j < 9) : j = 0 ∨ j = 1 ∨ j = 2 ∨ j = 3 ∨ j = 4 ∨ j = 5 ∨ j = 6 ∨ j = 7 ∨ j = 8 := by
  rw [Int32.lt_iff_toInt_lt] at h1 h2
  have e0 : (0 : Int32).toInt = 0 := rfl
  have e9 : (9 : Int32).toInt = 9 := rfl
  have h : j.toInt = 0 ∨ j.toInt = 1 ∨ j.toInt = 2 ∨ j.toInt = 3 ∨ j.toInt = 4 ∨ j.toInt = 5 ∨ j.toInt = 6 ∨ j.toInt = 7 ∨ j.toInt = 8 := by omega
  rcases h with h | h | h | h | h | h | h | h | h
  · left; exact Int32.toInt_inj.mp h
  · right; left; exact Int32.toInt_inj.mp h
  · right; right; left; exact Int32.toInt_inj.mp h
  · right; right; right; left; exact Int32.toInt_inj.mp h
  · right; right; right; right; left; exact Int32.toInt_inj.mp h
  · right; right; right; right; right; left; exact Int32.toInt_inj.mp h
  · right; right; right; right; right; right; left; exact Int32.toInt_inj.mp h
  · right; right; right; right; right; right; right; left; exact Int32.toInt_inj.mp h
  · right; right; right; right; right; right; right; right; exact Int32.toInt_inj.mp h
theorem own_mask (x : Int32) : 0 ≤ (x &&& (2147483647 : Int32)).toInt := by
  have h := Jvm.Kit.i32_mask x 2147483647 (k := 31) (by decide) (by decide)
  omega
theorem own_rem (x : Int32) : ¬ ((x &&& (2147483647 : Int32)) % (9 : Int32)) < 0 ∧ ((x &&& (2147483647 : Int32)) % (9 : Int32)) < 9 := by
  have h1 : 0 ≤ (x &&& (2147483647 : Int32)).toInt := own_mask x
  rw [Int32.lt_iff_toInt_lt, Int32.lt_iff_toInt_lt, Int32.toInt_mod]
  have e0 : (0 : Int32).toInt = 0 := rfl
  have e9 : (9 : Int32).toInt = 9 := rfl
  rw [e0, e9, Int.tmod_eq_emod_of_nonneg h1]
  omega
theorem own_at {Z : State} {h0 : Heap} {j : Int32} (h1 : ¬ j < 0) (h2 : j < 9) {a_NONE a_OVERVIEW a_READ a_COMMENT a_MODERATE a_EDIT a_ADD a_DELETE a_ADMIN : Addr} (Ex_NONE : Exa Z h0 a_NONE "com/example/exact_grant/exactgrant/model/AccessLevel") (Ex_OVERVIEW : Exa Z h0 a_OVERVIEW "com/example/exact_grant/exactgrant/model/AccessLevel") (Ex_READ : Exa Z h0 a_READ "com/example/exact_grant/exactgrant/model/AccessLevel") (Ex_COMMENT : Exa Z h0 a_COMMENT "com/example/exact_grant/exactgrant/model/AccessLevel") (Ex_MODERATE : Exa Z h0 a_MODERATE "com/example/exact_grant/exactgrant/model/AccessLevel") (Ex_EDIT : Exa Z h0 a_EDIT "com/example/exact_grant/exactgrant/model/AccessLevel") (Ex_ADD : Exa Z h0 a_ADD "com/example/exact_grant/exactgrant/model/AccessLevel") (Ex_DELETE : Exa Z h0 a_DELETE "com/example/exact_grant/exactgrant/model/AccessLevel") (Ex_ADMIN : Exa Z h0 a_ADMIN "com/example/exact_grant/exactgrant/model/AccessLevel") (ne_OVERVIEW_NONE : a_OVERVIEW ≠ a_NONE) (ne_READ_NONE : a_READ ≠ a_NONE) (ne_COMMENT_NONE : a_COMMENT ≠ a_NONE) (ne_MODERATE_NONE : a_MODERATE ≠ a_NONE) (ne_EDIT_NONE : a_EDIT ≠ a_NONE) (ne_ADD_NONE : a_ADD ≠ a_NONE) (ne_DELETE_NONE : a_DELETE ≠ a_NONE) (ne_ADMIN_NONE : a_ADMIN ≠ a_NONE) :
    ∃ cc : Addr, ([.ref a_NONE, .ref a_OVERVIEW, .ref a_READ, .ref a_COMMENT, .ref a_MODERATE, .ref a_EDIT, .ref a_ADD, .ref a_DELETE, .ref a_ADMIN] : List Value).getD j.toNatClampNeg .null = .ref cc ∧ Exa Z h0 cc "com/example/exact_grant/exactgrant/model/AccessLevel" ∧ dnv cc a_NONE = exv j := by
  rcases own_nine h1 h2 with rfl | rfl | rfl | rfl | rfl | rfl | rfl | rfl | rfl
  · exact ⟨a_NONE, rfl, Ex_NONE, by rw [dnv, if_pos rfl]; rfl⟩
  · exact ⟨a_OVERVIEW, rfl, Ex_OVERVIEW, by rw [dnv, if_neg ne_OVERVIEW_NONE]; rfl⟩
  · exact ⟨a_READ, rfl, Ex_READ, by rw [dnv, if_neg ne_READ_NONE]; rfl⟩
  · exact ⟨a_COMMENT, rfl, Ex_COMMENT, by rw [dnv, if_neg ne_COMMENT_NONE]; rfl⟩
  · exact ⟨a_MODERATE, rfl, Ex_MODERATE, by rw [dnv, if_neg ne_MODERATE_NONE]; rfl⟩
  · exact ⟨a_EDIT, rfl, Ex_EDIT, by rw [dnv, if_neg ne_EDIT_NONE]; rfl⟩
  · exact ⟨a_ADD, rfl, Ex_ADD, by rw [dnv, if_neg ne_ADD_NONE]; rfl⟩
  · exact ⟨a_DELETE, rfl, Ex_DELETE, by rw [dnv, if_neg ne_DELETE_NONE]; rfl⟩
  · exact ⟨a_ADMIN, rfl, Ex_ADMIN, by rw [dnv, if_neg ne_ADMIN_NONE]; rfl⟩
def Q1 (Z : State) (a1 a_NONE : Addr) (h0 : Heap) (n0 : Nat) (v : Option Value) (h : Heap) (L : List Loc) : Prop := v = some (.int (dnv a1 a_NONE)) ∧ Fr n0 L ∧ h = h0
theorem ef_1 (m : MethodId) (a1 : Addr) : entryFrame m #[(.ref a1)] 1 = mkF m 0 #[.val (.ref a1)] [] := by first | (simp [entryFrame, mkF, argsToLocals, Value.category]; done) | rfl
set_option maxRecDepth 65536 in
set_option maxHeartbeats 40000000 in
theorem rm1 (l : Launch) (Z : State) (a0 : Array Value) (hw : ∀ d ∈ tables_1, d.before a0 Z = true) (ws : List Jvm.Cond) (a1 a_NONE : Addr) (h0 : Heap) (n0 : Nat) (Z0 : n0 ≤ h0.size) (S_NONE : Sta Z h0 "com/example/exact_grant/exactgrant/model/AccessLevel" "NONE" "Lcom/example/exact_grant/exactgrant/model/AccessLevel;" (.ref a_NONE)) :
    MetFree l (⟨"com/example/exact_grant/exactgrant/model/AccessLevel", "isDenial", "()Z"⟩ : MethodName) (head1 (Jvm.Cond.code (⟨"com/example/exact_grant/exactgrant/model/AccessLevel", "isDenial", "()Z"⟩ : MethodName) prog_9_method_7_code 1 (some .boolean) :: ws) ({ frames := 0, cells := 0, slots := 0, locals := 0 } : Room)) (fun a U => a = #[(.ref a1)] ∧ Z.Warmed39 U.vm ∧ U.heap = h0) (fun _ _ _ _ _ => True) (fun _ U o U' => ∃ v L, o = .returned v ∧ Q1 Z a1 a_NONE h0 n0 v U'.heap L ∧ FrameEnd U o U' L ({ frames := 0, cells := 0, slots := 0, locals := 0 } : Room).cells ({ frames := 0, cells := 0, slots := 0, locals := 0 } : Room).slots) := by
  refine MetFree.of_bodySF (plainFor_of_name pn_1) hisR ?_
  intro p e s m args below meth c s₁ Bd hml0 hP hK
  obtain ⟨rfl, hZ, hh⟩ := hP
  have hx := Bd.exec
  have hby := Bd.bytes
  have hml : c.maxLocals = 1 := hml0
  have hown : s.vm.findClass "com/example/exact_grant/exactgrant/model/AccessLevel" = some m.cls := findClass_of_methodNamed Bd.named
  have hnm := (name_of_methodNamed Bd.named Bd.method).1
  have X0 : Stand p l e ({ frames := 0, cells := 0, slots := 0, locals := 0 } : Room) s m #[(.ref a1)] below meth c s₁ [] 0 0 := Stand.of_body Bd
  have e0 : s₁.heap = h0 := by rw [← hh, Bd.state]; rfl
  have N0 := Fr.nil n0
  have pre0 : Lead p e below (s₁.setTop (mkF m 0 #[.val (.ref a1)] [])) (s₁.setTop (entryFrame m #[(.ref a1)] 1)) := fun t k => castTop (ef_1 m a1) k
  obtain ⟨T1, X1, e1, st1⟩ := getS2 X0 hx hZ hown (host := "") (Or.inl (hw _ (List.mem_of_getElem? (i := 28) rfl))) Via.refl e0 S_NONE (g := (mkF m 1 #[.val (.ref a1)] [(.ref a1)])) rfl (hb hby d1_1)
  have pre2 : Lead p e below (T1.setTop (mkF m 4 #[.val (.ref a1)] [(.ref a_NONE), (.ref a1)])) (s₁.setTop (entryFrame m #[(.ref a1)] 1)) := fun t k => by
    refine pre0 t ?_
    refine XS.aloadN X0.here hx rfl (hb hby d1_0) rfl rfl ?_
    show Steps p.tables e below (s₁.setTop (mkF m 1 #[.val (.ref a1)] [(.ref a1)])) _
    refine st1 _ ?_
    show Steps p.tables e below (T1.setTop (mkF m 4 #[.val (.ref a1)] [(.ref a_NONE), (.ref a1)])) _
    exact k
  by_cases h1 : a1 = a_NONE
  · skip
    have pre3 : Lead p e below (T1.setTop (mkF m 12 #[.val (.ref a1)] [(.int (1 : Int32))])) (s₁.setTop (entryFrame m #[(.ref a1)] 1)) := fun t k => by
      refine pre2 t ?_
      refine Jvm.RoadKit.acmp (g := (mkF m 4 #[.val (.ref a1)] [(.ref a_NONE), (.ref a1)])) X1 hx rfl rfl rfl (pc0 := 4) (pc' := 7) (same := true) rfl (hb hby d1_4) rfl (decide_eq_true (congrArg Value.ref h1)) (by decide) (by decide) ?_
      show Steps p.tables e below (T1.setTop (mkF m 7 #[.val (.ref a1)] [])) _
      refine XS.iconst X1.here hx rfl (hb hby d1_7) ?_
      show Steps p.tables e below (T1.setTop (mkF m 8 #[.val (.ref a1)] [(.int (1 : Int32))])) _
      refine XS.goto X1.here hx rfl (pc0 := 8) (pc' := 12) rfl (hb hby d1_8) (by decide) (by decide) ?_
      show Steps p.tables e below (T1.setTop (mkF m 12 #[.val (.ref a1)] [(.int (1 : Int32))])) _
      exact k
    obtain ⟨fs, hr, hrun, hended, hW, hsame⟩ := X1.leave (v := some (.int (1 : Int32))) (fun h => by rw [Bd.returns] at h; cases h)
    refine ⟨_, _, pre3 _ ?_, hrun, hended, _, _, rfl, ?_, ⟨_, rfl⟩, hW, hsame.mono (by decide) (by decide)⟩
    · exact retN X1 hx (t := .boolean) Bd.returns (by simp) (hb hby d1_12) hr
    · show Q1 Z a1 a_NONE h0 n0 _ T1.heap _
      rw [e1]
      exact ⟨by rw [dnv, if_pos h1], N0, rfl⟩
  · skip
    have pre4 : Lead p e below (T1.setTop (mkF m 12 #[.val (.ref a1)] [(.int (0 : Int32))])) (s₁.setTop (entryFrame m #[(.ref a1)] 1)) := fun t k => by
      refine pre2 t ?_
      refine Jvm.RoadKit.acmp (g := (mkF m 4 #[.val (.ref a1)] [(.ref a_NONE), (.ref a1)])) X1 hx rfl rfl rfl (pc0 := 4) (pc' := 11) (same := false) rfl (hb hby d1_4) rfl (decide_eq_false fun q => h1 (Value.ref.inj q)) (by decide) (by decide) ?_
      show Steps p.tables e below (T1.setTop (mkF m 11 #[.val (.ref a1)] [])) _
      refine XS.iconst X1.here hx rfl (hb hby d1_11) ?_
      show Steps p.tables e below (T1.setTop (mkF m 12 #[.val (.ref a1)] [(.int (0 : Int32))])) _
      exact k
    obtain ⟨fs, hr, hrun, hended, hW, hsame⟩ := X1.leave (v := some (.int (0 : Int32))) (fun h => by rw [Bd.returns] at h; cases h)
    refine ⟨_, _, pre4 _ ?_, hrun, hended, _, _, rfl, ?_, ⟨_, rfl⟩, hW, hsame.mono (by decide) (by decide)⟩
    · exact retN X1 hx (t := .boolean) Bd.returns (by simp) (hb hby d1_12) hr
    · show Q1 Z a1 a_NONE h0 n0 _ T1.heap _
      rw [e1]
      exact ⟨by rw [dnv, if_neg h1], N0, rfl⟩
def Q0 (Z : State) (p1 : Int32) (h0 : Heap) (n0 : Nat) (v : Option Value) (h : Heap) (L : List Loc) : Prop := v = some (.int (1 : Int32)) ∧ Fr n0 L
theorem ef_0 (m : MethodId) (p1 : Int32) : entryFrame m #[(.int p1)] maxLocals = mkF m 0 #[.val (.int p1), .unset, .unset, .unset, .unset] [] := by first | (simp [entryFrame, mkF, argsToLocals, Value.category, maxLocals]; done) | rfl
set_option maxRecDepth 65536 in
set_option maxHeartbeats 40000000 in
theorem rm0 (l : Launch) (Z : State) (a0 : Array Value) (hw : ∀ d ∈ tables_1, d.before a0 Z = true) (ws : List Jvm.Cond) (p1 : Int32) (a_NONE a_OVERVIEW a_READ a_COMMENT a_MODERATE a_EDIT a_ADD a_DELETE a_ADMIN : Addr) (h0 : Heap) (n0 : Nat) (Z0 : n0 ≤ h0.size) (S_NONE : Sta Z h0 "com/example/exact_grant/exactgrant/model/AccessLevel" "NONE" "Lcom/example/exact_grant/exactgrant/model/AccessLevel;" (.ref a_NONE)) (S_OVERVIEW : Sta Z h0 "com/example/exact_grant/exactgrant/model/AccessLevel" "OVERVIEW" "Lcom/example/exact_grant/exactgrant/model/AccessLevel;" (.ref a_OVERVIEW)) (S_READ : Sta Z h0 "com/example/exact_grant/exactgrant/model/AccessLevel" "READ" "Lcom/example/exact_grant/exactgrant/model/AccessLevel;" (.ref a_READ)) (S_COMMENT : Sta Z h0 "com/example/exact_grant/exactgrant/model/AccessLevel" "COMMENT" "Lcom/example/exact_grant/exactgrant/model/AccessLevel;" (.ref a_COMMENT)) (S_MODERATE : Sta Z h0 "com/example/exact_grant/exactgrant/model/AccessLevel" "MODERATE" "Lcom/example/exact_grant/exactgrant/model/AccessLevel;" (.ref a_MODERATE)) (S_EDIT : Sta Z h0 "com/example/exact_grant/exactgrant/model/AccessLevel" "EDIT" "Lcom/example/exact_grant/exactgrant/model/AccessLevel;" (.ref a_EDIT)) (S_ADD : Sta Z h0 "com/example/exact_grant/exactgrant/model/AccessLevel" "ADD" "Lcom/example/exact_grant/exactgrant/model/AccessLevel;" (.ref a_ADD)) (S_DELETE : Sta Z h0 "com/example/exact_grant/exactgrant/model/AccessLevel" "DELETE" "Lcom/example/exact_grant/exactgrant/model/AccessLevel;" (.ref a_DELETE)) (S_ADMIN : Sta Z h0 "com/example/exact_grant/exactgrant/model/AccessLevel" "ADMIN" "Lcom/example/exact_grant/exactgrant/model/AccessLevel;" (.ref a_ADMIN)) (Ex_NONE : Exa Z h0 a_NONE "com/example/exact_grant/exactgrant/model/AccessLevel") (Ex_OVERVIEW : Exa Z h0 a_OVERVIEW "com/example/exact_grant/exactgrant/model/AccessLevel") (Ex_READ : Exa Z h0 a_READ "com/example/exact_grant/exactgrant/model/AccessLevel") (Ex_COMMENT : Exa Z h0 a_COMMENT "com/example/exact_grant/exactgrant/model/AccessLevel") (Ex_MODERATE : Exa Z h0 a_MODERATE "com/example/exact_grant/exactgrant/model/AccessLevel") (Ex_EDIT : Exa Z h0 a_EDIT "com/example/exact_grant/exactgrant/model/AccessLevel") (Ex_ADD : Exa Z h0 a_ADD "com/example/exact_grant/exactgrant/model/AccessLevel") (Ex_DELETE : Exa Z h0 a_DELETE "com/example/exact_grant/exactgrant/model/AccessLevel") (Ex_ADMIN : Exa Z h0 a_ADMIN "com/example/exact_grant/exactgrant/model/AccessLevel") (ne_OVERVIEW_NONE : a_OVERVIEW ≠ a_NONE) (ne_READ_NONE : a_READ ≠ a_NONE) (ne_COMMENT_NONE : a_COMMENT ≠ a_NONE) (ne_MODERATE_NONE : a_MODERATE ≠ a_NONE) (ne_EDIT_NONE : a_EDIT ≠ a_NONE) (ne_ADD_NONE : a_ADD ≠ a_NONE) (ne_DELETE_NONE : a_DELETE ≠ a_NONE) (ne_ADMIN_NONE : a_ADMIN ≠ a_NONE) :
    MetFree l x (head1 (Jvm.Cond.code x code maxLocals ret :: ws) room_1) (fun a U => a = #[(.int p1)] ∧ Z.Warmed39 U.vm ∧ U.heap = h0) (fun _ _ _ _ _ => True) (fun _ U o U' => ∃ v L, o = .returned v ∧ Q0 Z p1 h0 n0 v U'.heap L ∧ FrameEnd U o U' L room_1.cells room_1.slots) := by
  refine MetFree.of_bodySF (plainFor_of_name pn_0) hisR ?_
  intro p e s m args below meth c s₁ Bd hml0 hP hK
  obtain ⟨rfl, hZ, hh⟩ := hP
  have hx := Bd.exec
  have hby := Bd.bytes
  have hml : c.maxLocals = 5 := hml0
  have hown : s.vm.findClass "com/example/exact_grant/exactgrant/model/AccessLevelIsDenialPinLaw" = some m.cls := findClass_of_methodNamed Bd.named
  have hnm := (name_of_methodNamed Bd.named Bd.method).1
  have X0 : Stand p l e room_1 s m #[(.int p1)] below meth c s₁ [] 0 0 := Stand.of_body Bd
  have e0 : s₁.heap = h0 := by rw [← hh, Bd.state]; rfl
  have N0 := Fr.nil n0
  have pre0 : Lead p e below (s₁.setTop (mkF m 0 #[.val (.int p1), .unset, .unset, .unset, .unset] [])) (s₁.setTop (entryFrame m #[(.int p1)] maxLocals)) := fun t k => castTop (ef_0 m p1) k
  obtain ⟨T5, h5, k5, X5, e5, E5, A5, O5, st5⟩ := newR X0 hx hZ hown (hw _ (List.mem_of_getElem? (i := 0) rfl)) (hw _ (List.mem_of_getElem? (i := 1) rfl)) e0 (g := (mkF m 2 #[.val (.int p1), .unset, .unset, .unset, .unset] [(.int (9 : Int32))])) rfl (hb hby at_2) rfl (by decide) (cap := 9) (by decide) (by decide) (by decide) (by decide)
  obtain ⟨b5, g5⟩ : ∃ z, z = h0.size := ⟨_, rfl⟩
  rw [← g5] at A5 st5
  have gb5 : n0 ≤ b5 := Nat.le_trans Z0 (Nat.le_of_eq g5.symm)
  have sz5 : h0.size ≤ b5 := Nat.le_of_eq g5.symm
  have V5 : Arv Z h5 b5 k5 (.object "com/example/exact_grant/exactgrant/model/AccessLevel") (9 : Int32) [.null, .null, .null, .null, .null, .null, .null, .null, .null] .null := (Arv.new A5 (by decide)).pad (pad_rep [] .null 9)
  obtain ⟨T6, X6, e6, st6⟩ := getS2 X5 hx hZ hown (host := "") (Or.inl (hw _ (List.mem_of_getElem? (i := 2) rfl))) Via.refl e5 (S_NONE.ext E5) (g := (mkF m 7 #[.val (.int p1), .unset, .unset, .unset, .unset] [(.int (0 : Int32)), (.ref b5), (.ref b5)])) rfl (hb hby at_7)
  obtain ⟨cl7, Ar7, q7, Sz7, Nn7, Ha7, Ga7⟩ := V5
  have hin7 : ¬ ((0 : Int32) < 0 ∨ cl7.slots.size ≤ ((0 : Int32)).toNatClampNeg) := inb_of Sz7 ⟨by decide, by decide⟩
  obtain ⟨T7, h7, X7, e7, W7, st7⟩ := stR X6 hx hZ e6 Ar7 (j := (0 : Int32)) hin7 rfl (Sto.ofV Ar7 q7 O5 (Ins.self (Ex_NONE.ext E5))) (g := (mkF m 10 #[.val (.int p1), .unset, .unset, .unset, .unset] [(.ref a_NONE), (.int (0 : Int32)), (.ref b5), (.ref b5)])) rfl rfl (hb hby at_10)
  have V7 : Arv Z h7 b5 k5 (.object "com/example/exact_grant/exactgrant/model/AccessLevel") (9 : Int32) [(.ref a_NONE), .null, .null, .null, .null, .null, .null, .null, .null] .null := Arv.set Ar7 q7 Sz7 Nn7 Ha7 Ga7 rfl W7 0 rfl (Nat.le_of_ble_eq_true rfl)
  have E7 := own_extwr E5 W7 sz5
  have N7 := Fr.snoc X7 N0 gb5
  obtain ⟨T8, X8, e8, st8⟩ := getS2 X7 hx hZ hown (host := "") (Or.inl (hw _ (List.mem_of_getElem? (i := 6) rfl))) Via.refl e7 (S_OVERVIEW.ext E7) (g := (mkF m 13 #[.val (.int p1), .unset, .unset, .unset, .unset] [(.int (1 : Int32)), (.ref b5), (.ref b5)])) rfl (hb hby at_13)
  obtain ⟨cl9, Ar9, q9, Sz9, Nn9, Ha9, Ga9⟩ := V7
  have hin9 : ¬ ((1 : Int32) < 0 ∨ cl9.slots.size ≤ ((1 : Int32)).toNatClampNeg) := inb_of Sz9 ⟨by decide, by decide⟩
  obtain ⟨T9, h9, X9, e9, W9, st9⟩ := stR X8 hx hZ e8 Ar9 (j := (1 : Int32)) hin9 rfl (Sto.ofV Ar9 q9 O5 (Ins.self (Ex_OVERVIEW.ext E7))) (g := (mkF m 16 #[.val (.int p1), .unset, .unset, .unset, .unset] [(.ref a_OVERVIEW), (.int (1 : Int32)), (.ref b5), (.ref b5)])) rfl rfl (hb hby at_16)
  have V9 : Arv Z h9 b5 k5 (.object "com/example/exact_grant/exactgrant/model/AccessLevel") (9 : Int32) [(.ref a_NONE), (.ref a_OVERVIEW), .null, .null, .null, .null, .null, .null, .null] .null := Arv.set Ar9 q9 Sz9 Nn9 Ha9 Ga9 rfl W9 1 rfl (Nat.le_of_ble_eq_true rfl)
  have E9 := own_extwr E7 W9 sz5
  have N9 := Fr.snoc X9 N7 gb5
  obtain ⟨T10, X10, e10, st10⟩ := getS2 X9 hx hZ hown (host := "") (Or.inl (hw _ (List.mem_of_getElem? (i := 8) rfl))) Via.refl e9 (S_READ.ext E9) (g := (mkF m 19 #[.val (.int p1), .unset, .unset, .unset, .unset] [(.int (2 : Int32)), (.ref b5), (.ref b5)])) rfl (hb hby at_19)
  obtain ⟨cl11, Ar11, q11, Sz11, Nn11, Ha11, Ga11⟩ := V9
  have hin11 : ¬ ((2 : Int32) < 0 ∨ cl11.slots.size ≤ ((2 : Int32)).toNatClampNeg) := inb_of Sz11 ⟨by decide, by decide⟩
  obtain ⟨T11, h11, X11, e11, W11, st11⟩ := stR X10 hx hZ e10 Ar11 (j := (2 : Int32)) hin11 rfl (Sto.ofV Ar11 q11 O5 (Ins.self (Ex_READ.ext E9))) (g := (mkF m 22 #[.val (.int p1), .unset, .unset, .unset, .unset] [(.ref a_READ), (.int (2 : Int32)), (.ref b5), (.ref b5)])) rfl rfl (hb hby at_22)
  have V11 : Arv Z h11 b5 k5 (.object "com/example/exact_grant/exactgrant/model/AccessLevel") (9 : Int32) [(.ref a_NONE), (.ref a_OVERVIEW), (.ref a_READ), .null, .null, .null, .null, .null, .null] .null := Arv.set Ar11 q11 Sz11 Nn11 Ha11 Ga11 rfl W11 2 rfl (Nat.le_of_ble_eq_true rfl)
  have E11 := own_extwr E9 W11 sz5
  have N11 := Fr.snoc X11 N9 gb5
  obtain ⟨T12, X12, e12, st12⟩ := getS2 X11 hx hZ hown (host := "") (Or.inl (hw _ (List.mem_of_getElem? (i := 10) rfl))) Via.refl e11 (S_COMMENT.ext E11) (g := (mkF m 25 #[.val (.int p1), .unset, .unset, .unset, .unset] [(.int (3 : Int32)), (.ref b5), (.ref b5)])) rfl (hb hby at_25)
  obtain ⟨cl13, Ar13, q13, Sz13, Nn13, Ha13, Ga13⟩ := V11
  have hin13 : ¬ ((3 : Int32) < 0 ∨ cl13.slots.size ≤ ((3 : Int32)).toNatClampNeg) := inb_of Sz13 ⟨by decide, by decide⟩
  obtain ⟨T13, h13, X13, e13, W13, st13⟩ := stR X12 hx hZ e12 Ar13 (j := (3 : Int32)) hin13 rfl (Sto.ofV Ar13 q13 O5 (Ins.self (Ex_COMMENT.ext E11))) (g := (mkF m 28 #[.val (.int p1), .unset, .unset, .unset, .unset] [(.ref a_COMMENT), (.int (3 : Int32)), (.ref b5), (.ref b5)])) rfl rfl (hb hby at_28)
  have V13 : Arv Z h13 b5 k5 (.object "com/example/exact_grant/exactgrant/model/AccessLevel") (9 : Int32) [(.ref a_NONE), (.ref a_OVERVIEW), (.ref a_READ), (.ref a_COMMENT), .null, .null, .null, .null, .null] .null := Arv.set Ar13 q13 Sz13 Nn13 Ha13 Ga13 rfl W13 3 rfl (Nat.le_of_ble_eq_true rfl)
  have E13 := own_extwr E11 W13 sz5
  have N13 := Fr.snoc X13 N11 gb5
  obtain ⟨T14, X14, e14, st14⟩ := getS2 X13 hx hZ hown (host := "") (Or.inl (hw _ (List.mem_of_getElem? (i := 12) rfl))) Via.refl e13 (S_MODERATE.ext E13) (g := (mkF m 31 #[.val (.int p1), .unset, .unset, .unset, .unset] [(.int (4 : Int32)), (.ref b5), (.ref b5)])) rfl (hb hby at_31)
  obtain ⟨cl15, Ar15, q15, Sz15, Nn15, Ha15, Ga15⟩ := V13
  have hin15 : ¬ ((4 : Int32) < 0 ∨ cl15.slots.size ≤ ((4 : Int32)).toNatClampNeg) := inb_of Sz15 ⟨by decide, by decide⟩
  obtain ⟨T15, h15, X15, e15, W15, st15⟩ := stR X14 hx hZ e14 Ar15 (j := (4 : Int32)) hin15 rfl (Sto.ofV Ar15 q15 O5 (Ins.self (Ex_MODERATE.ext E13))) (g := (mkF m 34 #[.val (.int p1), .unset, .unset, .unset, .unset] [(.ref a_MODERATE), (.int (4 : Int32)), (.ref b5), (.ref b5)])) rfl rfl (hb hby at_34)
  have V15 : Arv Z h15 b5 k5 (.object "com/example/exact_grant/exactgrant/model/AccessLevel") (9 : Int32) [(.ref a_NONE), (.ref a_OVERVIEW), (.ref a_READ), (.ref a_COMMENT), (.ref a_MODERATE), .null, .null, .null, .null] .null := Arv.set Ar15 q15 Sz15 Nn15 Ha15 Ga15 rfl W15 4 rfl (Nat.le_of_ble_eq_true rfl)
  have E15 := own_extwr E13 W15 sz5
  have N15 := Fr.snoc X15 N13 gb5
  obtain ⟨T16, X16, e16, st16⟩ := getS2 X15 hx hZ hown (host := "") (Or.inl (hw _ (List.mem_of_getElem? (i := 14) rfl))) Via.refl e15 (S_EDIT.ext E15) (g := (mkF m 37 #[.val (.int p1), .unset, .unset, .unset, .unset] [(.int (5 : Int32)), (.ref b5), (.ref b5)])) rfl (hb hby at_37)
  obtain ⟨cl17, Ar17, q17, Sz17, Nn17, Ha17, Ga17⟩ := V15
  have hin17 : ¬ ((5 : Int32) < 0 ∨ cl17.slots.size ≤ ((5 : Int32)).toNatClampNeg) := inb_of Sz17 ⟨by decide, by decide⟩
  obtain ⟨T17, h17, X17, e17, W17, st17⟩ := stR X16 hx hZ e16 Ar17 (j := (5 : Int32)) hin17 rfl (Sto.ofV Ar17 q17 O5 (Ins.self (Ex_EDIT.ext E15))) (g := (mkF m 40 #[.val (.int p1), .unset, .unset, .unset, .unset] [(.ref a_EDIT), (.int (5 : Int32)), (.ref b5), (.ref b5)])) rfl rfl (hb hby at_40)
  have V17 : Arv Z h17 b5 k5 (.object "com/example/exact_grant/exactgrant/model/AccessLevel") (9 : Int32) [(.ref a_NONE), (.ref a_OVERVIEW), (.ref a_READ), (.ref a_COMMENT), (.ref a_MODERATE), (.ref a_EDIT), .null, .null, .null] .null := Arv.set Ar17 q17 Sz17 Nn17 Ha17 Ga17 rfl W17 5 rfl (Nat.le_of_ble_eq_true rfl)
  have E17 := own_extwr E15 W17 sz5
  have N17 := Fr.snoc X17 N15 gb5
  obtain ⟨T18, X18, e18, st18⟩ := getS2 X17 hx hZ hown (host := "") (Or.inl (hw _ (List.mem_of_getElem? (i := 16) rfl))) Via.refl e17 (S_ADD.ext E17) (g := (mkF m 44 #[.val (.int p1), .unset, .unset, .unset, .unset] [(.int (6 : Int32)), (.ref b5), (.ref b5)])) rfl (hb hby at_44)
  obtain ⟨cl19, Ar19, q19, Sz19, Nn19, Ha19, Ga19⟩ := V17
  have hin19 : ¬ ((6 : Int32) < 0 ∨ cl19.slots.size ≤ ((6 : Int32)).toNatClampNeg) := inb_of Sz19 ⟨by decide, by decide⟩
  obtain ⟨T19, h19, X19, e19, W19, st19⟩ := stR X18 hx hZ e18 Ar19 (j := (6 : Int32)) hin19 rfl (Sto.ofV Ar19 q19 O5 (Ins.self (Ex_ADD.ext E17))) (g := (mkF m 47 #[.val (.int p1), .unset, .unset, .unset, .unset] [(.ref a_ADD), (.int (6 : Int32)), (.ref b5), (.ref b5)])) rfl rfl (hb hby at_47)
  have V19 : Arv Z h19 b5 k5 (.object "com/example/exact_grant/exactgrant/model/AccessLevel") (9 : Int32) [(.ref a_NONE), (.ref a_OVERVIEW), (.ref a_READ), (.ref a_COMMENT), (.ref a_MODERATE), (.ref a_EDIT), (.ref a_ADD), .null, .null] .null := Arv.set Ar19 q19 Sz19 Nn19 Ha19 Ga19 rfl W19 6 rfl (Nat.le_of_ble_eq_true rfl)
  have E19 := own_extwr E17 W19 sz5
  have N19 := Fr.snoc X19 N17 gb5
  obtain ⟨T20, X20, e20, st20⟩ := getS2 X19 hx hZ hown (host := "") (Or.inl (hw _ (List.mem_of_getElem? (i := 18) rfl))) Via.refl e19 (S_DELETE.ext E19) (g := (mkF m 51 #[.val (.int p1), .unset, .unset, .unset, .unset] [(.int (7 : Int32)), (.ref b5), (.ref b5)])) rfl (hb hby at_51)
  obtain ⟨cl21, Ar21, q21, Sz21, Nn21, Ha21, Ga21⟩ := V19
  have hin21 : ¬ ((7 : Int32) < 0 ∨ cl21.slots.size ≤ ((7 : Int32)).toNatClampNeg) := inb_of Sz21 ⟨by decide, by decide⟩
  obtain ⟨T21, h21, X21, e21, W21, st21⟩ := stR X20 hx hZ e20 Ar21 (j := (7 : Int32)) hin21 rfl (Sto.ofV Ar21 q21 O5 (Ins.self (Ex_DELETE.ext E19))) (g := (mkF m 54 #[.val (.int p1), .unset, .unset, .unset, .unset] [(.ref a_DELETE), (.int (7 : Int32)), (.ref b5), (.ref b5)])) rfl rfl (hb hby at_54)
  have V21 : Arv Z h21 b5 k5 (.object "com/example/exact_grant/exactgrant/model/AccessLevel") (9 : Int32) [(.ref a_NONE), (.ref a_OVERVIEW), (.ref a_READ), (.ref a_COMMENT), (.ref a_MODERATE), (.ref a_EDIT), (.ref a_ADD), (.ref a_DELETE), .null] .null := Arv.set Ar21 q21 Sz21 Nn21 Ha21 Ga21 rfl W21 7 rfl (Nat.le_of_ble_eq_true rfl)
  have E21 := own_extwr E19 W21 sz5
  have N21 := Fr.snoc X21 N19 gb5
  obtain ⟨T22, X22, e22, st22⟩ := getS2 X21 hx hZ hown (host := "") (Or.inl (hw _ (List.mem_of_getElem? (i := 20) rfl))) Via.refl e21 (S_ADMIN.ext E21) (g := (mkF m 58 #[.val (.int p1), .unset, .unset, .unset, .unset] [(.int (8 : Int32)), (.ref b5), (.ref b5)])) rfl (hb hby at_58)
  obtain ⟨cl23, Ar23, q23, Sz23, Nn23, Ha23, Ga23⟩ := V21
  have hin23 : ¬ ((8 : Int32) < 0 ∨ cl23.slots.size ≤ ((8 : Int32)).toNatClampNeg) := inb_of Sz23 ⟨by decide, by decide⟩
  obtain ⟨T23, h23, X23, e23, W23, st23⟩ := stR X22 hx hZ e22 Ar23 (j := (8 : Int32)) hin23 rfl (Sto.ofV Ar23 q23 O5 (Ins.self (Ex_ADMIN.ext E21))) (g := (mkF m 61 #[.val (.int p1), .unset, .unset, .unset, .unset] [(.ref a_ADMIN), (.int (8 : Int32)), (.ref b5), (.ref b5)])) rfl rfl (hb hby at_61)
  have V23 : Arv Z h23 b5 k5 (.object "com/example/exact_grant/exactgrant/model/AccessLevel") (9 : Int32) [(.ref a_NONE), (.ref a_OVERVIEW), (.ref a_READ), (.ref a_COMMENT), (.ref a_MODERATE), (.ref a_EDIT), (.ref a_ADD), (.ref a_DELETE), (.ref a_ADMIN)] .null := Arv.set Ar23 q23 Sz23 Nn23 Ha23 Ga23 rfl W23 8 rfl (Nat.le_of_ble_eq_true rfl)
  have E23 := own_extwr E21 W23 sz5
  have N23 := Fr.snoc X23 N21 gb5
  have pre24 : Lead p e below (T23.setTop (mkF m 62 #[.val (.int p1), .unset, .unset, .unset, .unset] [(.ref b5)])) (s₁.setTop (entryFrame m #[(.int p1)] maxLocals)) := fun t k => by
    refine pre0 t ?_
    refine XS.bipush X0.here hx rfl (hb hby at_0) ?_
    show Steps p.tables e below (s₁.setTop (mkF m 2 #[.val (.int p1), .unset, .unset, .unset, .unset] [(.int (9 : Int32))])) _
    refine st5 _ ?_
    show Steps p.tables e below (T5.setTop (mkF m 5 #[.val (.int p1), .unset, .unset, .unset, .unset] [(.ref b5)])) _
    refine XS.dup X5.here hx rfl (hb hby at_5) rfl rfl ?_
    show Steps p.tables e below (T5.setTop (mkF m 6 #[.val (.int p1), .unset, .unset, .unset, .unset] [(.ref b5), (.ref b5)])) _
    refine XS.iconst X5.here hx rfl (hb hby at_6) ?_
    show Steps p.tables e below (T5.setTop (mkF m 7 #[.val (.int p1), .unset, .unset, .unset, .unset] [(.int (0 : Int32)), (.ref b5), (.ref b5)])) _
    refine st6 _ ?_
    show Steps p.tables e below (T6.setTop (mkF m 10 #[.val (.int p1), .unset, .unset, .unset, .unset] [(.ref a_NONE), (.int (0 : Int32)), (.ref b5), (.ref b5)])) _
    refine st7 _ ?_
    show Steps p.tables e below (T7.setTop (mkF m 11 #[.val (.int p1), .unset, .unset, .unset, .unset] [(.ref b5)])) _
    refine XS.dup X7.here hx rfl (hb hby at_11) rfl rfl ?_
    show Steps p.tables e below (T7.setTop (mkF m 12 #[.val (.int p1), .unset, .unset, .unset, .unset] [(.ref b5), (.ref b5)])) _
    refine XS.iconst X7.here hx rfl (hb hby at_12) ?_
    show Steps p.tables e below (T7.setTop (mkF m 13 #[.val (.int p1), .unset, .unset, .unset, .unset] [(.int (1 : Int32)), (.ref b5), (.ref b5)])) _
    refine st8 _ ?_
    show Steps p.tables e below (T8.setTop (mkF m 16 #[.val (.int p1), .unset, .unset, .unset, .unset] [(.ref a_OVERVIEW), (.int (1 : Int32)), (.ref b5), (.ref b5)])) _
    refine st9 _ ?_
    show Steps p.tables e below (T9.setTop (mkF m 17 #[.val (.int p1), .unset, .unset, .unset, .unset] [(.ref b5)])) _
    refine XS.dup X9.here hx rfl (hb hby at_17) rfl rfl ?_
    show Steps p.tables e below (T9.setTop (mkF m 18 #[.val (.int p1), .unset, .unset, .unset, .unset] [(.ref b5), (.ref b5)])) _
    refine XS.iconst X9.here hx rfl (hb hby at_18) ?_
    show Steps p.tables e below (T9.setTop (mkF m 19 #[.val (.int p1), .unset, .unset, .unset, .unset] [(.int (2 : Int32)), (.ref b5), (.ref b5)])) _
    refine st10 _ ?_
    show Steps p.tables e below (T10.setTop (mkF m 22 #[.val (.int p1), .unset, .unset, .unset, .unset] [(.ref a_READ), (.int (2 : Int32)), (.ref b5), (.ref b5)])) _
    refine st11 _ ?_
    show Steps p.tables e below (T11.setTop (mkF m 23 #[.val (.int p1), .unset, .unset, .unset, .unset] [(.ref b5)])) _
    refine XS.dup X11.here hx rfl (hb hby at_23) rfl rfl ?_
    show Steps p.tables e below (T11.setTop (mkF m 24 #[.val (.int p1), .unset, .unset, .unset, .unset] [(.ref b5), (.ref b5)])) _
    refine XS.iconst X11.here hx rfl (hb hby at_24) ?_
    show Steps p.tables e below (T11.setTop (mkF m 25 #[.val (.int p1), .unset, .unset, .unset, .unset] [(.int (3 : Int32)), (.ref b5), (.ref b5)])) _
    refine st12 _ ?_
    show Steps p.tables e below (T12.setTop (mkF m 28 #[.val (.int p1), .unset, .unset, .unset, .unset] [(.ref a_COMMENT), (.int (3 : Int32)), (.ref b5), (.ref b5)])) _
    refine st13 _ ?_
    show Steps p.tables e below (T13.setTop (mkF m 29 #[.val (.int p1), .unset, .unset, .unset, .unset] [(.ref b5)])) _
    refine XS.dup X13.here hx rfl (hb hby at_29) rfl rfl ?_
    show Steps p.tables e below (T13.setTop (mkF m 30 #[.val (.int p1), .unset, .unset, .unset, .unset] [(.ref b5), (.ref b5)])) _
    refine XS.iconst X13.here hx rfl (hb hby at_30) ?_
    show Steps p.tables e below (T13.setTop (mkF m 31 #[.val (.int p1), .unset, .unset, .unset, .unset] [(.int (4 : Int32)), (.ref b5), (.ref b5)])) _
    refine st14 _ ?_
    show Steps p.tables e below (T14.setTop (mkF m 34 #[.val (.int p1), .unset, .unset, .unset, .unset] [(.ref a_MODERATE), (.int (4 : Int32)), (.ref b5), (.ref b5)])) _
    refine st15 _ ?_
    show Steps p.tables e below (T15.setTop (mkF m 35 #[.val (.int p1), .unset, .unset, .unset, .unset] [(.ref b5)])) _
    refine XS.dup X15.here hx rfl (hb hby at_35) rfl rfl ?_
    show Steps p.tables e below (T15.setTop (mkF m 36 #[.val (.int p1), .unset, .unset, .unset, .unset] [(.ref b5), (.ref b5)])) _
    refine XS.iconst X15.here hx rfl (hb hby at_36) ?_
    show Steps p.tables e below (T15.setTop (mkF m 37 #[.val (.int p1), .unset, .unset, .unset, .unset] [(.int (5 : Int32)), (.ref b5), (.ref b5)])) _
    refine st16 _ ?_
    show Steps p.tables e below (T16.setTop (mkF m 40 #[.val (.int p1), .unset, .unset, .unset, .unset] [(.ref a_EDIT), (.int (5 : Int32)), (.ref b5), (.ref b5)])) _
    refine st17 _ ?_
    show Steps p.tables e below (T17.setTop (mkF m 41 #[.val (.int p1), .unset, .unset, .unset, .unset] [(.ref b5)])) _
    refine XS.dup X17.here hx rfl (hb hby at_41) rfl rfl ?_
    show Steps p.tables e below (T17.setTop (mkF m 42 #[.val (.int p1), .unset, .unset, .unset, .unset] [(.ref b5), (.ref b5)])) _
    refine XS.bipush X17.here hx rfl (hb hby at_42) ?_
    show Steps p.tables e below (T17.setTop (mkF m 44 #[.val (.int p1), .unset, .unset, .unset, .unset] [(.int (6 : Int32)), (.ref b5), (.ref b5)])) _
    refine st18 _ ?_
    show Steps p.tables e below (T18.setTop (mkF m 47 #[.val (.int p1), .unset, .unset, .unset, .unset] [(.ref a_ADD), (.int (6 : Int32)), (.ref b5), (.ref b5)])) _
    refine st19 _ ?_
    show Steps p.tables e below (T19.setTop (mkF m 48 #[.val (.int p1), .unset, .unset, .unset, .unset] [(.ref b5)])) _
    refine XS.dup X19.here hx rfl (hb hby at_48) rfl rfl ?_
    show Steps p.tables e below (T19.setTop (mkF m 49 #[.val (.int p1), .unset, .unset, .unset, .unset] [(.ref b5), (.ref b5)])) _
    refine XS.bipush X19.here hx rfl (hb hby at_49) ?_
    show Steps p.tables e below (T19.setTop (mkF m 51 #[.val (.int p1), .unset, .unset, .unset, .unset] [(.int (7 : Int32)), (.ref b5), (.ref b5)])) _
    refine st20 _ ?_
    show Steps p.tables e below (T20.setTop (mkF m 54 #[.val (.int p1), .unset, .unset, .unset, .unset] [(.ref a_DELETE), (.int (7 : Int32)), (.ref b5), (.ref b5)])) _
    refine st21 _ ?_
    show Steps p.tables e below (T21.setTop (mkF m 55 #[.val (.int p1), .unset, .unset, .unset, .unset] [(.ref b5)])) _
    refine XS.dup X21.here hx rfl (hb hby at_55) rfl rfl ?_
    show Steps p.tables e below (T21.setTop (mkF m 56 #[.val (.int p1), .unset, .unset, .unset, .unset] [(.ref b5), (.ref b5)])) _
    refine XS.bipush X21.here hx rfl (hb hby at_56) ?_
    show Steps p.tables e below (T21.setTop (mkF m 58 #[.val (.int p1), .unset, .unset, .unset, .unset] [(.int (8 : Int32)), (.ref b5), (.ref b5)])) _
    refine st22 _ ?_
    show Steps p.tables e below (T22.setTop (mkF m 61 #[.val (.int p1), .unset, .unset, .unset, .unset] [(.ref a_ADMIN), (.int (8 : Int32)), (.ref b5), (.ref b5)])) _
    refine st23 _ ?_
    show Steps p.tables e below (T23.setTop (mkF m 62 #[.val (.int p1), .unset, .unset, .unset, .unset] [(.ref b5)])) _
    exact k
  obtain ⟨cc, hcc, EJ, hv⟩ := own_at (Z := Z) (h0 := h0) (own_rem p1).1 (own_rem p1).2 Ex_NONE Ex_OVERVIEW Ex_READ Ex_COMMENT Ex_MODERATE Ex_EDIT Ex_ADD Ex_DELETE Ex_ADMIN ne_OVERVIEW_NONE ne_READ_NONE ne_COMMENT_NONE ne_MODERATE_NONE ne_EDIT_NONE ne_ADD_NONE ne_DELETE_NONE ne_ADMIN_NONE
  obtain ⟨clA, ArA, -, SzA, -, HaA, -⟩ := V23
  have hinA := inb_of SzA (own_rem p1)
  have pre25 : Lead p e below (T23.setTop (mkF m 76 #[.val (.int p1), .val (.ref b5), .val (.int ((p1 &&& (2147483647 : Int32)) % (9 : Int32))), .val (.ref cc), .unset] [(.int ((p1 &&& (2147483647 : Int32)) % (9 : Int32)))])) (s₁.setTop (entryFrame m #[(.int p1)] maxLocals)) := fun t k => by
    refine pre24 t ?_
    refine XS.astoreN X23.here hx rfl (hb hby at_62) rfl rfl (l' := #[.val (.int p1), .val (.ref b5), .unset, .unset, .unset]) rfl ?_
    show Steps p.tables e below (T23.setTop (mkF m 63 #[.val (.int p1), .val (.ref b5), .unset, .unset, .unset] [])) _
    refine XS.iloadN X23.here hx rfl (hb hby at_63) rfl ?_
    show Steps p.tables e below (T23.setTop (mkF m 64 #[.val (.int p1), .val (.ref b5), .unset, .unset, .unset] [(.int p1)])) _
    refine X23.ldcInt hx hown (mvT hZ (hw _ (List.mem_of_getElem? (i := 22) rfl))) (g := (mkF m 64 #[.val (.int p1), .val (.ref b5), .unset, .unset, .unset] [(.int p1)])) rfl (hb hby at_64) _ ?_
    show Steps p.tables e below (T23.setTop (mkF m 66 #[.val (.int p1), .val (.ref b5), .unset, .unset, .unset] [(.int (2147483647 : Int32)), (.int p1)])) _
    refine XS.iand X23.here hx rfl (hb hby at_66) rfl ?_
    show Steps p.tables e below (T23.setTop (mkF m 67 #[.val (.int p1), .val (.ref b5), .unset, .unset, .unset] [(.int (p1 &&& (2147483647 : Int32)))])) _
    refine XS.bipush X23.here hx rfl (hb hby at_67) ?_
    show Steps p.tables e below (T23.setTop (mkF m 69 #[.val (.int p1), .val (.ref b5), .unset, .unset, .unset] [(.int (9 : Int32)), (.int (p1 &&& (2147483647 : Int32)))])) _
    refine iremM (g := (mkF m 69 #[.val (.int p1), .val (.ref b5), .unset, .unset, .unset] [(.int (9 : Int32)), (.int (p1 &&& (2147483647 : Int32)))])) X23 hx rfl (hb hby at_69) rfl (by decide) ?_
    show Steps p.tables e below (T23.setTop (mkF m 70 #[.val (.int p1), .val (.ref b5), .unset, .unset, .unset] [(.int ((p1 &&& (2147483647 : Int32)) % (9 : Int32)))])) _
    refine XS.istoreN X23.here hx rfl (hb hby at_70) rfl (l' := #[.val (.int p1), .val (.ref b5), .val (.int ((p1 &&& (2147483647 : Int32)) % (9 : Int32))), .unset, .unset]) rfl ?_
    show Steps p.tables e below (T23.setTop (mkF m 71 #[.val (.int p1), .val (.ref b5), .val (.int ((p1 &&& (2147483647 : Int32)) % (9 : Int32))), .unset, .unset] [])) _
    refine XS.aloadN X23.here hx rfl (hb hby at_71) rfl rfl ?_
    show Steps p.tables e below (T23.setTop (mkF m 72 #[.val (.int p1), .val (.ref b5), .val (.int ((p1 &&& (2147483647 : Int32)) % (9 : Int32))), .unset, .unset] [(.ref b5)])) _
    refine XS.iloadN X23.here hx rfl (hb hby at_72) rfl ?_
    show Steps p.tables e below (T23.setTop (mkF m 73 #[.val (.int p1), .val (.ref b5), .val (.int ((p1 &&& (2147483647 : Int32)) % (9 : Int32))), .unset, .unset] [(.int ((p1 &&& (2147483647 : Int32)) % (9 : Int32))), (.ref b5)])) _
    refine X23.aaload hx (j := ((p1 &&& (2147483647 : Int32)) % (9 : Int32))) (v := .ref cc) (by rw [e23]; exact ArA.1) (State.isArrayOf_alike hZ.alike ArA.2.1) rfl ArA.2.2 hinA (HaA.at hinA hcc) (g := (mkF m 73 #[.val (.int p1), .val (.ref b5), .val (.int ((p1 &&& (2147483647 : Int32)) % (9 : Int32))), .unset, .unset] [(.int ((p1 &&& (2147483647 : Int32)) % (9 : Int32))), (.ref b5)])) rfl rfl (hb hby at_73) _ ?_
    show Steps p.tables e below (T23.setTop (mkF m 74 #[.val (.int p1), .val (.ref b5), .val (.int ((p1 &&& (2147483647 : Int32)) % (9 : Int32))), .unset, .unset] [(.ref cc)])) _
    refine XS.astoreN X23.here hx rfl (hb hby at_74) rfl rfl (l' := #[.val (.int p1), .val (.ref b5), .val (.int ((p1 &&& (2147483647 : Int32)) % (9 : Int32))), .val (.ref cc), .unset]) rfl ?_
    show Steps p.tables e below (T23.setTop (mkF m 75 #[.val (.int p1), .val (.ref b5), .val (.int ((p1 &&& (2147483647 : Int32)) % (9 : Int32))), .val (.ref cc), .unset] [])) _
    refine XS.iloadN X23.here hx rfl (hb hby at_75) rfl ?_
    show Steps p.tables e below (T23.setTop (mkF m 76 #[.val (.int p1), .val (.ref b5), .val (.int ((p1 &&& (2147483647 : Int32)) % (9 : Int32))), .val (.ref cc), .unset] [(.int ((p1 &&& (2147483647 : Int32)) % (9 : Int32)))])) _
    exact k
  have preK : Lead p e below (T23.setTop (mkF m 86 #[.val (.int p1), .val (.ref b5), .val (.int ((p1 &&& (2147483647 : Int32)) % (9 : Int32))), .val (.ref cc), .val (.int (exv ((p1 &&& (2147483647 : Int32)) % (9 : Int32))))] [])) (s₁.setTop (entryFrame m #[(.int p1)] maxLocals)) := by
    by_cases h5 : ((p1 &&& (2147483647 : Int32)) % (9 : Int32)) = (0 : Int32)
    · skip
      have hw4 : exv ((p1 &&& (2147483647 : Int32)) % (9 : Int32)) = (1 : Int32) := by rw [exv, if_pos h5]
      rw [hw4]
      have pre26 : Lead p e below (T23.setTop (mkF m 86 #[.val (.int p1), .val (.ref b5), .val (.int ((p1 &&& (2147483647 : Int32)) % (9 : Int32))), .val (.ref cc), .val (.int (1 : Int32))] [])) (s₁.setTop (entryFrame m #[(.int p1)] maxLocals)) := fun t k => by
        refine pre25 t ?_
        refine XS.ifNo X23.here hx rfl (hb hby at_76) rfl ((if0 _ _).trans (teq h5).2) ?_
        show Steps p.tables e below (T23.setTop (mkF m 79 #[.val (.int p1), .val (.ref b5), .val (.int ((p1 &&& (2147483647 : Int32)) % (9 : Int32))), .val (.ref cc), .unset] [])) _
        refine XS.iconst X23.here hx rfl (hb hby at_79) ?_
        show Steps p.tables e below (T23.setTop (mkF m 80 #[.val (.int p1), .val (.ref b5), .val (.int ((p1 &&& (2147483647 : Int32)) % (9 : Int32))), .val (.ref cc), .unset] [(.int (1 : Int32))])) _
        refine XS.goto X23.here hx rfl (pc0 := 80) (pc' := 84) rfl (hb hby at_80) (by decide) (by decide) ?_
        show Steps p.tables e below (T23.setTop (mkF m 84 #[.val (.int p1), .val (.ref b5), .val (.int ((p1 &&& (2147483647 : Int32)) % (9 : Int32))), .val (.ref cc), .unset] [(.int (1 : Int32))])) _
        refine XS.istore X23.here hx rfl (hb hby at_84) rfl (l' := #[.val (.int p1), .val (.ref b5), .val (.int ((p1 &&& (2147483647 : Int32)) % (9 : Int32))), .val (.ref cc), .val (.int (1 : Int32))]) rfl ?_
        show Steps p.tables e below (T23.setTop (mkF m 86 #[.val (.int p1), .val (.ref b5), .val (.int ((p1 &&& (2147483647 : Int32)) % (9 : Int32))), .val (.ref cc), .val (.int (1 : Int32))] [])) _
        exact k
      exact pre26
    · skip
      have hw4 : exv ((p1 &&& (2147483647 : Int32)) % (9 : Int32)) = (0 : Int32) := by rw [exv, if_neg h5]
      rw [hw4]
      have pre27 : Lead p e below (T23.setTop (mkF m 86 #[.val (.int p1), .val (.ref b5), .val (.int ((p1 &&& (2147483647 : Int32)) % (9 : Int32))), .val (.ref cc), .val (.int (0 : Int32))] [])) (s₁.setTop (entryFrame m #[(.int p1)] maxLocals)) := fun t k => by
        refine pre25 t ?_
        refine XS.ifYes X23.here hx rfl (pc0 := 76) (pc' := 83) rfl (hb hby at_76) rfl ((if0 _ _).trans (feq h5).2) (by decide) (by decide) ?_
        show Steps p.tables e below (T23.setTop (mkF m 83 #[.val (.int p1), .val (.ref b5), .val (.int ((p1 &&& (2147483647 : Int32)) % (9 : Int32))), .val (.ref cc), .unset] [])) _
        refine XS.iconst X23.here hx rfl (hb hby at_83) ?_
        show Steps p.tables e below (T23.setTop (mkF m 84 #[.val (.int p1), .val (.ref b5), .val (.int ((p1 &&& (2147483647 : Int32)) % (9 : Int32))), .val (.ref cc), .unset] [(.int (0 : Int32))])) _
        refine XS.istore X23.here hx rfl (hb hby at_84) rfl (l' := #[.val (.int p1), .val (.ref b5), .val (.int ((p1 &&& (2147483647 : Int32)) % (9 : Int32))), .val (.ref cc), .val (.int (0 : Int32))]) rfl ?_
        show Steps p.tables e below (T23.setTop (mkF m 86 #[.val (.int p1), .val (.ref b5), .val (.int ((p1 &&& (2147483647 : Int32)) % (9 : Int32))), .val (.ref cc), .val (.int (0 : Int32))] [])) _
        exact k
      exact pre27
  obtain ⟨cq28, kq28, q28a, q28b, q28c⟩ := isOf hZ e23 (EJ.ext E23)
  obtain ⟨_, _, ⟨T28, L28, k28, n28⟩, -, X28, ⟨Lc28, hQ28, l28, y28, z28⟩, st28⟩ := X23.virtualBack hx (y := (⟨"com/example/exact_grant/exactgrant/model/AccessLevel", "isDenial", "()Z"⟩ : MethodName)) (z := (⟨"com/example/exact_grant/exactgrant/model/AccessLevel", "isDenial", "()Z"⟩ : MethodName)) hown (mvT hZ (hw _ (List.mem_of_getElem? (i := 23) rfl))) (mvT hZ (hw _ (List.mem_of_getElem? (i := 24) rfl))) (notFace_of_selects (args := #[]) (mvT hZ (hw _ (List.mem_of_getElem? (i := 26) rfl)))) (mvT hZ (hw _ (List.mem_of_getElem? (i := 26) rfl))) (mvT hZ (hw _ (List.mem_of_getElem? (i := 25) rfl))) (by decide) (backOf (W := 0) (rm1 l Z a0 hw [] cc a_NONE h23 n0 (Nat.le_trans Z0 E23.1) (S_NONE.ext E23)) hZ (hw _ (List.mem_of_getElem? (i := 27) rfl)) (hw _ (List.mem_of_getElem? (i := 3) rfl)) (by decide) (by decide)) q28a q28c (g := (mkF m 87 #[.val (.int p1), .val (.ref b5), .val (.int ((p1 &&& (2147483647 : Int32)) % (9 : Int32))), .val (.ref cc), .val (.int (exv ((p1 &&& (2147483647 : Int32)) % (9 : Int32))))] [(.ref cc)])) rfl (by rw [hml]; rfl) (Steps.refl _) (argsL := []) (rest := []) (lenOf pd_1 rfl) rfl (by show 2 * 0 + _ ≤ _; exact Nat.le_of_eq rfl) (hb hby at_87) (fun _ _ => ⟨rfl, e23, (by decide : 1 + 0 ≤ _), (by decide : 9 + 0 ≤ _)⟩)
  dsimp only [Pt.U, Pt.locs, Pt.cells, Pt.slots] at X28 l28 y28 z28 st28 hQ28
  subst l28 y28 z28
  obtain ⟨rfl, N28q, e28⟩ := hQ28
  have N28 := Fr.app N23 N28q
  have pre29 : Lead p e below (T28.setTop (mkF m 100 #[.val (.int p1), .val (.ref b5), .val (.int ((p1 &&& (2147483647 : Int32)) % (9 : Int32))), .val (.ref cc), .val (.int (exv ((p1 &&& (2147483647 : Int32)) % (9 : Int32))))] [(.int (1 : Int32))])) (s₁.setTop (entryFrame m #[(.int p1)] maxLocals)) := fun t k => by
    refine preK t ?_
    refine XS.aloadN X23.here hx rfl (hb hby at_86) rfl rfl ?_
    show Steps p.tables e below (T23.setTop (mkF m 87 #[.val (.int p1), .val (.ref b5), .val (.int ((p1 &&& (2147483647 : Int32)) % (9 : Int32))), .val (.ref cc), .val (.int (exv ((p1 &&& (2147483647 : Int32)) % (9 : Int32))))] [(.ref cc)])) _
    refine st28.trans ?_
    show Steps p.tables e below (T28.setTop (mkF m 90 #[.val (.int p1), .val (.ref b5), .val (.int ((p1 &&& (2147483647 : Int32)) % (9 : Int32))), .val (.ref cc), .val (.int (exv ((p1 &&& (2147483647 : Int32)) % (9 : Int32))))] [(.int (dnv cc a_NONE))])) _
    refine XS.iload X28.here hx rfl (hb hby at_90) rfl ?_
    show Steps p.tables e below (T28.setTop (mkF m 92 #[.val (.int p1), .val (.ref b5), .val (.int ((p1 &&& (2147483647 : Int32)) % (9 : Int32))), .val (.ref cc), .val (.int (exv ((p1 &&& (2147483647 : Int32)) % (9 : Int32))))] [(.int (exv ((p1 &&& (2147483647 : Int32)) % (9 : Int32)))), (.int (dnv cc a_NONE))])) _
    refine XS.icmpNo X28.here hx rfl (hb hby at_92) rfl (teq hv).2 ?_
    show Steps p.tables e below (T28.setTop (mkF m 95 #[.val (.int p1), .val (.ref b5), .val (.int ((p1 &&& (2147483647 : Int32)) % (9 : Int32))), .val (.ref cc), .val (.int (exv ((p1 &&& (2147483647 : Int32)) % (9 : Int32))))] [])) _
    refine XS.iconst X28.here hx rfl (hb hby at_95) ?_
    show Steps p.tables e below (T28.setTop (mkF m 96 #[.val (.int p1), .val (.ref b5), .val (.int ((p1 &&& (2147483647 : Int32)) % (9 : Int32))), .val (.ref cc), .val (.int (exv ((p1 &&& (2147483647 : Int32)) % (9 : Int32))))] [(.int (1 : Int32))])) _
    refine XS.goto X28.here hx rfl (pc0 := 96) (pc' := 100) rfl (hb hby at_96) (by decide) (by decide) ?_
    show Steps p.tables e below (T28.setTop (mkF m 100 #[.val (.int p1), .val (.ref b5), .val (.int ((p1 &&& (2147483647 : Int32)) % (9 : Int32))), .val (.ref cc), .val (.int (exv ((p1 &&& (2147483647 : Int32)) % (9 : Int32))))] [(.int (1 : Int32))])) _
    exact k
  obtain ⟨fs, hr, hrun, hended, hW, hsame⟩ := X28.leave (v := some (.int (1 : Int32))) (fun h => by rw [Bd.returns] at h; cases h)
  refine ⟨_, _, pre29 _ ?_, hrun, hended, _, _, rfl, ?_, ⟨_, rfl⟩, hW, hsame.mono (by decide) (by decide)⟩
  · exact retN X28 hx (t := .boolean) Bd.returns (by simp) (hb hby at_100) hr
  · show Q0 Z p1 h0 n0 _ T28.heap _
    rw [e28]
    exact ⟨rfl, N28⟩
set_option maxRecDepth 65536 in
set_option maxHeartbeats 40000000 in
theorem comes_1 {Post : Tables → Env → Array Value → State → Outcome → State → Prop} (hpost : ∀ tb e args s v u, (limb_1_1.after args s (.returned v) u = true ∧ limb_1_2.after args s (.returned v) u = true ∧ True) → FrameEnd s (.returned v) u (Jvm.fieldLocs frame_1_writes args s ++ Jvm.arrayLocs frame_1_arrays args s ++ Jvm.staticLocs frame_1_statics s) 16 128 → Post tb e args s (.returned v) u) :
    ArmFor flags0 classFile x code maxLocals ret World_1 tables_1 room_1 Calls_1 rest_1 Pre_1 Post := by
  intro l hfl _ _ p e ha hc hk s m args below hf hA hF happ hP
  obtain ⟨hcalls, hrest, hpre⟩ := hP
  obtain ⟨-, -, -, hnamed, -, -, -, hat⟩ := (Spec.applies_iff hf).mp happ
  obtain ⟨hg, hn⟩ := and_e (Cond.before_iff.mp (show (Jvm.Cond.and given_1 narrow_1).before args s = true from hpre))
  obtain ⟨hcount, g2⟩ := and_e hg
  obtain ⟨n0, nr1⟩ := and_e hn
  obtain ⟨n1, nr2⟩ := and_e nr1
  obtain ⟨n2, nr3⟩ := and_e nr2
  obtain ⟨n3, nr4⟩ := and_e nr3
  obtain ⟨n4, nr5⟩ := and_e nr4
  obtain ⟨n5, nr6⟩ := and_e nr5
  obtain ⟨n6, nr7⟩ := and_e nr6
  obtain ⟨n7, nr8⟩ := and_e nr7
  obtain ⟨n8, nr9⟩ := and_e nr8
  obtain ⟨n9, nr10⟩ := and_e nr9
  obtain ⟨n10, nr11⟩ := and_e nr10
  obtain ⟨n11, nr12⟩ := and_e nr11
  obtain ⟨n12, nr13⟩ := and_e nr12
  obtain ⟨n13, nr14⟩ := and_e nr13
  obtain ⟨n14, nr15⟩ := and_e nr14
  obtain ⟨n15, nr16⟩ := and_e nr15
  obtain ⟨n16, n17⟩ := and_e nr16
  obtain ⟨w0, rfl⟩ : ∃ w0 : Value, args = #[w0] := by
    have hs : args.size = 1 := by simpa [Cond.value, given_1] using hcount
    obtain ⟨L⟩ := args
    match L, hs with
    | [w0], _ => exact ⟨w0, rfl⟩
  have hw := fun d (hd : d ∈ tables_1) => atoms_spec (ws := Jvm.Cond.code x code maxLocals ret :: tables_1) hat d (List.mem_cons_of_mem _ hd)
  have hfit : Fit s := fun {y c} hc i hi => by
    obtain ⟨ha, rfl⟩ := Array.getElem?_eq_some_iff.mp hc
    have q := List.all_eq_true.mp ((Array.all_eq_true_iff_forall_mem.mp hF) _ (Array.getElem_mem ha)) i (List.mem_range.mpr hi)
    simpa [Array.getElem?_eq_getElem hi] using q
  obtain ⟨i0, ei0⟩ := is_v g2
  obtain rfl : w0 = (.int i0) := Option.some.inj ei0
  obtain ⟨a_NONE, ev_NONE⟩ := exa_v n0
  have Ex_NONE := Exa.start ev_NONE n0
  have S_NONE := Sta.start ev_NONE (Or.inr ⟨(hw _ (List.mem_of_getElem? (i := 3) rfl)), (hw _ (List.mem_of_getElem? (i := 4) rfl))⟩)
  obtain ⟨a_OVERVIEW, ev_OVERVIEW⟩ := exa_v n1
  have Ex_OVERVIEW := Exa.start ev_OVERVIEW n1
  have S_OVERVIEW := Sta.start ev_OVERVIEW (Or.inr ⟨(hw _ (List.mem_of_getElem? (i := 3) rfl)), (hw _ (List.mem_of_getElem? (i := 7) rfl))⟩)
  obtain ⟨a_READ, ev_READ⟩ := exa_v n2
  have Ex_READ := Exa.start ev_READ n2
  have S_READ := Sta.start ev_READ (Or.inr ⟨(hw _ (List.mem_of_getElem? (i := 3) rfl)), (hw _ (List.mem_of_getElem? (i := 9) rfl))⟩)
  obtain ⟨a_COMMENT, ev_COMMENT⟩ := exa_v n3
  have Ex_COMMENT := Exa.start ev_COMMENT n3
  have S_COMMENT := Sta.start ev_COMMENT (Or.inr ⟨(hw _ (List.mem_of_getElem? (i := 3) rfl)), (hw _ (List.mem_of_getElem? (i := 11) rfl))⟩)
  obtain ⟨a_MODERATE, ev_MODERATE⟩ := exa_v n4
  have Ex_MODERATE := Exa.start ev_MODERATE n4
  have S_MODERATE := Sta.start ev_MODERATE (Or.inr ⟨(hw _ (List.mem_of_getElem? (i := 3) rfl)), (hw _ (List.mem_of_getElem? (i := 13) rfl))⟩)
  obtain ⟨a_EDIT, ev_EDIT⟩ := exa_v n5
  have Ex_EDIT := Exa.start ev_EDIT n5
  have S_EDIT := Sta.start ev_EDIT (Or.inr ⟨(hw _ (List.mem_of_getElem? (i := 3) rfl)), (hw _ (List.mem_of_getElem? (i := 15) rfl))⟩)
  obtain ⟨a_ADD, ev_ADD⟩ := exa_v n6
  have Ex_ADD := Exa.start ev_ADD n6
  have S_ADD := Sta.start ev_ADD (Or.inr ⟨(hw _ (List.mem_of_getElem? (i := 3) rfl)), (hw _ (List.mem_of_getElem? (i := 17) rfl))⟩)
  obtain ⟨a_DELETE, ev_DELETE⟩ := exa_v n7
  have Ex_DELETE := Exa.start ev_DELETE n7
  have S_DELETE := Sta.start ev_DELETE (Or.inr ⟨(hw _ (List.mem_of_getElem? (i := 3) rfl)), (hw _ (List.mem_of_getElem? (i := 19) rfl))⟩)
  obtain ⟨a_ADMIN, ev_ADMIN⟩ := exa_v n8
  have Ex_ADMIN := Exa.start ev_ADMIN n8
  have S_ADMIN := Sta.start ev_ADMIN (Or.inr ⟨(hw _ (List.mem_of_getElem? (i := 3) rfl)), (hw _ (List.mem_of_getElem? (i := 21) rfl))⟩)
  have o_COMMENT : s.fieldOf? a_COMMENT "java/lang/Enum" "ordinal" "I" = some (.int (3 : Int32)) := (fld_at ev_COMMENT).symm.trans (eqv_i (F := .int (3 : Int32)) (y := (3 : Int32)) rfl n9)
  have o_NONE : s.fieldOf? a_NONE "java/lang/Enum" "ordinal" "I" = some (.int (0 : Int32)) := (fld_at ev_NONE).symm.trans (eqv_i (F := .int (0 : Int32)) (y := (0 : Int32)) rfl n10)
  have o_READ : s.fieldOf? a_READ "java/lang/Enum" "ordinal" "I" = some (.int (2 : Int32)) := (fld_at ev_READ).symm.trans (eqv_i (F := .int (2 : Int32)) (y := (2 : Int32)) rfl n11)
  have o_OVERVIEW : s.fieldOf? a_OVERVIEW "java/lang/Enum" "ordinal" "I" = some (.int (1 : Int32)) := (fld_at ev_OVERVIEW).symm.trans (eqv_i (F := .int (1 : Int32)) (y := (1 : Int32)) rfl n12)
  have o_DELETE : s.fieldOf? a_DELETE "java/lang/Enum" "ordinal" "I" = some (.int (7 : Int32)) := (fld_at ev_DELETE).symm.trans (eqv_i (F := .int (7 : Int32)) (y := (7 : Int32)) rfl n13)
  have o_MODERATE : s.fieldOf? a_MODERATE "java/lang/Enum" "ordinal" "I" = some (.int (4 : Int32)) := (fld_at ev_MODERATE).symm.trans (eqv_i (F := .int (4 : Int32)) (y := (4 : Int32)) rfl n14)
  have o_ADMIN : s.fieldOf? a_ADMIN "java/lang/Enum" "ordinal" "I" = some (.int (8 : Int32)) := (fld_at ev_ADMIN).symm.trans (eqv_i (F := .int (8 : Int32)) (y := (8 : Int32)) rfl n15)
  have o_ADD : s.fieldOf? a_ADD "java/lang/Enum" "ordinal" "I" = some (.int (6 : Int32)) := (fld_at ev_ADD).symm.trans (eqv_i (F := .int (6 : Int32)) (y := (6 : Int32)) rfl n16)
  have o_EDIT : s.fieldOf? a_EDIT "java/lang/Enum" "ordinal" "I" = some (.int (5 : Int32)) := (fld_at ev_EDIT).symm.trans (eqv_i (F := .int (5 : Int32)) (y := (5 : Int32)) rfl n17)
  have ne_OVERVIEW_NONE : a_OVERVIEW ≠ a_NONE := fun q => by rw [q] at o_OVERVIEW; exact absurd (Option.some.inj (o_OVERVIEW.symm.trans o_NONE)) (by decide)
  have ne_READ_NONE : a_READ ≠ a_NONE := fun q => by rw [q] at o_READ; exact absurd (Option.some.inj (o_READ.symm.trans o_NONE)) (by decide)
  have ne_COMMENT_NONE : a_COMMENT ≠ a_NONE := fun q => by rw [q] at o_COMMENT; exact absurd (Option.some.inj (o_COMMENT.symm.trans o_NONE)) (by decide)
  have ne_MODERATE_NONE : a_MODERATE ≠ a_NONE := fun q => by rw [q] at o_MODERATE; exact absurd (Option.some.inj (o_MODERATE.symm.trans o_NONE)) (by decide)
  have ne_EDIT_NONE : a_EDIT ≠ a_NONE := fun q => by rw [q] at o_EDIT; exact absurd (Option.some.inj (o_EDIT.symm.trans o_NONE)) (by decide)
  have ne_ADD_NONE : a_ADD ≠ a_NONE := fun q => by rw [q] at o_ADD; exact absurd (Option.some.inj (o_ADD.symm.trans o_NONE)) (by decide)
  have ne_DELETE_NONE : a_DELETE ≠ a_NONE := fun q => by rw [q] at o_DELETE; exact absurd (Option.some.inj (o_DELETE.symm.trans o_NONE)) (by decide)
  have ne_ADMIN_NONE : a_ADMIN ≠ a_NONE := fun q => by rw [q] at o_ADMIN; exact absurd (Option.some.inj (o_ADMIN.symm.trans o_NONE)) (by decide)
  obtain ⟨n, o, h1, h2, h3, _, L, rfl, ⟨rfl, N⟩, hq⟩ := rm0 l s _ hw tables_1 i0 a_NONE a_OVERVIEW a_READ a_COMMENT a_MODERATE a_EDIT a_ADD a_DELETE a_ADMIN s.heap s.heap.size (Nat.le_refl _) S_NONE S_OVERVIEW S_READ S_COMMENT S_MODERATE S_EDIT S_ADD S_DELETE S_ADMIN Ex_NONE Ex_OVERVIEW Ex_READ Ex_COMMENT Ex_MODERATE Ex_EDIT Ex_ADD Ex_DELETE Ex_ADMIN ne_OVERVIEW_NONE ne_READ_NONE ne_COMMENT_NONE ne_MODERATE_NONE ne_EDIT_NONE ne_ADD_NONE ne_DELETE_NONE ne_ADMIN_NONE p e ha hc hk s m _ below hf ((Spec.applies_iff_loose hf).mp happ).1 ⟨rfl, State.Warmed39.refl s, rfl⟩ trivial
  refine ⟨n, _, h1, h2, h3, hpost _ _ _ _ _ _ ⟨Cond.after_iff.mpr rfl, Cond.after_iff.mpr (eq_i res_at (Term.int_eval (1)) rfl), trivial⟩ ⟨hq.1, hq.2.1, (hq.2.2.sift fun y hy => Or.inr (N y hy)).mono (by decide) (by decide)⟩⟩
theorem main_1_1 : Claimed_1_1 := comes_1 fun _ _ _ _ _ _ h hF => ⟨h.1, hF⟩
theorem main_1_2 : Claimed_1_2 := comes_1 fun _ _ _ _ _ _ h hF => ⟨h.2.1, hF⟩

end Jvm.Pilot.@@N@@
namespace Jvm.Pilot.@@N@@
open Jvm Jvm.ClassFile Sem Op Lib Jvm.Free Jvm.Stand Jvm.Pilot.@@N@@.Jvm.D
/-! MADE BY PROGRAM (witnessworld.py) out of the Statement's table words and the real class files: 13 classes; the members and pool entries that the words name. The judged class is class 1, her method 1. -/
namespace start1
open Jvm.ClassFile
def u (s : String) : CpInfo := .utf8 (stringToUtf16 s)
/-- a pool by its gaps: so many unusable entries, then the entry; so many at the end -/
def gap : Nat → List CpInfo → List CpInfo
  | 0, r => r
  | n + 1, r => .unusable :: gap n r
def poolList (es : List (Nat × CpInfo)) (last : Nat) : List CpInfo := es.foldr (fun e r => gap e.1 (e.2 :: r)) (gap last [])
def pool (es : List (Nat × CpInfo)) (last : Nat) : Array CpInfo := ⟨poolList es last⟩
def fileOf (pool : Array CpInfo) (this : Nat) (attrs : Array Attribute := #[]) (ms : Array MethodInfo := #[]) (fl : Nat := 33) (sup : Nat := 0) (ifs : Array Nat := #[]) (fds : Array FieldInfo := #[]) : ClassFile where
  minorVersion := 0
  majorVersion := 65
  constantPool := pool
  accessFlags := fl
  thisClass := this
  superClass := sup
  interfaces := ifs
  fields := fds
  methods := ms
  attributes := attrs
def plain (name : String) (sup : Option ClassId) : Class where
  name := name
  kind := .ordinary
  loader := none
  accessFlags := 33
  super := sup
  interfaces := #[]
  cf := none
  fields := #[]
  methods := #[]
  instanceTypes := #[]
  staticTypes := #[]
  resolved := #[]
  callSites := []
  init := .initialized
  statics := none
  mirror := none

def pool0 : Array CpInfo := pool [(5, u "<init>"), (0, u "()V"), (1, .class_ 10), (1, u "java/lang/Object")] 113

def k0m0 : Method := { name := "<init>", desc := "()V", sig := { parameters := [], returnType := none }, accessFlags := 1, code := none }
/-- java/lang/Object -/
def k0 : Class := { plain "java/lang/Object" none with
  accessFlags := 33
  interfaces := #[]
  cf := some (fileOf pool0 8 #[] #[{ accessFlags := 1, nameIndex := 5, descriptorIndex := 6, attributes := #[] }] 33 0 #[] #[])
  fields := #[]
  methods := #[k0m0]
  instanceTypes := #[]
  staticTypes := #[]
  resolved := Array.replicate 124 none
  statics := none }

def pool1 : Array CpInfo := pool [(2, .class_ 4), (1, u "java/lang/Object"), (0, u "<init>"), (0, u "()V"), (0, .class_ 8), (0, u "com/example/exact_grant/exactgrant/model/AccessLevel"), (0, .fieldref 7 10), (0, .nameAndType 11 12), (0, u "NONE"), (0, u "Lcom/example/exact_grant/exactgrant/model/AccessLevel;"), (0, .fieldref 7 14), (0, .nameAndType 15 12), (0, u "OVERVIEW"), (0, .fieldref 7 17), (0, .nameAndType 18 12), (0, u "READ"), (0, .fieldref 7 20), (0, .nameAndType 21 12), (0, u "COMMENT"), (0, .fieldref 7 23), (0, .nameAndType 24 12), (0, u "MODERATE"), (0, .fieldref 7 26), (0, .nameAndType 27 12), (0, u "EDIT"), (0, .fieldref 7 29), (0, .nameAndType 30 12), (0, u "ADD"), (0, .fieldref 7 32), (0, .nameAndType 33 12), (0, u "DELETE"), (0, .fieldref 7 35), (0, .nameAndType 36 12), (0, u "ADMIN"), (0, .integer 2147483647), (0, .methodref 7 39), (0, .nameAndType 40 41), (0, u "isDenial"), (0, u "()Z"), (0, .class_ 43), (0, u "com/example/exact_grant/exactgrant/model/AccessLevelIsDenialPinLaw"), (2, u "law"), (0, u "(I)Z")] 5

def k1m0 : Method := { name := "<init>", desc := "()V", sig := { parameters := [], returnType := none }, accessFlags := 1, code := none }
def k1c1 : Code := { maxStack := 4, maxLocals := 5, code := code, exceptionTable := #[], attributes := #[] }
def k1m1 : Method := { name := "law", desc := "(I)Z", sig := { parameters := [.int], returnType := some .boolean }, accessFlags := 9, code := some k1c1 }
/-- com/example/exact_grant/exactgrant/model/AccessLevelIsDenialPinLaw -/
def k1 : Class := { plain "com/example/exact_grant/exactgrant/model/AccessLevelIsDenialPinLaw" (some 0) with
  accessFlags := 49
  interfaces := #[]
  cf := some (fileOf pool1 42 #[] #[{ accessFlags := 1, nameIndex := 5, descriptorIndex := 6, attributes := #[] }, { accessFlags := 9, nameIndex := 46, descriptorIndex := 47, attributes := #[] }] 49 2 #[] #[])
  fields := #[]
  methods := #[k1m0, k1m1]
  instanceTypes := #[]
  staticTypes := #[]
  resolved := Array.replicate 53 none
  statics := none }

def pool2 : Array CpInfo := pool [(1, .class_ 2), (0, u "java/lang/constant/Constable"), (0, .class_ 4), (0, u "java/lang/Object")] 6

/-- java/lang/constant/Constable -/
def k2 : Class := { plain "java/lang/constant/Constable" (some 0) with
  accessFlags := 1537
  interfaces := #[]
  cf := some (fileOf pool2 1 #[] #[] 1537 3 #[] #[])
  fields := #[]
  methods := #[]
  instanceTypes := #[]
  staticTypes := #[]
  resolved := Array.replicate 11 none
  statics := none }

def pool3 : Array CpInfo := pool [(1, .class_ 2), (0, u "java/lang/Comparable"), (0, .class_ 4), (0, u "java/lang/Object")] 7

/-- java/lang/Comparable -/
def k3 : Class := { plain "java/lang/Comparable" (some 0) with
  accessFlags := 1537
  interfaces := #[]
  cf := some (fileOf pool3 1 #[] #[] 1537 3 #[] #[])
  fields := #[]
  methods := #[]
  instanceTypes := #[]
  staticTypes := #[]
  resolved := Array.replicate 12 none
  statics := none }

def pool4 : Array CpInfo := pool [(1, .class_ 2), (0, u "java/io/Serializable"), (0, .class_ 4), (0, u "java/lang/Object")] 2

/-- java/io/Serializable -/
def k4 : Class := { plain "java/io/Serializable" (some 0) with
  accessFlags := 1537
  interfaces := #[]
  cf := some (fileOf pool4 1 #[] #[] 1537 3 #[] #[])
  fields := #[]
  methods := #[]
  instanceTypes := #[]
  staticTypes := #[]
  resolved := Array.replicate 7 none
  statics := none }

def pool5 : Array CpInfo := pool [(2, .class_ 4), (1, u "java/lang/Enum"), (0, u "name"), (0, u "Ljava/lang/String;"), (2, u "ordinal"), (0, u "I"), (1, .class_ 14), (1, u "java/lang/Object"), (4, u "hash"), (86, .class_ 108), (1, u "java/lang/Enum$EnumDesc"), (2, .class_ 112), (0, u "java/lang/constant/Constable"), (0, .class_ 114), (0, u "java/lang/Comparable"), (0, .class_ 116), (0, u "java/io/Serializable")] 87

/-- java/lang/Enum -/
def k5 : Class := { plain "java/lang/Enum" (some 0) with
  accessFlags := 1057
  interfaces := #[2, 3, 4]
  cf := some (fileOf pool5 2 #[.nestMembers #[106]] #[] 1057 12 #[111, 113, 115] #[{ accessFlags := 18, nameIndex := 5, descriptorIndex := 6, attributes := #[] }, { accessFlags := 18, nameIndex := 9, descriptorIndex := 10, attributes := #[] }, { accessFlags := 2, nameIndex := 19, descriptorIndex := 10, attributes := #[] }])
  fields := #[{ name := "name", type := (.object "java/lang/String"), accessFlags := 18, slot := 0, constantValue := 0 }, { name := "ordinal", type := .int, accessFlags := 18, slot := 1, constantValue := 0 }, { name := "hash", type := .int, accessFlags := 2, slot := 2, constantValue := 0 }]
  methods := #[]
  instanceTypes := #[(.object "java/lang/String"), .int, .int]
  staticTypes := #[]
  resolved := Array.replicate 204 none
  statics := none }

def pool6 : Array CpInfo := pool [(1, .class_ 2), (0, u "com/example/exact_grant/exactgrant/model/AccessLevel"), (0, .fieldref 1 4), (0, .nameAndType 5 6), (0, u "NONE"), (0, u "Lcom/example/exact_grant/exactgrant/model/AccessLevel;"), (2, u "OVERVIEW"), (2, u "READ"), (2, u "COMMENT"), (2, u "MODERATE"), (2, u "EDIT"), (2, u "ADD"), (2, u "DELETE"), (2, u "ADMIN"), (2, u "$VALUES"), (0, u "[Lcom/example/exact_grant/exactgrant/model/AccessLevel;"), (6, .class_ 43), (1, u "java/lang/Enum"), (8, u "word"), (0, u "Ljava/lang/String;"), (2, u "rank"), (0, u "I"), (2, u "WORDS"), (0, u "Lcom/example/exact_grant/exactgrant/model/WordTable;"), (16, u "isDenial"), (0, u "()Z"), (4, u "DECIDING_FIRST"), (0, u "Ljava/util/Comparator;")] 107

def k6c0 : Code := { maxStack := 2, maxLocals := 1, code := prog_9_method_7_code, exceptionTable := #[], attributes := #[] }
def k6m0 : Method := { name := "isDenial", desc := "()Z", sig := { parameters := [], returnType := some .boolean }, accessFlags := 1, code := some k6c0 }
/-- com/example/exact_grant/exactgrant/model/AccessLevel -/
def k6 : Class := { plain "com/example/exact_grant/exactgrant/model/AccessLevel" (some 5) with
  accessFlags := 16433
  interfaces := #[]
  cf := some (fileOf pool6 1 #[] #[{ accessFlags := 1, nameIndex := 78, descriptorIndex := 79, attributes := #[] }] 16433 41 #[] #[{ accessFlags := 16409, nameIndex := 5, descriptorIndex := 6, attributes := #[] }, { accessFlags := 16409, nameIndex := 9, descriptorIndex := 6, attributes := #[] }, { accessFlags := 16409, nameIndex := 12, descriptorIndex := 6, attributes := #[] }, { accessFlags := 16409, nameIndex := 15, descriptorIndex := 6, attributes := #[] }, { accessFlags := 16409, nameIndex := 18, descriptorIndex := 6, attributes := #[] }, { accessFlags := 16409, nameIndex := 21, descriptorIndex := 6, attributes := #[] }, { accessFlags := 16409, nameIndex := 24, descriptorIndex := 6, attributes := #[] }, { accessFlags := 16409, nameIndex := 27, descriptorIndex := 6, attributes := #[] }, { accessFlags := 16409, nameIndex := 30, descriptorIndex := 6, attributes := #[] }, { accessFlags := 25, nameIndex := 84, descriptorIndex := 85, attributes := #[] }, { accessFlags := 26, nameIndex := 60, descriptorIndex := 61, attributes := #[] }, { accessFlags := 18, nameIndex := 52, descriptorIndex := 53, attributes := #[] }, { accessFlags := 18, nameIndex := 56, descriptorIndex := 57, attributes := #[] }, { accessFlags := 4122, nameIndex := 33, descriptorIndex := 34, attributes := #[] }])
  fields := #[{ name := "NONE", type := (.object "com/example/exact_grant/exactgrant/model/AccessLevel"), accessFlags := 16409, slot := 0, constantValue := 0 }, { name := "OVERVIEW", type := (.object "com/example/exact_grant/exactgrant/model/AccessLevel"), accessFlags := 16409, slot := 1, constantValue := 0 }, { name := "READ", type := (.object "com/example/exact_grant/exactgrant/model/AccessLevel"), accessFlags := 16409, slot := 2, constantValue := 0 }, { name := "COMMENT", type := (.object "com/example/exact_grant/exactgrant/model/AccessLevel"), accessFlags := 16409, slot := 3, constantValue := 0 }, { name := "MODERATE", type := (.object "com/example/exact_grant/exactgrant/model/AccessLevel"), accessFlags := 16409, slot := 4, constantValue := 0 }, { name := "EDIT", type := (.object "com/example/exact_grant/exactgrant/model/AccessLevel"), accessFlags := 16409, slot := 5, constantValue := 0 }, { name := "ADD", type := (.object "com/example/exact_grant/exactgrant/model/AccessLevel"), accessFlags := 16409, slot := 6, constantValue := 0 }, { name := "DELETE", type := (.object "com/example/exact_grant/exactgrant/model/AccessLevel"), accessFlags := 16409, slot := 7, constantValue := 0 }, { name := "ADMIN", type := (.object "com/example/exact_grant/exactgrant/model/AccessLevel"), accessFlags := 16409, slot := 8, constantValue := 0 }, { name := "DECIDING_FIRST", type := (.object "java/util/Comparator"), accessFlags := 25, slot := 9, constantValue := 0 }, { name := "WORDS", type := (.object "com/example/exact_grant/exactgrant/model/WordTable"), accessFlags := 26, slot := 10, constantValue := 0 }, { name := "word", type := (.object "java/lang/String"), accessFlags := 18, slot := 3, constantValue := 0 }, { name := "rank", type := .int, accessFlags := 18, slot := 4, constantValue := 0 }, { name := "$VALUES", type := (.array (.object "com/example/exact_grant/exactgrant/model/AccessLevel")), accessFlags := 4122, slot := 11, constantValue := 0 }]
  methods := #[k6m0]
  instanceTypes := #[(.object "java/lang/String"), .int, .int, (.object "java/lang/String"), .int]
  staticTypes := #[(.object "com/example/exact_grant/exactgrant/model/AccessLevel"), (.object "com/example/exact_grant/exactgrant/model/AccessLevel"), (.object "com/example/exact_grant/exactgrant/model/AccessLevel"), (.object "com/example/exact_grant/exactgrant/model/AccessLevel"), (.object "com/example/exact_grant/exactgrant/model/AccessLevel"), (.object "com/example/exact_grant/exactgrant/model/AccessLevel"), (.object "com/example/exact_grant/exactgrant/model/AccessLevel"), (.object "com/example/exact_grant/exactgrant/model/AccessLevel"), (.object "com/example/exact_grant/exactgrant/model/AccessLevel"), (.object "java/util/Comparator"), (.object "com/example/exact_grant/exactgrant/model/WordTable"), (.array (.object "com/example/exact_grant/exactgrant/model/AccessLevel"))]
  resolved := Array.replicate 193 none
  statics := some 0 }

def pool7 : Array CpInfo := pool [(1, u "java/lang/Cloneable"), (0, .class_ 1), (0, u "java/lang/Object"), (0, .class_ 3)] 3

/-- java/lang/Cloneable -/
def k7 : Class := { plain "java/lang/Cloneable" (some 0) with
  accessFlags := 1537
  interfaces := #[]
  cf := some (fileOf pool7 2 #[] #[] 1537 4 #[] #[])
  fields := #[]
  methods := #[]
  instanceTypes := #[]
  staticTypes := #[]
  resolved := Array.replicate 8 none
  statics := none }

/-- the primitive byte -/
def k8 : Class := { plain "byte" none with kind := .primitive 'B', accessFlags := 0x411 }
/-- [B -/
def k9 : Class := { plain "[B" (some 0) with kind := .array 8 .byte, interfaces := #[7, 4], accessFlags := 1041 }

/-- the primitive int -/
def k10 : Class := { plain "int" none with kind := .primitive 'I', accessFlags := 0x411 }
/-- [I -/
def k11 : Class := { plain "[I" (some 0) with kind := .array 10 .int, interfaces := #[7, 4], accessFlags := 1041 }

/-- [Lcom/example/exact_grant/exactgrant/model/AccessLevel; -/
def k12 : Class := { plain "[Lcom/example/exact_grant/exactgrant/model/AccessLevel;" (some 0) with kind := .array 6 (.object "com/example/exact_grant/exactgrant/model/AccessLevel"), interfaces := #[7, 4], accessFlags := 1041 }

def heap : Heap := #[{ cls := 6, slots := #[.ref 1, .ref 2, .ref 3, .ref 4, .ref 5, .ref 6, .ref 7, .ref 8, .ref 9, .null, .null, .null], vm := .statics 6 },
  { cls := 6, slots := #[.null, .int 0, .int 0, .null, .int 0], vm := .none },
  { cls := 6, slots := #[.null, .int 1, .int 0, .null, .int 0], vm := .none },
  { cls := 6, slots := #[.null, .int 2, .int 0, .null, .int 0], vm := .none },
  { cls := 6, slots := #[.null, .int 3, .int 0, .null, .int 0], vm := .none },
  { cls := 6, slots := #[.null, .int 4, .int 0, .null, .int 0], vm := .none },
  { cls := 6, slots := #[.null, .int 5, .int 0, .null, .int 0], vm := .none },
  { cls := 6, slots := #[.null, .int 6, .int 0, .null, .int 0], vm := .none },
  { cls := 6, slots := #[.null, .int 7, .int 0, .null, .int 0], vm := .none },
  { cls := 6, slots := #[.null, .int 8, .int 0, .null, .int 0], vm := .none }]
def classes : Array Class := #[k0, k1, k2, k3, k4, k5, k6, k7, k8, k9, k10, k11, k12]
def interned : List (Array UInt16 × Addr) := []
def slotsUsed : Nat := 57
def theMethod : MethodId := ⟨1, 1⟩
def args0 : Array Value := #[.int 5]
def aboutOver (below : List Frame) : State where
  vm := { classes := classes, interned := interned.toArray }
  heap := heap
  slotsUsed := slotsUsed
  threads := #[{ frames := .invoking theMethod args0 :: below }]
def below0 : List Frame := [.native { method := ⟨0, 0⟩, args := #[] }]
def about1 : State := aboutOver below0
def p0 : Program := .bare "" "" ""
def e0 : Env := launch0.env 0 0 0
theorem w_frames : about1.frames = Frame.invoking theMethod args0 :: below0 := rfl
set_option maxRecDepth 65536 in
theorem w_args : argsFit about1.vm theMethod args0 = true := by decide +kernel
set_option maxRecDepth 65536 in
theorem w_heap : heapFits about1 = true := by decide +kernel
set_option maxRecDepth 65536 in
theorem w_runnable : about1.curStatus? = some .runnable := by decide +kernel
set_option maxRecDepth 65536 in
theorem w_alone : about1.alone = true := by decide +kernel
set_option maxRecDepth 65536 in
theorem w_named : about1.methodNamed? x = some theMethod := by decide +kernel
set_option maxRecDepth 65536 in
theorem w_hears : about1.hears theMethod below0 = true := by decide +kernel
set_option maxRecDepth 65536 in
theorem w_ripe : about1.ripe theMethod args0 below0 = true := by decide +kernel
theorem w_running : about1.status = .running := rfl
set_option maxRecDepth 65536 in
theorem w_room : about1.hasRoom e0.platform room_1 = true :=
  launch0.hasRoom_least _ room_1 (by decide +kernel) (by decide +kernel) (by decide +kernel) (by decide +kernel) (by decide +kernel) (by decide +kernel)
theorem allAtoms_all (ts : List Jvm.Cond) (a : Array Jvm.Value) (st : Jvm.State) : (allAtoms ts).before a st = ts.all (fun c => c.before a st) := by
  induction ts with
  | nil => rfl
  | cons c t ih =>
    show (Jvm.Cond.and c (allAtoms t)).before a st = _
    rw [Jvm.Cond.before_and, ih, List.all_cons]
def words1 : List Jvm.Cond := Jvm.Cond.code x code maxLocals ret :: tables_1
/-- a 'code' word, met by the world's own term for the bytes: nothing is compared byte by byte -/
theorem code_word {y : MethodName} {bytes : ByteArray} {mx : Nat} {rt : Option FieldType} {a : Array Value} {s : State} {m : MethodId} {meth : Method} {c : Code} (h1 : s.methodNamed? y = some m) (h2 : s.vm.method? m = some meth) (h3 : meth.code = some c) (h4 : c.code = bytes)
    (h5 : (c.maxLocals == mx && c.exceptionTable.isEmpty && decide (c.maxStack ≤ mostOperands) && decide (meth.sig.returnType = rt) && !meth.locks && decide (parseMethodDescriptor y.desc = some meth.sig)) = true) : (Jvm.Cond.code y bytes mx rt).before a s = true := by
  simp only [Bool.and_eq_true, beq_iff_eq, Bool.not_eq_true', decide_eq_true_eq] at h5
  obtain ⟨⟨⟨⟨⟨g1, g2⟩, g3⟩, g4⟩, g5⟩, g6⟩ := h5
  simp [Cond.before, Cond.holds, Cond.value, h1, h2, h3, h4, g1, g2, g3, g4, g5, g6]
def isCode : Jvm.Cond → Bool
  | .code _ _ _ _ => true
  | _ => false
theorem all_split {L : List Jvm.Cond} {P : Jvm.Cond → Bool} (h1 : L.all (fun c => isCode c || P c) = true) (h2 : ∀ c ∈ L.filter isCode, P c = true) : L.all P = true := by
  refine List.all_eq_true.mpr fun c hc => ?_
  have h := List.all_eq_true.mp h1 c hc
  rcases Bool.eq_false_or_eq_true (isCode c) with hi | hi
  · exact h2 c (List.mem_filter.mpr ⟨hc, hi⟩)
  · simpa [hi] using h
set_option maxRecDepth 65536 in
theorem w_c0 : (Jvm.Cond.code x code maxLocals ret).before args0 about1 = true := code_word (m := ⟨1, 1⟩) (meth := k1m1) (c := k1c1) (by decide +kernel) rfl rfl rfl (by decide +kernel)
set_option maxRecDepth 65536 in
theorem w_c1 : (Jvm.Cond.code ({ cls := "com/example/exact_grant/exactgrant/model/AccessLevel", name := "isDenial", desc := "()Z" } : Jvm.MethodName) prog_9_method_7_code (1 : Nat) (Option.some Jvm.ClassFile.FieldType.boolean)).before args0 about1 = true := code_word (m := ⟨6, 0⟩) (meth := k6m0) (c := k6c0) (by decide +kernel) rfl rfl rfl (by decide +kernel)
def codes1 : List Jvm.Cond := [Jvm.Cond.code x code maxLocals ret, Jvm.Cond.code ({ cls := "com/example/exact_grant/exactgrant/model/AccessLevel", name := "isDenial", desc := "()Z" } : Jvm.MethodName) prog_9_method_7_code (1 : Nat) (Option.some Jvm.ClassFile.FieldType.boolean)]
set_option maxRecDepth 65536 in
theorem codes_eq : words1.filter isCode = codes1 := rfl
theorem w_codes : ∀ c ∈ words1.filter isCode, c.before args0 about1 = true := by
  rw [codes_eq]
  intro c hc
  simp only [codes1, List.mem_cons, List.not_mem_nil, or_false] at hc
  rcases hc with rfl | rfl
  · exact w_c0
  · exact w_c1
set_option maxRecDepth 65536 in
theorem w_t1 : (words1.take 24).all (fun c => isCode c || c.before args0 about1) = true := by decide +kernel
set_option maxRecDepth 65536 in
theorem w_t2 : (words1.drop 24).all (fun c => isCode c || c.before args0 about1) = true := by decide +kernel
theorem w_tables : (allAtoms (Jvm.Cond.code x code maxLocals ret :: tables_1)).before args0 about1 = true := by
  rw [allAtoms_all]
  show words1.all (fun c => c.before args0 about1) = true
  refine all_split ?_ w_codes
  rw [← List.take_append_drop 24 words1, List.all_append, w_t1, w_t2]
  rfl
set_option maxRecDepth 65536 in
theorem w_case : (Jvm.Cond.and given_1 narrow_1).before args0 about1 = true := by decide +kernel
theorem w_applies : (headSpec (Jvm.Cond.code x code maxLocals ret :: tables_1) room_1).applies x e0.platform about1 = true :=
  (Spec.applies_iff w_frames).mpr ⟨w_running, w_runnable, w_alone, w_named, w_hears, w_ripe, w_room, w_tables⟩
theorem atStart : AtStart classFile x code maxLocals ret World_1 tables_1 room_1 Calls_1 rest_1 Pre_1 launch0 p0 e0 about1 theMethod args0 below0 :=
  ⟨lists_1, trivial, launch0.admits_env _ _ _, launch0.least_env, fairChoices_fair.cas, fairChoices_fair.clock, w_frames, w_args, w_heap, w_applies, trivial, trivial, w_case⟩
end start1
theorem witness_1 : WitnessClaimed_1 := ⟨start1.p0, start1.e0, start1.about1, start1.theMethod, start1.args0, start1.below0, start1.atStart⟩
end Jvm.Pilot.@@N@@
