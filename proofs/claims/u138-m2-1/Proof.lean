import JvmDerived
import JvmDerived.Pilot.@@N@@Statement
import JvmDerived.Pilot.@@N@@Code
set_option linter.unusedVariables false
set_option linter.unusedSimpArgs false
namespace Jvm.RoadKit
open Sem ClassFile Op Lib Jvm.Stand Jvm.Free Jvm.LawKit
section New
variable {p : Program} {l : Launch} {e : Env} {R : Room} {s : State} {m : MethodId} {args : Array Value} {below : List Frame} {meth : Method} {c : Code} {T : State} {locs : List Loc} {cells slots : Nat}
theorem retI (X : Stand p l e R s m args below meth c T locs cells slots) (hx : p.tables.exec = Jvm.exec) {pc : Nat} {Ls : Array Slot} {z : Int32} {rest : List Value} (hret : meth.sig.returnType = some .int) (hd : decode c.code pc = .ok (.ireturn, 1)) {fs : List Frame}
    (hl : ∀ (f : JFrame) (acts : List Action), f.method = m → f.locked = none → f.entered = [] → (doReturn e (T.setTop f) acts (some (.int z))).1 = T.setFrames fs) : Steps p.tables e below (T.setTop (mkF m pc Ls (.int z :: rest))) (T.setFrames fs) := by
  have hm' : T.vm.method? m = some meth := X.method'
  have hn : narrow .int (.int z) = .int z := rfl
  show Steps p.tables e below (T.setTop { method := m, pc := pc, locals := Ls, stack := _ :: rest, locked := none }) _
  jvm_step X.here [X.here.top, hx, hd, hm', hret, hn]
  first | (intro acts; rw [hl _ acts rfl rfl rfl]) | rw [hl _ _ rfl rfl rfl]
  exact Steps.refl _
/-- whatever is reached from the one state is reached from the other -/
def Go (p : Program) (e : Env) (below : List Frame) (A B : State) : Prop := ∀ t, Steps p.tables e below B t → Steps p.tables e below A t
end New
end Jvm.RoadKit
namespace Jvm.Pilot.@@N@@
open Jvm Jvm.ClassFile Sem Op Lib Jvm.Free Jvm.Stand Jvm.LawKit Jvm.RoadKit Bundle Jvm.Pilot.@@N@@.Jvm.D
theorem own_eqI {t : Term} {k : Int32} {args : Array Value} {s : State} (h : (Jvm.Cond.eq t (.int k)).value args s none s [] = some true) : t.eval args s none [] s = some (.int k) := by
  cases ht : t.eval args s none [] s with
  | none => simp [Cond.value, ht] at h
  | some x => cases x <;> simp [Cond.value, Term.eval, ht] at h ⊢ <;> exact h
def own_due (p os oe : Int32) : Int32 := if p = 0 then oe else os
theorem own_due01 {p os oe : Int32} (h1 : nar .boolean os = os) (h2 : nar .boolean oe = oe) : nar .boolean (own_due p os oe) = own_due p os oe := by
  unfold own_due; split
  · exact h2
  · exact h1
theorem dprog_3_method_4_code_0 : decode prog_3_method_4_code 0 = .ok (.iload_n 1, 1) := by decide +kernel
theorem dprog_3_method_4_code_1 : decode prog_3_method_4_code 1 = .ok (.ifCond .eq 10, 3) := by decide +kernel
theorem dprog_3_method_4_code_11 : decode prog_3_method_4_code 11 = .ok (.aload_n 0, 1) := by decide +kernel
theorem dprog_3_method_4_code_12 : decode prog_3_method_4_code 12 = .ok (.getfield 39, 3) := by decide +kernel
theorem dprog_3_method_4_code_4 : decode prog_3_method_4_code 4 = .ok (.aload_n 0, 1) := by decide +kernel
theorem dprog_3_method_4_code_5 : decode prog_3_method_4_code 5 = .ok (.getfield 35, 3) := by decide +kernel
theorem dprog_3_method_4_code_8 : decode prog_3_method_4_code 8 = .ok (.goto 7, 3) := by decide +kernel
theorem dprog_3_method_4_code_15 : decode prog_3_method_4_code 15 = .ok (.ireturn, 1) := by decide +kernel
theorem ef_rmD (m : MethodId) (x0 : Addr) (x1 : Int32) : entryFrame m #[(.ref x0), (.int x1)] 2 = mkF m 0 #[.val (.ref x0), .val (.int x1)] [] := by first | (simp [entryFrame, mkF, argsToLocals, Value.category]; done) | rfl
def QD (Z : State) (a1 : Addr) (p2 : Int32) (os : Int32) (oe : Int32) (h0 : Heap) (n0 : Nat) (v : Option Value) (h : Heap) (L : List Loc) : Prop := v = some (.int (own_due p2 os oe)) ∧ L = [] ∧ h = h0
theorem pn_0 : plainName "com/example/slotwire/slotwire/Acknowledgments$Condition" = true := by first | (simp [plainName, overriddenIn]; done) | decide +kernel
set_option maxRecDepth 65536 in
set_option maxHeartbeats 40000000 in
theorem rmD (l : Launch) (Z : State) (a0 : Array Value) (hw : ∀ d ∈ tables_1, d.before a0 Z = true) (ws : List Jvm.Cond) (a1 : Addr) (p2 : Int32) (os : Int32) (oe : Int32) (h0 : Heap) (n0 : Nat) (Z0 : n0 ≤ h0.size) (F1 : Fld Z h0 a1 "com/example/slotwire/slotwire/Acknowledgments$Condition" "onSuccess" "Z" (.int os)) (F2 : Fld Z h0 a1 "com/example/slotwire/slotwire/Acknowledgments$Condition" "onError" "Z" (.int oe)) (b1 : nar .boolean os = os) (b2 : nar .boolean oe = oe) :
    MetFree l (⟨"com/example/slotwire/slotwire/Acknowledgments$Condition", "due", "(Z)Z"⟩ : MethodName) (head1 (Jvm.Cond.code (⟨"com/example/slotwire/slotwire/Acknowledgments$Condition", "due", "(Z)Z"⟩ : MethodName) prog_3_method_4_code 2 (some .boolean) :: ws) ({ frames := 0, cells := 0, slots := 0, locals := 0 } : Room)) (fun a U => a = #[(.ref a1), (.int p2)] ∧ Z.Warmed39 U.vm ∧ U.heap = h0) (fun _ _ _ _ _ => True) (fun _ U o U' => ∃ v L, o = .returned v ∧ QD Z a1 p2 os oe h0 n0 v U'.heap L ∧ FrameEnd U o U' L ({ frames := 0, cells := 0, slots := 0, locals := 0 } : Room).cells ({ frames := 0, cells := 0, slots := 0, locals := 0 } : Room).slots) := by
  refine MetFree.of_bodySF (plainFor_of_name pn_0) hisR ?_
  intro p e s m args below meth c s₁ Bd hml0 hP hK
  obtain ⟨rfl, hZ, hh⟩ := hP
  have hx := Bd.exec
  have hby := Bd.bytes
  have hml : c.maxLocals = 2 := hml0
  have hown : s.vm.findClass "com/example/slotwire/slotwire/Acknowledgments$Condition" = some m.cls := findClass_of_methodNamed Bd.named
  have hnm := (name_of_methodNamed Bd.named Bd.method).1
  have X0 : Stand p l e ({ frames := 0, cells := 0, slots := 0, locals := 0 } : Room) s m #[(.ref a1), (.int p2)] below meth c s₁ [] 0 0 := Stand.of_body Bd
  have e0 : s₁.heap = h0 := by rw [← hh, Bd.state]; rfl
  have N0 := Fr.nil n0
  have k0 : Go p e below (s₁.setTop (entryFrame m #[(.ref a1), (.int p2)] 2)) (s₁.setTop (mkF m 0 #[.val (.ref a1), .val (.int p2)] [])) := fun t k => castTop (ef_rmD m a1 p2) k
  obtain ⟨T1, X1, e1, v1, hj1, k1⟩ : ∃ T' : State, Stand p l e ({ frames := 0, cells := 0, slots := 0, locals := 0 } : Room) s m #[(.ref a1), (.int p2)] below meth c T' [] 0 0 ∧ T'.heap = h0 ∧ ∃ v1 : Int32, (v1 = own_due p2 os oe) ∧ Go p e below (s₁.setTop (entryFrame m #[(.ref a1), (.int p2)] 2)) (T'.setTop (mkF m 15 #[.val (.ref a1), .val (.int p2)] [(.int v1)])) := by
    have k3 : Go p e below (s₁.setTop (entryFrame m #[(.ref a1), (.int p2)] 2)) (s₁.setTop (mkF m 1 #[.val (.ref a1), .val (.int p2)] [(.int p2)])) := fun t kk => k0 t (by
      show Steps p.tables e below (s₁.setTop (mkF m 0 #[.val (.ref a1), .val (.int p2)] [])) _
      refine XS.iloadN X0.here hx rfl (hb hby dprog_3_method_4_code_0) rfl ?_
      exact kk)
    by_cases hc1_2 : p2 = (0 : Int32)
    · have k4 : Go p e below (s₁.setTop (entryFrame m #[(.ref a1), (.int p2)] 2)) (s₁.setTop (mkF m 12 #[.val (.ref a1), .val (.int p2)] [(.ref a1)])) := fun t kk => k3 t (by
        show Steps p.tables e below (s₁.setTop (mkF m 1 #[.val (.ref a1), .val (.int p2)] [(.int p2)])) _
        refine XS.ifYes X0.here hx rfl (pc0 := 1) (pc' := 11) rfl (hb hby dprog_3_method_4_code_1) rfl ((if0 _ _).trans (teq hc1_2).1) (by decide) (by decide) ?_
        show Steps p.tables e below (s₁.setTop (mkF m 11 #[.val (.ref a1), .val (.int p2)] [])) _
        refine XS.aloadN X0.here hx rfl (hb hby dprog_3_method_4_code_11) rfl rfl ?_
        exact kk)
      obtain ⟨T5, X5, e5, st5⟩ := getF X0 hx hZ hown (host := "") (Or.inl (hw _ (List.mem_of_getElem? (i := 12) rfl))) Via.refl e0 F2 (g := (mkF m 12 #[.val (.ref a1), .val (.int p2)] [(.ref a1)])) rfl rfl (hb hby dprog_3_method_4_code_12)
      have k5 : Go p e below (s₁.setTop (entryFrame m #[(.ref a1), (.int p2)] 2)) (T5.setTop (mkF m 15 #[.val (.ref a1), .val (.int p2)] [(.int oe)])) := fun t kk => k4 t (st5 t kk)
      exact ⟨T5, X5, e5, oe, by simp [own_due, hc1_2], k5⟩
    · have k6 : Go p e below (s₁.setTop (entryFrame m #[(.ref a1), (.int p2)] 2)) (s₁.setTop (mkF m 5 #[.val (.ref a1), .val (.int p2)] [(.ref a1)])) := fun t kk => k3 t (by
        show Steps p.tables e below (s₁.setTop (mkF m 1 #[.val (.ref a1), .val (.int p2)] [(.int p2)])) _
        refine XS.ifNo X0.here hx rfl (hb hby dprog_3_method_4_code_1) rfl ((if0 _ _).trans (feq hc1_2).1) ?_
        show Steps p.tables e below (s₁.setTop (mkF m 4 #[.val (.ref a1), .val (.int p2)] [])) _
        refine XS.aloadN X0.here hx rfl (hb hby dprog_3_method_4_code_4) rfl rfl ?_
        exact kk)
      obtain ⟨T7, X7, e7, st7⟩ := getF X0 hx hZ hown (host := "") (Or.inl (hw _ (List.mem_of_getElem? (i := 8) rfl))) Via.refl e0 F1 (g := (mkF m 5 #[.val (.ref a1), .val (.int p2)] [(.ref a1)])) rfl rfl (hb hby dprog_3_method_4_code_5)
      have k7 : Go p e below (s₁.setTop (entryFrame m #[(.ref a1), (.int p2)] 2)) (T7.setTop (mkF m 8 #[.val (.ref a1), .val (.int p2)] [(.int os)])) := fun t kk => k6 t (st7 t kk)
      have k8 : Go p e below (s₁.setTop (entryFrame m #[(.ref a1), (.int p2)] 2)) (T7.setTop (mkF m 15 #[.val (.ref a1), .val (.int p2)] [(.int os)])) := fun t kk => k7 t (by
        show Steps p.tables e below (T7.setTop (mkF m 8 #[.val (.ref a1), .val (.int p2)] [(.int os)])) _
        refine XS.goto X7.here hx rfl (pc0 := 8) (pc' := 15) rfl (hb hby dprog_3_method_4_code_8) (by decide) (by decide) ?_
        exact kk)
      exact ⟨T7, X7, e7, os, by simp [own_due, hc1_2], k8⟩
  subst hj1
  obtain ⟨fs, hr, hrun, hended, hW, hsame⟩ := X1.leave (v := some (.int (nar .boolean (own_due p2 os oe)))) (fun h => by rw [Bd.returns] at h; cases h)
  refine ⟨_, _, k1 _ ?_, hrun, hended, _, _, rfl, ?_, ⟨_, rfl⟩, hW, hsame.mono (by decide) (by decide)⟩
  · show Steps p.tables e below (T1.setTop (mkF m 15 #[.val (.ref a1), .val (.int p2)] [(.int (own_due p2 os oe))])) _
    exact retN X1 hx (t := .boolean) Bd.returns (by simp) (hb hby dprog_3_method_4_code_15) hr
  · show QD Z a1 p2 os oe h0 n0 _ T1.heap _
    rw [e1]
    exact ⟨by rw [own_due01 b1 b2], rfl, rfl⟩
theorem pd_0 : parseMethodDescriptor "(Z)Z" = some ⟨[.boolean], some .boolean⟩ := by decide +kernel
theorem ef_rm0 (m : MethodId) (x0 : Int32) (x1 : Int32) : entryFrame m #[(.int x0), (.int x1)] maxLocals = mkF m 0 #[.val (.int x0), .val (.int x1), .unset, .unset, .unset, .unset] [] := by first | (simp [entryFrame, mkF, argsToLocals, Value.category, maxLocals]; done) | rfl
def Q0 (Z : State) (p1 : Int32) (p2 : Int32) (a_AL : Addr) (a_NE : Addr) (a_ER : Addr) (a_SU : Addr) (h0 : Heap) (n0 : Nat) (v : Option Value) (h : Heap) (L : List Loc) : Prop := v = some (.int 1) ∧ Fr n0 L
theorem pn_1 : plainName "com/example/slotwire/slotwire/ConditionDuePinLaw" = true := by first | (simp [plainName, overriddenIn]; done) | decide +kernel
set_option maxRecDepth 65536 in
set_option maxHeartbeats 40000000 in
theorem rm0 (l : Launch) (Z : State) (a0 : Array Value) (hw : ∀ d ∈ tables_1, d.before a0 Z = true) (ws : List Jvm.Cond) (p1 : Int32) (p2 : Int32) (a_AL : Addr) (a_NE : Addr) (a_ER : Addr) (a_SU : Addr) (h0 : Heap) (n0 : Nat) (Z0 : n0 ≤ h0.size) (S_AL : Sta Z h0 "com/example/slotwire/slotwire/Acknowledgments$Condition" "AL" "Lcom/example/slotwire/slotwire/Acknowledgments$Condition;" (.ref a_AL)) (S_NE : Sta Z h0 "com/example/slotwire/slotwire/Acknowledgments$Condition" "NE" "Lcom/example/slotwire/slotwire/Acknowledgments$Condition;" (.ref a_NE)) (S_ER : Sta Z h0 "com/example/slotwire/slotwire/Acknowledgments$Condition" "ER" "Lcom/example/slotwire/slotwire/Acknowledgments$Condition;" (.ref a_ER)) (S_SU : Sta Z h0 "com/example/slotwire/slotwire/Acknowledgments$Condition" "SU" "Lcom/example/slotwire/slotwire/Acknowledgments$Condition;" (.ref a_SU)) (E_AL : Exa Z h0 a_AL "com/example/slotwire/slotwire/Acknowledgments$Condition") (E_NE : Exa Z h0 a_NE "com/example/slotwire/slotwire/Acknowledgments$Condition") (E_ER : Exa Z h0 a_ER "com/example/slotwire/slotwire/Acknowledgments$Condition") (E_SU : Exa Z h0 a_SU "com/example/slotwire/slotwire/Acknowledgments$Condition") (onSuccess_AL : Fld Z h0 a_AL "com/example/slotwire/slotwire/Acknowledgments$Condition" "onSuccess" "Z" (.int (1 : Int32))) (onError_AL : Fld Z h0 a_AL "com/example/slotwire/slotwire/Acknowledgments$Condition" "onError" "Z" (.int (1 : Int32))) (onSuccess_NE : Fld Z h0 a_NE "com/example/slotwire/slotwire/Acknowledgments$Condition" "onSuccess" "Z" (.int (0 : Int32))) (onError_NE : Fld Z h0 a_NE "com/example/slotwire/slotwire/Acknowledgments$Condition" "onError" "Z" (.int (0 : Int32))) (onSuccess_ER : Fld Z h0 a_ER "com/example/slotwire/slotwire/Acknowledgments$Condition" "onSuccess" "Z" (.int (0 : Int32))) (onError_ER : Fld Z h0 a_ER "com/example/slotwire/slotwire/Acknowledgments$Condition" "onError" "Z" (.int (1 : Int32))) (onSuccess_SU : Fld Z h0 a_SU "com/example/slotwire/slotwire/Acknowledgments$Condition" "onSuccess" "Z" (.int (1 : Int32))) (onError_SU : Fld Z h0 a_SU "com/example/slotwire/slotwire/Acknowledgments$Condition" "onError" "Z" (.int (0 : Int32))) :
    MetFree l x (head1 (Jvm.Cond.code x code maxLocals ret :: ws) room_1) (fun a U => a = #[(.int p1), (.int p2)] ∧ Z.Warmed39 U.vm ∧ U.heap = h0) (fun _ _ _ _ _ => True) (fun _ U o U' => ∃ v L, o = .returned v ∧ Q0 Z p1 p2 a_AL a_NE a_ER a_SU h0 n0 v U'.heap L ∧ FrameEnd U o U' L room_1.cells room_1.slots) := by
  refine MetFree.of_bodySF (plainFor_of_name pn_1) hisR ?_
  intro p e s m args below meth c s₁ Bd hml0 hP hK
  obtain ⟨rfl, hZ, hh⟩ := hP
  have hx := Bd.exec
  have hby := Bd.bytes
  have hml : c.maxLocals = 6 := hml0
  have hown : s.vm.findClass "com/example/slotwire/slotwire/ConditionDuePinLaw" = some m.cls := findClass_of_methodNamed Bd.named
  have hnm := (name_of_methodNamed Bd.named Bd.method).1
  have X0 : Stand p l e room_1 s m #[(.int p1), (.int p2)] below meth c s₁ [] 0 0 := Stand.of_body Bd
  have e0 : s₁.heap = h0 := by rw [← hh, Bd.state]; rfl
  have N0 := Fr.nil n0
  have k0 : Go p e below (s₁.setTop (entryFrame m #[(.int p1), (.int p2)] maxLocals)) (s₁.setTop (mkF m 0 #[.val (.int p1), .val (.int p2), .unset, .unset, .unset, .unset] [])) := fun t k => castTop (ef_rm0 m p1 p2) k
  obtain ⟨vs, hj1, k1⟩ : ∃ vs : Int32, (vs = 0 ∨ vs = 1) ∧ Go p e below (s₁.setTop (entryFrame m #[(.int p1), (.int p2)] maxLocals)) (s₁.setTop (mkF m 15 #[.val (.int p1), .val (.int p2), .val (.int (p1 &&& (3 : Int32))), .unset, .unset, .unset] [(.int vs)])) := by
    have k3 : Go p e below (s₁.setTop (entryFrame m #[(.int p1), (.int p2)] maxLocals)) (s₁.setTop (mkF m 7 #[.val (.int p1), .val (.int p2), .val (.int (p1 &&& (3 : Int32))), .unset, .unset, .unset] [(.int (p2 &&& (1 : Int32)))])) := fun t kk => k0 t (by
      show Steps p.tables e below (s₁.setTop (mkF m 0 #[.val (.int p1), .val (.int p2), .unset, .unset, .unset, .unset] [])) _
      refine XS.iloadN X0.here hx rfl (hb hby at_0) rfl ?_
      show Steps p.tables e below (s₁.setTop (mkF m 1 #[.val (.int p1), .val (.int p2), .unset, .unset, .unset, .unset] [(.int p1)])) _
      refine XS.iconst X0.here hx rfl (hb hby at_1) ?_
      show Steps p.tables e below (s₁.setTop (mkF m 2 #[.val (.int p1), .val (.int p2), .unset, .unset, .unset, .unset] [(.int (3 : Int32)), (.int p1)])) _
      refine XS.iand X0.here hx rfl (hb hby at_2) rfl ?_
      show Steps p.tables e below (s₁.setTop (mkF m 3 #[.val (.int p1), .val (.int p2), .unset, .unset, .unset, .unset] [(.int (p1 &&& (3 : Int32)))])) _
      refine XS.istoreN X0.here hx rfl (hb hby at_3) rfl (l' := #[.val (.int p1), .val (.int p2), .val (.int (p1 &&& (3 : Int32))), .unset, .unset, .unset]) rfl ?_
      show Steps p.tables e below (s₁.setTop (mkF m 4 #[.val (.int p1), .val (.int p2), .val (.int (p1 &&& (3 : Int32))), .unset, .unset, .unset] [])) _
      refine XS.iloadN X0.here hx rfl (hb hby at_4) rfl ?_
      show Steps p.tables e below (s₁.setTop (mkF m 5 #[.val (.int p1), .val (.int p2), .val (.int (p1 &&& (3 : Int32))), .unset, .unset, .unset] [(.int p2)])) _
      refine XS.iconst X0.here hx rfl (hb hby at_5) ?_
      show Steps p.tables e below (s₁.setTop (mkF m 6 #[.val (.int p1), .val (.int p2), .val (.int (p1 &&& (3 : Int32))), .unset, .unset, .unset] [(.int (1 : Int32)), (.int p2)])) _
      refine XS.iand X0.here hx rfl (hb hby at_6) rfl ?_
      exact kk)
    by_cases hc7_2 : (p2 &&& (1 : Int32)) = (0 : Int32)
    · have k4 : Go p e below (s₁.setTop (entryFrame m #[(.int p1), (.int p2)] maxLocals)) (s₁.setTop (mkF m 15 #[.val (.int p1), .val (.int p2), .val (.int (p1 &&& (3 : Int32))), .unset, .unset, .unset] [(.int (0 : Int32))])) := fun t kk => k3 t (by
        show Steps p.tables e below (s₁.setTop (mkF m 7 #[.val (.int p1), .val (.int p2), .val (.int (p1 &&& (3 : Int32))), .unset, .unset, .unset] [(.int (p2 &&& (1 : Int32)))])) _
        refine XS.ifYes X0.here hx rfl (pc0 := 7) (pc' := 14) rfl (hb hby at_7) rfl ((if0 _ _).trans (teq hc7_2).1) (by decide) (by decide) ?_
        show Steps p.tables e below (s₁.setTop (mkF m 14 #[.val (.int p1), .val (.int p2), .val (.int (p1 &&& (3 : Int32))), .unset, .unset, .unset] [])) _
        refine XS.iconst X0.here hx rfl (hb hby at_14) ?_
        exact kk)
      exact ⟨(0 : Int32), by decide, k4⟩
    · have k5 : Go p e below (s₁.setTop (entryFrame m #[(.int p1), (.int p2)] maxLocals)) (s₁.setTop (mkF m 15 #[.val (.int p1), .val (.int p2), .val (.int (p1 &&& (3 : Int32))), .unset, .unset, .unset] [(.int (1 : Int32))])) := fun t kk => k3 t (by
        show Steps p.tables e below (s₁.setTop (mkF m 7 #[.val (.int p1), .val (.int p2), .val (.int (p1 &&& (3 : Int32))), .unset, .unset, .unset] [(.int (p2 &&& (1 : Int32)))])) _
        refine XS.ifNo X0.here hx rfl (hb hby at_7) rfl ((if0 _ _).trans (feq hc7_2).1) ?_
        show Steps p.tables e below (s₁.setTop (mkF m 10 #[.val (.int p1), .val (.int p2), .val (.int (p1 &&& (3 : Int32))), .unset, .unset, .unset] [])) _
        refine XS.iconst X0.here hx rfl (hb hby at_10) ?_
        show Steps p.tables e below (s₁.setTop (mkF m 11 #[.val (.int p1), .val (.int p2), .val (.int (p1 &&& (3 : Int32))), .unset, .unset, .unset] [(.int (1 : Int32))])) _
        refine XS.goto X0.here hx rfl (pc0 := 11) (pc' := 15) rfl (hb hby at_11) (by decide) (by decide) ?_
        exact kk)
      exact ⟨(1 : Int32), by decide, k5⟩
  obtain ⟨T6, X6, e6, va, vb, hj6, k6⟩ : ∃ T' : State, Stand p l e room_1 s m #[(.int p1), (.int p2)] below meth c T' [] 0 0 ∧ T'.heap = h0 ∧ ∃ va : Addr, ∃ vb : Int32, (∃ os oe : Int32, Exa Z h0 va "com/example/slotwire/slotwire/Acknowledgments$Condition" ∧ Fld Z h0 va "com/example/slotwire/slotwire/Acknowledgments$Condition" "onSuccess" "Z" (.int os) ∧ Fld Z h0 va "com/example/slotwire/slotwire/Acknowledgments$Condition" "onError" "Z" (.int oe) ∧ nar .boolean os = os ∧ nar .boolean oe = oe ∧ own_due vs os oe = vb) ∧ Go p e below (s₁.setTop (entryFrame m #[(.int p1), (.int p2)] maxLocals)) (T'.setTop (mkF m 79 #[.val (.int p1), .val (.int p2), .val (.int (p1 &&& (3 : Int32))), .val (.int vs), .val (.ref va), .val (.int vb)] [])) := by
    have k8 : Go p e below (s₁.setTop (entryFrame m #[(.int p1), (.int p2)] maxLocals)) (s₁.setTop (mkF m 17 #[.val (.int p1), .val (.int p2), .val (.int (p1 &&& (3 : Int32))), .val (.int vs), .unset, .unset] [(.int (p1 &&& (3 : Int32)))])) := fun t kk => k1 t (by
      show Steps p.tables e below (s₁.setTop (mkF m 15 #[.val (.int p1), .val (.int p2), .val (.int (p1 &&& (3 : Int32))), .unset, .unset, .unset] [(.int vs)])) _
      refine XS.istoreN X0.here hx rfl (hb hby at_15) rfl (l' := #[.val (.int p1), .val (.int p2), .val (.int (p1 &&& (3 : Int32))), .val (.int vs), .unset, .unset]) rfl ?_
      show Steps p.tables e below (s₁.setTop (mkF m 16 #[.val (.int p1), .val (.int p2), .val (.int (p1 &&& (3 : Int32))), .val (.int vs), .unset, .unset] [])) _
      refine XS.iloadN X0.here hx rfl (hb hby at_16) rfl ?_
      exact kk)
    by_cases hc17_7 : (p1 &&& (3 : Int32)) = (0 : Int32)
    · have k9 : Go p e below (s₁.setTop (entryFrame m #[(.int p1), (.int p2)] maxLocals)) (s₁.setTop (mkF m 20 #[.val (.int p1), .val (.int p2), .val (.int (p1 &&& (3 : Int32))), .val (.int vs), .unset, .unset] [])) := fun t kk => k8 t (by
        show Steps p.tables e below (s₁.setTop (mkF m 17 #[.val (.int p1), .val (.int p2), .val (.int (p1 &&& (3 : Int32))), .val (.int vs), .unset, .unset] [(.int (p1 &&& (3 : Int32)))])) _
        refine XS.ifNo X0.here hx rfl (hb hby at_17) rfl ((if0 _ _).trans (teq hc17_7).2) ?_
        exact kk)
      obtain ⟨T10, X10, e10, st10⟩ := getS2 X0 hx hZ hown (host := "") (Or.inl (hw _ (List.mem_of_getElem? (i := 0) rfl))) Via.refl e0 S_AL (g := (mkF m 20 #[.val (.int p1), .val (.int p2), .val (.int (p1 &&& (3 : Int32))), .val (.int vs), .unset, .unset] [])) rfl (hb hby at_20)
      have k10 : Go p e below (s₁.setTop (entryFrame m #[(.int p1), (.int p2)] maxLocals)) (T10.setTop (mkF m 23 #[.val (.int p1), .val (.int p2), .val (.int (p1 &&& (3 : Int32))), .val (.int vs), .unset, .unset] [(.ref a_AL)])) := fun t kk => k9 t (st10 t kk)
      have k11 : Go p e below (s₁.setTop (entryFrame m #[(.int p1), (.int p2)] maxLocals)) (T10.setTop (mkF m 79 #[.val (.int p1), .val (.int p2), .val (.int (p1 &&& (3 : Int32))), .val (.int vs), .val (.ref a_AL), .val (.int (1 : Int32))] [])) := fun t kk => k10 t (by
        show Steps p.tables e below (T10.setTop (mkF m 23 #[.val (.int p1), .val (.int p2), .val (.int (p1 &&& (3 : Int32))), .val (.int vs), .unset, .unset] [(.ref a_AL)])) _
        refine XS.astore X10.here hx rfl (hb hby at_23) rfl rfl (l' := #[.val (.int p1), .val (.int p2), .val (.int (p1 &&& (3 : Int32))), .val (.int vs), .val (.ref a_AL), .unset]) rfl ?_
        show Steps p.tables e below (T10.setTop (mkF m 25 #[.val (.int p1), .val (.int p2), .val (.int (p1 &&& (3 : Int32))), .val (.int vs), .val (.ref a_AL), .unset] [])) _
        refine XS.iconst X10.here hx rfl (hb hby at_25) ?_
        show Steps p.tables e below (T10.setTop (mkF m 26 #[.val (.int p1), .val (.int p2), .val (.int (p1 &&& (3 : Int32))), .val (.int vs), .val (.ref a_AL), .unset] [(.int (1 : Int32))])) _
        refine XS.istore X10.here hx rfl (hb hby at_26) rfl (l' := #[.val (.int p1), .val (.int p2), .val (.int (p1 &&& (3 : Int32))), .val (.int vs), .val (.ref a_AL), .val (.int (1 : Int32))]) rfl ?_
        show Steps p.tables e below (T10.setTop (mkF m 28 #[.val (.int p1), .val (.int p2), .val (.int (p1 &&& (3 : Int32))), .val (.int vs), .val (.ref a_AL), .val (.int (1 : Int32))] [])) _
        refine XS.goto X10.here hx rfl (pc0 := 28) (pc' := 79) rfl (hb hby at_28) (by decide) (by decide) ?_
        exact kk)
      exact ⟨T10, X10, e10, a_AL, (1 : Int32), ⟨_, _, E_AL, onSuccess_AL, onError_AL, by decide, by decide, by unfold own_due; split <;> rfl⟩, k11⟩
    · have k13 : Go p e below (s₁.setTop (entryFrame m #[(.int p1), (.int p2)] maxLocals)) (s₁.setTop (mkF m 33 #[.val (.int p1), .val (.int p2), .val (.int (p1 &&& (3 : Int32))), .val (.int vs), .unset, .unset] [(.int (1 : Int32)), (.int (p1 &&& (3 : Int32)))])) := fun t kk => k8 t (by
        show Steps p.tables e below (s₁.setTop (mkF m 17 #[.val (.int p1), .val (.int p2), .val (.int (p1 &&& (3 : Int32))), .val (.int vs), .unset, .unset] [(.int (p1 &&& (3 : Int32)))])) _
        refine XS.ifYes X0.here hx rfl (pc0 := 17) (pc' := 31) rfl (hb hby at_17) rfl ((if0 _ _).trans (feq hc17_7).2) (by decide) (by decide) ?_
        show Steps p.tables e below (s₁.setTop (mkF m 31 #[.val (.int p1), .val (.int p2), .val (.int (p1 &&& (3 : Int32))), .val (.int vs), .unset, .unset] [])) _
        refine XS.iloadN X0.here hx rfl (hb hby at_31) rfl ?_
        show Steps p.tables e below (s₁.setTop (mkF m 32 #[.val (.int p1), .val (.int p2), .val (.int (p1 &&& (3 : Int32))), .val (.int vs), .unset, .unset] [(.int (p1 &&& (3 : Int32)))])) _
        refine XS.iconst X0.here hx rfl (hb hby at_32) ?_
        exact kk)
      by_cases hc33_12 : (p1 &&& (3 : Int32)) = (1 : Int32)
      · have k14 : Go p e below (s₁.setTop (entryFrame m #[(.int p1), (.int p2)] maxLocals)) (s₁.setTop (mkF m 36 #[.val (.int p1), .val (.int p2), .val (.int (p1 &&& (3 : Int32))), .val (.int vs), .unset, .unset] [])) := fun t kk => k13 t (by
          show Steps p.tables e below (s₁.setTop (mkF m 33 #[.val (.int p1), .val (.int p2), .val (.int (p1 &&& (3 : Int32))), .val (.int vs), .unset, .unset] [(.int (1 : Int32)), (.int (p1 &&& (3 : Int32)))])) _
          refine XS.icmpNo X0.here hx rfl (hb hby at_33) rfl (teq hc33_12).2 ?_
          exact kk)
        obtain ⟨T15, X15, e15, st15⟩ := getS2 X0 hx hZ hown (host := "") (Or.inl (hw _ (List.mem_of_getElem? (i := 14) rfl))) Via.refl e0 S_NE (g := (mkF m 36 #[.val (.int p1), .val (.int p2), .val (.int (p1 &&& (3 : Int32))), .val (.int vs), .unset, .unset] [])) rfl (hb hby at_36)
        have k15 : Go p e below (s₁.setTop (entryFrame m #[(.int p1), (.int p2)] maxLocals)) (T15.setTop (mkF m 39 #[.val (.int p1), .val (.int p2), .val (.int (p1 &&& (3 : Int32))), .val (.int vs), .unset, .unset] [(.ref a_NE)])) := fun t kk => k14 t (st15 t kk)
        have k16 : Go p e below (s₁.setTop (entryFrame m #[(.int p1), (.int p2)] maxLocals)) (T15.setTop (mkF m 79 #[.val (.int p1), .val (.int p2), .val (.int (p1 &&& (3 : Int32))), .val (.int vs), .val (.ref a_NE), .val (.int (0 : Int32))] [])) := fun t kk => k15 t (by
          show Steps p.tables e below (T15.setTop (mkF m 39 #[.val (.int p1), .val (.int p2), .val (.int (p1 &&& (3 : Int32))), .val (.int vs), .unset, .unset] [(.ref a_NE)])) _
          refine XS.astore X15.here hx rfl (hb hby at_39) rfl rfl (l' := #[.val (.int p1), .val (.int p2), .val (.int (p1 &&& (3 : Int32))), .val (.int vs), .val (.ref a_NE), .unset]) rfl ?_
          show Steps p.tables e below (T15.setTop (mkF m 41 #[.val (.int p1), .val (.int p2), .val (.int (p1 &&& (3 : Int32))), .val (.int vs), .val (.ref a_NE), .unset] [])) _
          refine XS.iconst X15.here hx rfl (hb hby at_41) ?_
          show Steps p.tables e below (T15.setTop (mkF m 42 #[.val (.int p1), .val (.int p2), .val (.int (p1 &&& (3 : Int32))), .val (.int vs), .val (.ref a_NE), .unset] [(.int (0 : Int32))])) _
          refine XS.istore X15.here hx rfl (hb hby at_42) rfl (l' := #[.val (.int p1), .val (.int p2), .val (.int (p1 &&& (3 : Int32))), .val (.int vs), .val (.ref a_NE), .val (.int (0 : Int32))]) rfl ?_
          show Steps p.tables e below (T15.setTop (mkF m 44 #[.val (.int p1), .val (.int p2), .val (.int (p1 &&& (3 : Int32))), .val (.int vs), .val (.ref a_NE), .val (.int (0 : Int32))] [])) _
          refine XS.goto X15.here hx rfl (pc0 := 44) (pc' := 79) rfl (hb hby at_44) (by decide) (by decide) ?_
          exact kk)
        exact ⟨T15, X15, e15, a_NE, (0 : Int32), ⟨_, _, E_NE, onSuccess_NE, onError_NE, by decide, by decide, by unfold own_due; split <;> rfl⟩, k16⟩
      · have k18 : Go p e below (s₁.setTop (entryFrame m #[(.int p1), (.int p2)] maxLocals)) (s₁.setTop (mkF m 49 #[.val (.int p1), .val (.int p2), .val (.int (p1 &&& (3 : Int32))), .val (.int vs), .unset, .unset] [(.int (2 : Int32)), (.int (p1 &&& (3 : Int32)))])) := fun t kk => k13 t (by
          show Steps p.tables e below (s₁.setTop (mkF m 33 #[.val (.int p1), .val (.int p2), .val (.int (p1 &&& (3 : Int32))), .val (.int vs), .unset, .unset] [(.int (1 : Int32)), (.int (p1 &&& (3 : Int32)))])) _
          refine XS.icmpYes X0.here hx rfl (pc0 := 33) (pc' := 47) rfl (hb hby at_33) rfl (feq hc33_12).2 (by decide) (by decide) ?_
          show Steps p.tables e below (s₁.setTop (mkF m 47 #[.val (.int p1), .val (.int p2), .val (.int (p1 &&& (3 : Int32))), .val (.int vs), .unset, .unset] [])) _
          refine XS.iloadN X0.here hx rfl (hb hby at_47) rfl ?_
          show Steps p.tables e below (s₁.setTop (mkF m 48 #[.val (.int p1), .val (.int p2), .val (.int (p1 &&& (3 : Int32))), .val (.int vs), .unset, .unset] [(.int (p1 &&& (3 : Int32)))])) _
          refine XS.iconst X0.here hx rfl (hb hby at_48) ?_
          exact kk)
        by_cases hc49_17 : (p1 &&& (3 : Int32)) = (2 : Int32)
        · have k19 : Go p e below (s₁.setTop (entryFrame m #[(.int p1), (.int p2)] maxLocals)) (s₁.setTop (mkF m 52 #[.val (.int p1), .val (.int p2), .val (.int (p1 &&& (3 : Int32))), .val (.int vs), .unset, .unset] [])) := fun t kk => k18 t (by
            show Steps p.tables e below (s₁.setTop (mkF m 49 #[.val (.int p1), .val (.int p2), .val (.int (p1 &&& (3 : Int32))), .val (.int vs), .unset, .unset] [(.int (2 : Int32)), (.int (p1 &&& (3 : Int32)))])) _
            refine XS.icmpNo X0.here hx rfl (hb hby at_49) rfl (teq hc49_17).2 ?_
            exact kk)
          obtain ⟨T20, X20, e20, st20⟩ := getS2 X0 hx hZ hown (host := "") (Or.inl (hw _ (List.mem_of_getElem? (i := 10) rfl))) Via.refl e0 S_ER (g := (mkF m 52 #[.val (.int p1), .val (.int p2), .val (.int (p1 &&& (3 : Int32))), .val (.int vs), .unset, .unset] [])) rfl (hb hby at_52)
          have k20 : Go p e below (s₁.setTop (entryFrame m #[(.int p1), (.int p2)] maxLocals)) (T20.setTop (mkF m 55 #[.val (.int p1), .val (.int p2), .val (.int (p1 &&& (3 : Int32))), .val (.int vs), .unset, .unset] [(.ref a_ER)])) := fun t kk => k19 t (st20 t kk)
          have k22 : Go p e below (s₁.setTop (entryFrame m #[(.int p1), (.int p2)] maxLocals)) (T20.setTop (mkF m 58 #[.val (.int p1), .val (.int p2), .val (.int (p1 &&& (3 : Int32))), .val (.int vs), .val (.ref a_ER), .unset] [(.int vs)])) := fun t kk => k20 t (by
            show Steps p.tables e below (T20.setTop (mkF m 55 #[.val (.int p1), .val (.int p2), .val (.int (p1 &&& (3 : Int32))), .val (.int vs), .unset, .unset] [(.ref a_ER)])) _
            refine XS.astore X20.here hx rfl (hb hby at_55) rfl rfl (l' := #[.val (.int p1), .val (.int p2), .val (.int (p1 &&& (3 : Int32))), .val (.int vs), .val (.ref a_ER), .unset]) rfl ?_
            show Steps p.tables e below (T20.setTop (mkF m 57 #[.val (.int p1), .val (.int p2), .val (.int (p1 &&& (3 : Int32))), .val (.int vs), .val (.ref a_ER), .unset] [])) _
            refine XS.iloadN X20.here hx rfl (hb hby at_57) rfl ?_
            exact kk)
          by_cases hc58_21 : vs = (0 : Int32)
          · have k23 : Go p e below (s₁.setTop (entryFrame m #[(.int p1), (.int p2)] maxLocals)) (T20.setTop (mkF m 79 #[.val (.int p1), .val (.int p2), .val (.int (p1 &&& (3 : Int32))), .val (.int vs), .val (.ref a_ER), .val (.int (1 : Int32))] [])) := fun t kk => k22 t (by
              show Steps p.tables e below (T20.setTop (mkF m 58 #[.val (.int p1), .val (.int p2), .val (.int (p1 &&& (3 : Int32))), .val (.int vs), .val (.ref a_ER), .unset] [(.int vs)])) _
              refine XS.ifNo X20.here hx rfl (hb hby at_58) rfl ((if0 _ _).trans (teq hc58_21).2) ?_
              show Steps p.tables e below (T20.setTop (mkF m 61 #[.val (.int p1), .val (.int p2), .val (.int (p1 &&& (3 : Int32))), .val (.int vs), .val (.ref a_ER), .unset] [])) _
              refine XS.iconst X20.here hx rfl (hb hby at_61) ?_
              show Steps p.tables e below (T20.setTop (mkF m 62 #[.val (.int p1), .val (.int p2), .val (.int (p1 &&& (3 : Int32))), .val (.int vs), .val (.ref a_ER), .unset] [(.int (1 : Int32))])) _
              refine XS.goto X20.here hx rfl (pc0 := 62) (pc' := 66) rfl (hb hby at_62) (by decide) (by decide) ?_
              show Steps p.tables e below (T20.setTop (mkF m 66 #[.val (.int p1), .val (.int p2), .val (.int (p1 &&& (3 : Int32))), .val (.int vs), .val (.ref a_ER), .unset] [(.int (1 : Int32))])) _
              refine XS.istore X20.here hx rfl (hb hby at_66) rfl (l' := #[.val (.int p1), .val (.int p2), .val (.int (p1 &&& (3 : Int32))), .val (.int vs), .val (.ref a_ER), .val (.int (1 : Int32))]) rfl ?_
              show Steps p.tables e below (T20.setTop (mkF m 68 #[.val (.int p1), .val (.int p2), .val (.int (p1 &&& (3 : Int32))), .val (.int vs), .val (.ref a_ER), .val (.int (1 : Int32))] [])) _
              refine XS.goto X20.here hx rfl (pc0 := 68) (pc' := 79) rfl (hb hby at_68) (by decide) (by decide) ?_
              exact kk)
            exact ⟨T20, X20, e20, a_ER, (1 : Int32), ⟨_, _, E_ER, onSuccess_ER, onError_ER, by decide, by decide, by unfold own_due; rw [if_pos hc58_21]⟩, k23⟩
          · have k24 : Go p e below (s₁.setTop (entryFrame m #[(.int p1), (.int p2)] maxLocals)) (T20.setTop (mkF m 79 #[.val (.int p1), .val (.int p2), .val (.int (p1 &&& (3 : Int32))), .val (.int vs), .val (.ref a_ER), .val (.int (0 : Int32))] [])) := fun t kk => k22 t (by
              show Steps p.tables e below (T20.setTop (mkF m 58 #[.val (.int p1), .val (.int p2), .val (.int (p1 &&& (3 : Int32))), .val (.int vs), .val (.ref a_ER), .unset] [(.int vs)])) _
              refine XS.ifYes X20.here hx rfl (pc0 := 58) (pc' := 65) rfl (hb hby at_58) rfl ((if0 _ _).trans (feq hc58_21).2) (by decide) (by decide) ?_
              show Steps p.tables e below (T20.setTop (mkF m 65 #[.val (.int p1), .val (.int p2), .val (.int (p1 &&& (3 : Int32))), .val (.int vs), .val (.ref a_ER), .unset] [])) _
              refine XS.iconst X20.here hx rfl (hb hby at_65) ?_
              show Steps p.tables e below (T20.setTop (mkF m 66 #[.val (.int p1), .val (.int p2), .val (.int (p1 &&& (3 : Int32))), .val (.int vs), .val (.ref a_ER), .unset] [(.int (0 : Int32))])) _
              refine XS.istore X20.here hx rfl (hb hby at_66) rfl (l' := #[.val (.int p1), .val (.int p2), .val (.int (p1 &&& (3 : Int32))), .val (.int vs), .val (.ref a_ER), .val (.int (0 : Int32))]) rfl ?_
              show Steps p.tables e below (T20.setTop (mkF m 68 #[.val (.int p1), .val (.int p2), .val (.int (p1 &&& (3 : Int32))), .val (.int vs), .val (.ref a_ER), .val (.int (0 : Int32))] [])) _
              refine XS.goto X20.here hx rfl (pc0 := 68) (pc' := 79) rfl (hb hby at_68) (by decide) (by decide) ?_
              exact kk)
            exact ⟨T20, X20, e20, a_ER, (0 : Int32), ⟨_, _, E_ER, onSuccess_ER, onError_ER, by decide, by decide, by unfold own_due; rw [if_neg hc58_21]⟩, k24⟩
        · have k25 : Go p e below (s₁.setTop (entryFrame m #[(.int p1), (.int p2)] maxLocals)) (s₁.setTop (mkF m 71 #[.val (.int p1), .val (.int p2), .val (.int (p1 &&& (3 : Int32))), .val (.int vs), .unset, .unset] [])) := fun t kk => k18 t (by
            show Steps p.tables e below (s₁.setTop (mkF m 49 #[.val (.int p1), .val (.int p2), .val (.int (p1 &&& (3 : Int32))), .val (.int vs), .unset, .unset] [(.int (2 : Int32)), (.int (p1 &&& (3 : Int32)))])) _
            refine XS.icmpYes X0.here hx rfl (pc0 := 49) (pc' := 71) rfl (hb hby at_49) rfl (feq hc49_17).2 (by decide) (by decide) ?_
            exact kk)
          obtain ⟨T26, X26, e26, st26⟩ := getS2 X0 hx hZ hown (host := "") (Or.inl (hw _ (List.mem_of_getElem? (i := 16) rfl))) Via.refl e0 S_SU (g := (mkF m 71 #[.val (.int p1), .val (.int p2), .val (.int (p1 &&& (3 : Int32))), .val (.int vs), .unset, .unset] [])) rfl (hb hby at_71)
          have k26 : Go p e below (s₁.setTop (entryFrame m #[(.int p1), (.int p2)] maxLocals)) (T26.setTop (mkF m 74 #[.val (.int p1), .val (.int p2), .val (.int (p1 &&& (3 : Int32))), .val (.int vs), .unset, .unset] [(.ref a_SU)])) := fun t kk => k25 t (st26 t kk)
          have k27 : Go p e below (s₁.setTop (entryFrame m #[(.int p1), (.int p2)] maxLocals)) (T26.setTop (mkF m 79 #[.val (.int p1), .val (.int p2), .val (.int (p1 &&& (3 : Int32))), .val (.int vs), .val (.ref a_SU), .val (.int vs)] [])) := fun t kk => k26 t (by
            show Steps p.tables e below (T26.setTop (mkF m 74 #[.val (.int p1), .val (.int p2), .val (.int (p1 &&& (3 : Int32))), .val (.int vs), .unset, .unset] [(.ref a_SU)])) _
            refine XS.astore X26.here hx rfl (hb hby at_74) rfl rfl (l' := #[.val (.int p1), .val (.int p2), .val (.int (p1 &&& (3 : Int32))), .val (.int vs), .val (.ref a_SU), .unset]) rfl ?_
            show Steps p.tables e below (T26.setTop (mkF m 76 #[.val (.int p1), .val (.int p2), .val (.int (p1 &&& (3 : Int32))), .val (.int vs), .val (.ref a_SU), .unset] [])) _
            refine XS.iloadN X26.here hx rfl (hb hby at_76) rfl ?_
            show Steps p.tables e below (T26.setTop (mkF m 77 #[.val (.int p1), .val (.int p2), .val (.int (p1 &&& (3 : Int32))), .val (.int vs), .val (.ref a_SU), .unset] [(.int vs)])) _
            refine XS.istore X26.here hx rfl (hb hby at_77) rfl (l' := #[.val (.int p1), .val (.int p2), .val (.int (p1 &&& (3 : Int32))), .val (.int vs), .val (.ref a_SU), .val (.int vs)]) rfl ?_
            exact kk)
          exact ⟨T26, X26, e26, a_SU, vs, ⟨_, _, E_SU, onSuccess_SU, onError_SU, by decide, by decide, by unfold own_due; rcases hj1 with rfl | rfl <;> rfl⟩, k27⟩
  obtain ⟨os, oe, hE, hF1, hF2, hb1, hb2, hd⟩ := hj6
  have k28 : Go p e below (s₁.setTop (entryFrame m #[(.int p1), (.int p2)] maxLocals)) (T6.setTop (mkF m 82 #[.val (.int p1), .val (.int p2), .val (.int (p1 &&& (3 : Int32))), .val (.int vs), .val (.ref va), .val (.int vb)] [(.int vs), (.ref va)])) := fun t kk => k6 t (by
    show Steps p.tables e below (T6.setTop (mkF m 79 #[.val (.int p1), .val (.int p2), .val (.int (p1 &&& (3 : Int32))), .val (.int vs), .val (.ref va), .val (.int vb)] [])) _
    refine XS.aload X6.here hx rfl (hb hby at_79) rfl rfl ?_
    show Steps p.tables e below (T6.setTop (mkF m 81 #[.val (.int p1), .val (.int p2), .val (.int (p1 &&& (3 : Int32))), .val (.int vs), .val (.ref va), .val (.int vb)] [(.ref va)])) _
    refine XS.iloadN X6.here hx rfl (hb hby at_81) rfl ?_
    exact kk)
  obtain ⟨cq29, kq29, q29a, q29b, q29c⟩ := isOf hZ e6 hE
  obtain ⟨_, _, ⟨T29, L29, kx29, nx29⟩, -, X29, ⟨Lc29, hQ29, l29, y29, z29⟩, st29⟩ := X6.virtualBack hx (y := (⟨"com/example/slotwire/slotwire/Acknowledgments$Condition", "due", "(Z)Z"⟩ : MethodName)) (z := (⟨"com/example/slotwire/slotwire/Acknowledgments$Condition", "due", "(Z)Z"⟩ : MethodName)) hown (mvT hZ (hw _ (List.mem_of_getElem? (i := 3) rfl))) (mvT hZ (hw _ (List.mem_of_getElem? (i := 4) rfl))) (notFace_of_selects (args := #[]) (mvT hZ (hw _ (List.mem_of_getElem? (i := 6) rfl)))) (mvT hZ (hw _ (List.mem_of_getElem? (i := 6) rfl))) (mvT hZ (hw _ (List.mem_of_getElem? (i := 5) rfl))) (by decide) (backOf (W := 0) (rmD l Z a0 hw [] va vs os oe h0 n0 Z0 hF1 hF2 hb1 hb2) hZ (hw _ (List.mem_of_getElem? (i := 7) rfl)) (hw _ (List.mem_of_getElem? (i := 1) rfl)) (by decide) (by decide)) q29a q29c (g := (mkF m 82 #[.val (.int p1), .val (.int p2), .val (.int (p1 &&& (3 : Int32))), .val (.int vs), .val (.ref va), .val (.int vb)] [(.int vs), (.ref va)])) rfl (by rw [hml]; rfl) (Steps.refl _) (argsL := [(.int vs)]) (rest := []) (lenOf pd_0 rfl) rfl (by show 2 * 0 + _ ≤ _; exact Nat.le_of_eq rfl) (hb hby at_82) (fun _ _ => ⟨rfl, e6, (by decide : 0 + 0 ≤ _), (by decide : 0 + 0 ≤ _)⟩)
  dsimp only [Pt.U, Pt.locs, Pt.cells, Pt.slots] at X29 l29 y29 z29 st29 hQ29
  subst l29 y29 z29
  obtain ⟨rfl, rfl, e29⟩ := hQ29
  try rw [List.append_nil] at X29
  have k29 : Go p e below (s₁.setTop (entryFrame m #[(.int p1), (.int p2)] maxLocals)) (T29.setTop (mkF m 85 #[.val (.int p1), .val (.int p2), .val (.int (p1 &&& (3 : Int32))), .val (.int vs), .val (.ref va), .val (.int vb)] [(.int (own_due vs os oe))])) := fun t kk => k28 t (st29.trans kk)
  have k30 : Go p e below (s₁.setTop (entryFrame m #[(.int p1), (.int p2)] maxLocals)) (T29.setTop (mkF m 95 #[.val (.int p1), .val (.int p2), .val (.int (p1 &&& (3 : Int32))), .val (.int vs), .val (.ref va), .val (.int vb)] [(.int (1 : Int32))])) := fun t kk => k29 t (by
    show Steps p.tables e below (T29.setTop (mkF m 85 #[.val (.int p1), .val (.int p2), .val (.int (p1 &&& (3 : Int32))), .val (.int vs), .val (.ref va), .val (.int vb)] [(.int (own_due vs os oe))])) _
    refine XS.iload X29.here hx rfl (hb hby at_85) rfl ?_
    show Steps p.tables e below (T29.setTop (mkF m 87 #[.val (.int p1), .val (.int p2), .val (.int (p1 &&& (3 : Int32))), .val (.int vs), .val (.ref va), .val (.int vb)] [(.int vb), (.int (own_due vs os oe))])) _
    refine XS.icmpNo X29.here hx rfl (hb hby at_87) rfl (teq hd).2 ?_
    show Steps p.tables e below (T29.setTop (mkF m 90 #[.val (.int p1), .val (.int p2), .val (.int (p1 &&& (3 : Int32))), .val (.int vs), .val (.ref va), .val (.int vb)] [])) _
    refine XS.iconst X29.here hx rfl (hb hby at_90) ?_
    show Steps p.tables e below (T29.setTop (mkF m 91 #[.val (.int p1), .val (.int p2), .val (.int (p1 &&& (3 : Int32))), .val (.int vs), .val (.ref va), .val (.int vb)] [(.int (1 : Int32))])) _
    refine XS.goto X29.here hx rfl (pc0 := 91) (pc' := 95) rfl (hb hby at_91) (by decide) (by decide) ?_
    exact kk)
  obtain ⟨fs, hr, hrun, hended, hW, hsame⟩ := X29.leave (v := some (.int (1 : Int32))) (fun h => by rw [Bd.returns] at h; cases h)
  refine ⟨_, _, k30 _ ?_, hrun, hended, _, _, rfl, ?_, ⟨_, rfl⟩, hW, hsame.mono (by decide) (by decide)⟩
  · show Steps p.tables e below (T29.setTop (mkF m 95 #[.val (.int p1), .val (.int p2), .val (.int (p1 &&& (3 : Int32))), .val (.int vs), .val (.ref va), .val (.int vb)] [(.int (1 : Int32))])) _
    exact retN X29 hx (t := .boolean) Bd.returns (by simp) (hb hby at_95) hr
  · show Q0 Z p1 p2 a_AL a_NE a_ER a_SU h0 n0 _ T29.heap _
    rw [e29]
    exact ⟨rfl, N0⟩
set_option maxRecDepth 65536 in
set_option maxHeartbeats 40000000 in
theorem comes_1 {Post : Tables → Env → Array Value → State → Outcome → State → Prop} (hpost : ∀ tb e args s v u, (limb_1_1.after args s (.returned v) u = true ∧ limb_1_2.after args s (.returned v) u = true ∧ True) → FrameEnd s (.returned v) u (Jvm.fieldLocs frame_1_writes args s ++ Jvm.arrayLocs frame_1_arrays args s ++ Jvm.staticLocs frame_1_statics s) 0 0 → Post tb e args s (.returned v) u) :
    ArmFor flags0 classFile x code maxLocals ret World_1 tables_1 room_1 Calls_1 rest_1 Pre_1 Post := by
  intro l hfl _ _ p e ha hc hk s m args below hf hA hF happ hP
  obtain ⟨hcalls, hrest, hpre⟩ := hP
  obtain ⟨-, -, -, hnamed, -, -, -, hat⟩ := (Spec.applies_iff hf).mp happ
  obtain ⟨hg, hn⟩ := and_e (Cond.before_iff.mp (show (Jvm.Cond.and given_1 narrow_1).before args s = true from hpre))
  obtain ⟨g1, g2⟩ := and_e hg
  obtain ⟨g3, g4⟩ := and_e g2
  obtain ⟨w0, w1, rfl⟩ : ∃ w0 w1 : Value, args = #[w0, w1] := by
    have hs : args.size = 2 := by simpa [Cond.value, given_1] using g1
    obtain ⟨L⟩ := args
    match L, hs with
    | [w0, w1], _ => exact ⟨w0, w1, rfl⟩
  have hw := fun d (hd : d ∈ tables_1) => atoms_spec (ws := Jvm.Cond.code x code maxLocals ret :: tables_1) hat d (List.mem_cons_of_mem _ hd)
  have hfit : Fit s := fun {y c} hc i hi => by
    obtain ⟨ha, rfl⟩ := Array.getElem?_eq_some_iff.mp hc
    have q := List.all_eq_true.mp ((Array.all_eq_true_iff_forall_mem.mp hF) _ (Array.getElem_mem ha)) i (List.mem_range.mpr hi)
    simpa [Array.getElem?_eq_getElem hi] using q
  obtain ⟨i0, ei0⟩ := is_v g3
  obtain rfl : w0 = (.int i0) := Option.some.inj ei0
  obtain ⟨i1, ei1⟩ := is_v g4
  obtain rfl : w1 = (.int i1) := Option.some.inj ei1
  obtain ⟨m1, m2⟩ := and_e hn
  obtain ⟨m3, m4⟩ := and_e m2
  obtain ⟨m5, m6⟩ := and_e m4
  obtain ⟨m7, m8⟩ := and_e m6
  obtain ⟨m9, m10⟩ := and_e m8
  obtain ⟨m11, m12⟩ := and_e m10
  obtain ⟨m13, m14⟩ := and_e m12
  obtain ⟨m15, m16⟩ := and_e m14
  obtain ⟨m17, m18⟩ := and_e m16
  obtain ⟨m19, m20⟩ := and_e m18
  obtain ⟨m21, m22⟩ := and_e m20
  obtain ⟨a_AL, va_AL⟩ := exa_v m1
  have Sa_AL := Sta.start va_AL (Or.inr ⟨(hw _ (List.mem_of_getElem? (i := 1) rfl)), (hw _ (List.mem_of_getElem? (i := 2) rfl))⟩)
  have Ea_AL := Exa.start va_AL m1
  obtain ⟨a_ER, va_ER⟩ := exa_v m5
  have Sa_ER := Sta.start va_ER (Or.inr ⟨(hw _ (List.mem_of_getElem? (i := 1) rfl)), (hw _ (List.mem_of_getElem? (i := 11) rfl))⟩)
  have Ea_ER := Exa.start va_ER m5
  obtain ⟨a_NE, va_NE⟩ := exa_v m11
  have Sa_NE := Sta.start va_NE (Or.inr ⟨(hw _ (List.mem_of_getElem? (i := 1) rfl)), (hw _ (List.mem_of_getElem? (i := 15) rfl))⟩)
  have Ea_NE := Exa.start va_NE m11
  obtain ⟨a_SU, va_SU⟩ := exa_v m17
  have Sa_SU := Sta.start va_SU (Or.inr ⟨(hw _ (List.mem_of_getElem? (i := 1) rfl)), (hw _ (List.mem_of_getElem? (i := 17) rfl))⟩)
  have Ea_SU := Exa.start va_SU m17
  have eFa_AL_onSuccess := own_eqI m3
  rw [fld_at va_AL] at eFa_AL_onSuccess
  have Fa_AL_onSuccess := Fld.start eFa_AL_onSuccess
  have eFa_ER_onSuccess := own_eqI m7
  rw [fld_at va_ER] at eFa_ER_onSuccess
  have Fa_ER_onSuccess := Fld.start eFa_ER_onSuccess
  have eFa_AL_onError := own_eqI m9
  rw [fld_at va_AL] at eFa_AL_onError
  have Fa_AL_onError := Fld.start eFa_AL_onError
  have eFa_NE_onSuccess := own_eqI m13
  rw [fld_at va_NE] at eFa_NE_onSuccess
  have Fa_NE_onSuccess := Fld.start eFa_NE_onSuccess
  have eFa_ER_onError := own_eqI m15
  rw [fld_at va_ER] at eFa_ER_onError
  have Fa_ER_onError := Fld.start eFa_ER_onError
  have eFa_SU_onError := own_eqI m19
  rw [fld_at va_SU] at eFa_SU_onError
  have Fa_SU_onError := Fld.start eFa_SU_onError
  have eFa_SU_onSuccess := own_eqI m21
  rw [fld_at va_SU] at eFa_SU_onSuccess
  have Fa_SU_onSuccess := Fld.start eFa_SU_onSuccess
  have eFa_NE_onError := own_eqI m22
  rw [fld_at va_NE] at eFa_NE_onError
  have Fa_NE_onError := Fld.start eFa_NE_onError
  obtain ⟨n, o, h1, h2, h3, _, L, rfl, ⟨rfl, N⟩, hq⟩ := rm0 l s _ hw tables_1 i0 i1 a_AL a_NE a_ER a_SU s.heap s.heap.size (Nat.le_refl _) Sa_AL Sa_NE Sa_ER Sa_SU Ea_AL Ea_NE Ea_ER Ea_SU Fa_AL_onSuccess Fa_AL_onError Fa_NE_onSuccess Fa_NE_onError Fa_ER_onSuccess Fa_ER_onError Fa_SU_onSuccess Fa_SU_onError p e ha hc hk s m _ below hf ((Spec.applies_iff_loose hf).mp happ).1 ⟨rfl, State.Warmed39.refl s, rfl⟩ trivial
  refine ⟨n, _, h1, h2, h3, hpost _ _ _ _ _ _ ⟨Cond.after_iff.mpr rfl, Cond.after_iff.mpr (eq_i res_at (Term.int_eval (1)) rfl), trivial⟩ ⟨hq.1, hq.2.1, (hq.2.2.sift fun y hy => Or.inr (N y hy)).mono (by decide) (by decide)⟩⟩
theorem main_1_1 : Claimed_1_1 := comes_1 fun _ _ _ _ _ _ h hF => ⟨h.1, hF⟩
theorem main_1_2 : Claimed_1_2 := comes_1 fun _ _ _ _ _ _ h hF => ⟨h.2.1, hF⟩
end Jvm.Pilot.@@N@@
namespace Jvm.Pilot.@@N@@
open Jvm Jvm.ClassFile Sem Op Lib Jvm.Free Jvm.Stand Jvm.Pilot.@@N@@.Jvm.D
/-! MADE BY PROGRAM (witnessworld.py) out of the Statement's table words and the real class files: 12 classes; the members and pool entries that the words name. The judged class is class 1, her method 1. -/
namespace start1
open Jvm.ClassFile
def u (s : String) : CpInfo := .utf8 (stringToUtf16 s)
/-- a pool by its gaps: so many unusable entries, then the entry; so many at the end -/
def gap : Nat → List CpInfo → List CpInfo
  | 0, r => r
  | n + 1, r => .unusable :: gap n r
def poolList (es : List (Nat × CpInfo)) (last : Nat) : List CpInfo := es.foldr (fun e r => gap e.1 (e.2 :: r)) (gap last [])
def pool (es : List (Nat × CpInfo)) (last : Nat) : Array CpInfo := ⟨poolList es last⟩
def fileOf (pool : Array CpInfo) (this : Nat) (attrs : Array Attribute := #[]) (ms : Array MethodInfo := #[]) (fl : Nat := 33) (sup : Nat := 0) (ifs : Array Nat := #[]) (fds : Array FieldInfo := #[]) : ClassFile where
  minorVersion := 0
  majorVersion := 65
  constantPool := pool
  accessFlags := fl
  thisClass := this
  superClass := sup
  interfaces := ifs
  fields := fds
  methods := ms
  attributes := attrs
def plain (name : String) (sup : Option ClassId) : Class where
  name := name
  kind := .ordinary
  loader := none
  accessFlags := 33
  super := sup
  interfaces := #[]
  cf := none
  fields := #[]
  methods := #[]
  instanceTypes := #[]
  staticTypes := #[]
  resolved := #[]
  callSites := []
  init := .initialized
  statics := none
  mirror := none

def pool0 : Array CpInfo := pool [(5, u "<init>"), (0, u "()V"), (1, .class_ 10), (1, u "java/lang/Object")] 113

def k0m0 : Method := { name := "<init>", desc := "()V", sig := { parameters := [], returnType := none }, accessFlags := 1, code := none }
/-- java/lang/Object -/
def k0 : Class := { plain "java/lang/Object" none with
  accessFlags := 33
  interfaces := #[]
  cf := some (fileOf pool0 8 #[] #[{ accessFlags := 1, nameIndex := 5, descriptorIndex := 6, attributes := #[] }] 33 0 #[] #[])
  fields := #[]
  methods := #[k0m0]
  instanceTypes := #[]
  staticTypes := #[]
  resolved := Array.replicate 124 none
  statics := none }

def pool1 : Array CpInfo := pool [(2, .class_ 4), (1, u "java/lang/Object"), (0, u "<init>"), (0, u "()V"), (0, .fieldref 8 9), (0, .class_ 10), (0, .nameAndType 11 12), (0, u "com/example/slotwire/slotwire/Acknowledgments$Condition"), (0, u "AL"), (0, u "Lcom/example/slotwire/slotwire/Acknowledgments$Condition;"), (0, .fieldref 8 14), (0, .nameAndType 15 12), (0, u "NE"), (0, .fieldref 8 17), (0, .nameAndType 18 12), (0, u "ER"), (0, .fieldref 8 20), (0, .nameAndType 21 12), (0, u "SU"), (0, .methodref 8 23), (0, .nameAndType 24 25), (0, u "due"), (0, u "(Z)Z"), (0, .class_ 27), (0, u "com/example/slotwire/slotwire/ConditionDuePinLaw"), (2, u "law"), (0, u "(II)Z")] 7

def k1m0 : Method := { name := "<init>", desc := "()V", sig := { parameters := [], returnType := none }, accessFlags := 1, code := none }
def k1c1 : Code := { maxStack := 2, maxLocals := 6, code := code, exceptionTable := #[], attributes := #[] }
def k1m1 : Method := { name := "law", desc := "(II)Z", sig := { parameters := [.int, .int], returnType := some .boolean }, accessFlags := 9, code := some k1c1 }
/-- com/example/slotwire/slotwire/ConditionDuePinLaw -/
def k1 : Class := { plain "com/example/slotwire/slotwire/ConditionDuePinLaw" (some 0) with
  accessFlags := 49
  interfaces := #[]
  cf := some (fileOf pool1 26 #[] #[{ accessFlags := 1, nameIndex := 5, descriptorIndex := 6, attributes := #[] }, { accessFlags := 9, nameIndex := 30, descriptorIndex := 31, attributes := #[] }] 49 2 #[] #[])
  fields := #[]
  methods := #[k1m0, k1m1]
  instanceTypes := #[]
  staticTypes := #[]
  resolved := Array.replicate 39 none
  statics := none }

def pool2 : Array CpInfo := pool [(1, .class_ 2), (0, u "java/lang/constant/Constable"), (0, .class_ 4), (0, u "java/lang/Object")] 6

/-- java/lang/constant/Constable -/
def k2 : Class := { plain "java/lang/constant/Constable" (some 0) with
  accessFlags := 1537
  interfaces := #[]
  cf := some (fileOf pool2 1 #[] #[] 1537 3 #[] #[])
  fields := #[]
  methods := #[]
  instanceTypes := #[]
  staticTypes := #[]
  resolved := Array.replicate 11 none
  statics := none }

def pool3 : Array CpInfo := pool [(1, .class_ 2), (0, u "java/lang/Comparable"), (0, .class_ 4), (0, u "java/lang/Object")] 7

/-- java/lang/Comparable -/
def k3 : Class := { plain "java/lang/Comparable" (some 0) with
  accessFlags := 1537
  interfaces := #[]
  cf := some (fileOf pool3 1 #[] #[] 1537 3 #[] #[])
  fields := #[]
  methods := #[]
  instanceTypes := #[]
  staticTypes := #[]
  resolved := Array.replicate 12 none
  statics := none }

def pool4 : Array CpInfo := pool [(1, .class_ 2), (0, u "java/io/Serializable"), (0, .class_ 4), (0, u "java/lang/Object")] 2

/-- java/io/Serializable -/
def k4 : Class := { plain "java/io/Serializable" (some 0) with
  accessFlags := 1537
  interfaces := #[]
  cf := some (fileOf pool4 1 #[] #[] 1537 3 #[] #[])
  fields := #[]
  methods := #[]
  instanceTypes := #[]
  staticTypes := #[]
  resolved := Array.replicate 7 none
  statics := none }

def pool5 : Array CpInfo := pool [(2, .class_ 4), (1, u "java/lang/Enum"), (0, u "name"), (0, u "Ljava/lang/String;"), (2, u "ordinal"), (0, u "I"), (1, .class_ 14), (1, u "java/lang/Object"), (4, u "hash"), (86, .class_ 108), (1, u "java/lang/Enum$EnumDesc"), (2, .class_ 112), (0, u "java/lang/constant/Constable"), (0, .class_ 114), (0, u "java/lang/Comparable"), (0, .class_ 116), (0, u "java/io/Serializable")] 87

/-- java/lang/Enum -/
def k5 : Class := { plain "java/lang/Enum" (some 0) with
  accessFlags := 1057
  interfaces := #[2, 3, 4]
  cf := some (fileOf pool5 2 #[.nestMembers #[106]] #[] 1057 12 #[111, 113, 115] #[{ accessFlags := 18, nameIndex := 5, descriptorIndex := 6, attributes := #[] }, { accessFlags := 18, nameIndex := 9, descriptorIndex := 10, attributes := #[] }, { accessFlags := 2, nameIndex := 19, descriptorIndex := 10, attributes := #[] }])
  fields := #[{ name := "name", type := (.object "java/lang/String"), accessFlags := 18, slot := 0, constantValue := 0 }, { name := "ordinal", type := .int, accessFlags := 18, slot := 1, constantValue := 0 }, { name := "hash", type := .int, accessFlags := 2, slot := 2, constantValue := 0 }]
  methods := #[]
  instanceTypes := #[(.object "java/lang/String"), .int, .int]
  staticTypes := #[]
  resolved := Array.replicate 204 none
  statics := none }

def pool6 : Array CpInfo := pool [(1, .class_ 2), (0, u "com/example/slotwire/slotwire/Acknowledgments$Condition"), (2, u "AL"), (0, u "Lcom/example/slotwire/slotwire/Acknowledgments$Condition;"), (2, u "NE"), (2, u "ER"), (2, u "SU"), (2, u "$VALUES"), (0, u "[Lcom/example/slotwire/slotwire/Acknowledgments$Condition;"), (6, .class_ 28), (1, u "java/lang/Enum"), (6, .fieldref 1 36), (0, .nameAndType 37 38), (0, u "onSuccess"), (0, u "Z"), (0, .fieldref 1 40), (0, .nameAndType 41 38), (0, u "onError"), (44, u "due"), (0, u "(Z)Z"), (9, .class_ 98), (0, u "com/example/slotwire/slotwire/Acknowledgments")] 2

def k6c0 : Code := { maxStack := 1, maxLocals := 2, code := prog_3_method_4_code, exceptionTable := #[], attributes := #[] }
def k6m0 : Method := { name := "due", desc := "(Z)Z", sig := { parameters := [.boolean], returnType := some .boolean }, accessFlags := 0, code := some k6c0 }
/-- com/example/slotwire/slotwire/Acknowledgments$Condition -/
def k6 : Class := { plain "com/example/slotwire/slotwire/Acknowledgments$Condition" (some 5) with
  accessFlags := 16432
  interfaces := #[]
  cf := some (fileOf pool6 1 #[.nestHost 97] #[{ accessFlags := 0, nameIndex := 86, descriptorIndex := 87, attributes := #[] }] 16432 26 #[] #[{ accessFlags := 16409, nameIndex := 5, descriptorIndex := 6, attributes := #[] }, { accessFlags := 16409, nameIndex := 9, descriptorIndex := 6, attributes := #[] }, { accessFlags := 16409, nameIndex := 12, descriptorIndex := 6, attributes := #[] }, { accessFlags := 16409, nameIndex := 15, descriptorIndex := 6, attributes := #[] }, { accessFlags := 18, nameIndex := 37, descriptorIndex := 38, attributes := #[] }, { accessFlags := 18, nameIndex := 41, descriptorIndex := 38, attributes := #[] }, { accessFlags := 4122, nameIndex := 18, descriptorIndex := 19, attributes := #[] }])
  fields := #[{ name := "AL", type := (.object "com/example/slotwire/slotwire/Acknowledgments$Condition"), accessFlags := 16409, slot := 0, constantValue := 0 }, { name := "NE", type := (.object "com/example/slotwire/slotwire/Acknowledgments$Condition"), accessFlags := 16409, slot := 1, constantValue := 0 }, { name := "ER", type := (.object "com/example/slotwire/slotwire/Acknowledgments$Condition"), accessFlags := 16409, slot := 2, constantValue := 0 }, { name := "SU", type := (.object "com/example/slotwire/slotwire/Acknowledgments$Condition"), accessFlags := 16409, slot := 3, constantValue := 0 }, { name := "onSuccess", type := .boolean, accessFlags := 18, slot := 3, constantValue := 0 }, { name := "onError", type := .boolean, accessFlags := 18, slot := 4, constantValue := 0 }, { name := "$VALUES", type := (.array (.object "com/example/slotwire/slotwire/Acknowledgments$Condition")), accessFlags := 4122, slot := 4, constantValue := 0 }]
  methods := #[k6m0]
  instanceTypes := #[(.object "java/lang/String"), .int, .int, .boolean, .boolean]
  staticTypes := #[(.object "com/example/slotwire/slotwire/Acknowledgments$Condition"), (.object "com/example/slotwire/slotwire/Acknowledgments$Condition"), (.object "com/example/slotwire/slotwire/Acknowledgments$Condition"), (.object "com/example/slotwire/slotwire/Acknowledgments$Condition"), (.array (.object "com/example/slotwire/slotwire/Acknowledgments$Condition"))]
  resolved := Array.replicate 101 none
  statics := some 0 }

def pool7 : Array CpInfo := pool [(1, u "java/lang/Cloneable"), (0, .class_ 1), (0, u "java/lang/Object"), (0, .class_ 3)] 3

/-- java/lang/Cloneable -/
def k7 : Class := { plain "java/lang/Cloneable" (some 0) with
  accessFlags := 1537
  interfaces := #[]
  cf := some (fileOf pool7 2 #[] #[] 1537 4 #[] #[])
  fields := #[]
  methods := #[]
  instanceTypes := #[]
  staticTypes := #[]
  resolved := Array.replicate 8 none
  statics := none }

/-- the primitive byte -/
def k8 : Class := { plain "byte" none with kind := .primitive 'B', accessFlags := 0x411 }
/-- [B -/
def k9 : Class := { plain "[B" (some 0) with kind := .array 8 .byte, interfaces := #[7, 4], accessFlags := 1041 }

/-- the primitive int -/
def k10 : Class := { plain "int" none with kind := .primitive 'I', accessFlags := 0x411 }
/-- [I -/
def k11 : Class := { plain "[I" (some 0) with kind := .array 10 .int, interfaces := #[7, 4], accessFlags := 1041 }

def heap : Heap := #[{ cls := 6, slots := #[.ref 1, .ref 2, .ref 3, .ref 4, .null], vm := .statics 6 },
  { cls := 6, slots := #[.null, .int 0, .int 0, .int 1, .int 1], vm := .none },
  { cls := 6, slots := #[.null, .int 1, .int 0, .int 0, .int 0], vm := .none },
  { cls := 6, slots := #[.null, .int 2, .int 0, .int 0, .int 1], vm := .none },
  { cls := 6, slots := #[.null, .int 3, .int 0, .int 1, .int 0], vm := .none }]
def classes : Array Class := #[k0, k1, k2, k3, k4, k5, k6, k7, k8, k9, k10, k11]
def interned : List (Array UInt16 × Addr) := []
def slotsUsed : Nat := 25
def theMethod : MethodId := ⟨1, 1⟩
def args0 : Array Value := #[.int 5, .int 1]
def aboutOver (below : List Frame) : State where
  vm := { classes := classes, interned := interned.toArray }
  heap := heap
  slotsUsed := slotsUsed
  threads := #[{ frames := .invoking theMethod args0 :: below }]
def below0 : List Frame := [.native { method := ⟨0, 0⟩, args := #[] }]
def about1 : State := aboutOver below0
def p0 : Program := .bare "" "" ""
def e0 : Env := launch0.env 0 0 0
theorem w_frames : about1.frames = Frame.invoking theMethod args0 :: below0 := rfl
set_option maxRecDepth 65536 in
theorem w_args : argsFit about1.vm theMethod args0 = true := by decide +kernel
set_option maxRecDepth 65536 in
theorem w_heap : heapFits about1 = true := by decide +kernel
set_option maxRecDepth 65536 in
theorem w_runnable : about1.curStatus? = some .runnable := by decide +kernel
set_option maxRecDepth 65536 in
theorem w_alone : about1.alone = true := by decide +kernel
set_option maxRecDepth 65536 in
theorem w_named : about1.methodNamed? x = some theMethod := by decide +kernel
set_option maxRecDepth 65536 in
theorem w_hears : about1.hears theMethod below0 = true := by decide +kernel
set_option maxRecDepth 65536 in
theorem w_ripe : about1.ripe theMethod args0 below0 = true := by decide +kernel
theorem w_running : about1.status = .running := rfl
set_option maxRecDepth 65536 in
theorem w_room : about1.hasRoom e0.platform room_1 = true :=
  launch0.hasRoom_least _ room_1 (by decide +kernel) (by decide +kernel) (by decide +kernel) (by decide +kernel) (by decide +kernel) (by decide +kernel)
theorem allAtoms_all (ts : List Jvm.Cond) (a : Array Jvm.Value) (st : Jvm.State) : (allAtoms ts).before a st = ts.all (fun c => c.before a st) := by
  induction ts with
  | nil => rfl
  | cons c t ih =>
    show (Jvm.Cond.and c (allAtoms t)).before a st = _
    rw [Jvm.Cond.before_and, ih, List.all_cons]
def words1 : List Jvm.Cond := Jvm.Cond.code x code maxLocals ret :: tables_1
/-- a 'code' word, met by the world's own term for the bytes: nothing is compared byte by byte -/
theorem code_word {y : MethodName} {bytes : ByteArray} {mx : Nat} {rt : Option FieldType} {a : Array Value} {s : State} {m : MethodId} {meth : Method} {c : Code} (h1 : s.methodNamed? y = some m) (h2 : s.vm.method? m = some meth) (h3 : meth.code = some c) (h4 : c.code = bytes)
    (h5 : (c.maxLocals == mx && c.exceptionTable.isEmpty && decide (c.maxStack ≤ mostOperands) && decide (meth.sig.returnType = rt) && !meth.locks && decide (parseMethodDescriptor y.desc = some meth.sig)) = true) : (Jvm.Cond.code y bytes mx rt).before a s = true := by
  simp only [Bool.and_eq_true, beq_iff_eq, Bool.not_eq_true', decide_eq_true_eq] at h5
  obtain ⟨⟨⟨⟨⟨g1, g2⟩, g3⟩, g4⟩, g5⟩, g6⟩ := h5
  simp [Cond.before, Cond.holds, Cond.value, h1, h2, h3, h4, g1, g2, g3, g4, g5, g6]
def isCode : Jvm.Cond → Bool
  | .code _ _ _ _ => true
  | _ => false
theorem all_split {L : List Jvm.Cond} {P : Jvm.Cond → Bool} (h1 : L.all (fun c => isCode c || P c) = true) (h2 : ∀ c ∈ L.filter isCode, P c = true) : L.all P = true := by
  refine List.all_eq_true.mpr fun c hc => ?_
  have h := List.all_eq_true.mp h1 c hc
  rcases Bool.eq_false_or_eq_true (isCode c) with hi | hi
  · exact h2 c (List.mem_filter.mpr ⟨hc, hi⟩)
  · simpa [hi] using h
set_option maxRecDepth 65536 in
theorem w_c0 : (Jvm.Cond.code x code maxLocals ret).before args0 about1 = true := code_word (m := ⟨1, 1⟩) (meth := k1m1) (c := k1c1) (by decide +kernel) rfl rfl rfl (by decide +kernel)
set_option maxRecDepth 65536 in
theorem w_c1 : (Jvm.Cond.code ({ cls := "com/example/slotwire/slotwire/Acknowledgments$Condition", name := "due", desc := "(Z)Z" } : Jvm.MethodName) prog_3_method_4_code (2 : Nat) (Option.some Jvm.ClassFile.FieldType.boolean)).before args0 about1 = true := code_word (m := ⟨6, 0⟩) (meth := k6m0) (c := k6c0) (by decide +kernel) rfl rfl rfl (by decide +kernel)
def codes1 : List Jvm.Cond := [Jvm.Cond.code x code maxLocals ret, Jvm.Cond.code ({ cls := "com/example/slotwire/slotwire/Acknowledgments$Condition", name := "due", desc := "(Z)Z" } : Jvm.MethodName) prog_3_method_4_code (2 : Nat) (Option.some Jvm.ClassFile.FieldType.boolean)]
set_option maxRecDepth 65536 in
theorem codes_eq : words1.filter isCode = codes1 := rfl
theorem w_codes : ∀ c ∈ words1.filter isCode, c.before args0 about1 = true := by
  rw [codes_eq]
  intro c hc
  simp only [codes1, List.mem_cons, List.not_mem_nil, or_false] at hc
  rcases hc with rfl | rfl
  · exact w_c0
  · exact w_c1
set_option maxRecDepth 65536 in
theorem w_t1 : words1.all (fun c => isCode c || c.before args0 about1) = true := by decide +kernel
theorem w_tables : (allAtoms (Jvm.Cond.code x code maxLocals ret :: tables_1)).before args0 about1 = true := by
  rw [allAtoms_all]
  show words1.all (fun c => c.before args0 about1) = true
  refine all_split ?_ w_codes
  rw [w_t1]
set_option maxRecDepth 65536 in
theorem w_case : (Jvm.Cond.and given_1 narrow_1).before args0 about1 = true := by decide +kernel
theorem w_applies : (headSpec (Jvm.Cond.code x code maxLocals ret :: tables_1) room_1).applies x e0.platform about1 = true :=
  (Spec.applies_iff w_frames).mpr ⟨w_running, w_runnable, w_alone, w_named, w_hears, w_ripe, w_room, w_tables⟩
theorem atStart : AtStart classFile x code maxLocals ret World_1 tables_1 room_1 Calls_1 rest_1 Pre_1 launch0 p0 e0 about1 theMethod args0 below0 :=
  ⟨lists_1, trivial, launch0.admits_env _ _ _, launch0.least_env, fairChoices_fair.cas, fairChoices_fair.clock, w_frames, w_args, w_heap, w_applies, trivial, trivial, w_case⟩
end start1
theorem witness_1 : WitnessClaimed_1 := ⟨start1.p0, start1.e0, start1.about1, start1.theMethod, start1.args0, start1.below0, start1.atStart⟩
end Jvm.Pilot.@@N@@
