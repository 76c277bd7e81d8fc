import JvmDerived
import JvmDerived.Pilot.@@N@@Statement
import JvmDerived.Pilot.@@N@@Code
set_option linter.unusedVariables false
set_option linter.unusedSimpArgs false
namespace Jvm.RoadKit
open Sem ClassFile Op Lib Jvm.Stand Jvm.Free Jvm.LawKit
section New
variable {p : Program} {l : Launch} {e : Env} {R : Room} {s : State} {m : MethodId} {args : Array Value} {below : List Frame} {meth : Method} {c : Code} {T : State} {locs : List Loc} {cells slots : Nat}
theorem retI (X : Stand p l e R s m args below meth c T locs cells slots) (hx : p.tables.exec = Jvm.exec) {pc : Nat} {Ls : Array Slot} {z : Int32} {rest : List Value} (hret : meth.sig.returnType = some .int) (hd : decode c.code pc = .ok (.ireturn, 1)) {fs : List Frame}
    (hl : ∀ (f : JFrame) (acts : List Action), f.method = m → f.locked = none → f.entered = [] → (doReturn e (T.setTop f) acts (some (.int z))).1 = T.setFrames fs) : Steps p.tables e below (T.setTop (mkF m pc Ls (.int z :: rest))) (T.setFrames fs) := by
  have hm' : T.vm.method? m = some meth := X.method'
  have hn : narrow .int (.int z) = .int z := rfl
  show Steps p.tables e below (T.setTop { method := m, pc := pc, locals := Ls, stack := _ :: rest, locked := none }) _
  jvm_step X.here [X.here.top, hx, hd, hm', hret, hn]
  first | (intro acts; rw [hl _ acts rfl rfl rfl]) | rw [hl _ _ rfl rfl rfl]
  exact Steps.refl _
/-- whatever is reached from the one state is reached from the other -/
def Go (p : Program) (e : Env) (below : List Frame) (A B : State) : Prop := ∀ t, Steps p.tables e below B t → Steps p.tables e below A t
end New
end Jvm.RoadKit
namespace Jvm.Pilot.@@N@@
open Jvm Jvm.ClassFile Sem Op Lib Jvm.Free Jvm.Stand Jvm.LawKit Jvm.RoadKit Bundle Jvm.Pilot.@@N@@.Jvm.D
theorem own_eqI {t : Term} {k : Int32} {args : Array Value} {s : State} (h : (Jvm.Cond.eq t (.int k)).value args s none s [] = some true) : t.eval args s none [] s = some (.int k) := by
  cases ht : t.eval args s none [] s with
  | none => simp [Cond.value, ht] at h
  | some x => cases x <;> simp [Cond.value, Term.eval, ht] at h ⊢ <;> exact h
theorem own_eqT {t u : Term} {b : Addr} {args : Array Value} {s : State} (h : (Jvm.Cond.eq t u).value args s none s [] = some true) (hu : u.eval args s none [] s = some (.ref b)) : t.eval args s none [] s = some (.ref b) := by
  cases ht : t.eval args s none [] s with
  | none => simp [Cond.value, ht] at h
  | some x => cases x <;> simp [Cond.value, ht, hu] at h ⊢ <;> exact h
theorem own_len {t : Term} {z : Int32} {args : Array Value} {s : State} {b : Addr} {cl : Cell} {ty : FieldType} (h : (Term.length t).eval args s none [] s = some (.int z)) (ht : t.eval args s none [] s = some (.ref b)) (A : Arr s s.heap b cl ty) : cl.slots.size < 2 ^ 31 ∧ cl.slots.size.toInt32 = z := by
  have ha : s.arrayAt? b = some cl := Arr.fin (State.Warmed39.refl s).alike A
  by_cases hl : cl.slots.size < 2 ^ 31
  · rw [len_f ht ha hl] at h
    exact ⟨hl, Value.int.inj (Option.some.inj h)⟩
  · simp [Term.eval, ht, ha, hl] at h
theorem own_stakeep {Z : State} {h h' : Heap} {C n d : String} {v : Value} (F : Sta Z h C n d v) (K : Keep h h' []) : Sta Z h' C n d v := by
  obtain ⟨cf, i, k, f, st, cell, h1, h2, h3, h4, h5, r⟩ := F
  exact ⟨cf, i, k, f, st, cell, h1, h2, h3, h4, K.2.1 _ _ h5 nin0, r⟩
theorem djdk_37_method_2_code_0 : decode jdk_37_method_2_code 0 = .ok (.aload_n 0, 1) := by decide +kernel
theorem djdk_37_method_2_code_1 : decode jdk_37_method_2_code 1 = .ok (.getfield 7, 3) := by decide +kernel
theorem djdk_37_method_2_code_4 : decode jdk_37_method_2_code 4 = .ok (.ireturn, 1) := by decide +kernel
theorem ef_rmO (m : MethodId) (x0 : Addr) : entryFrame m #[(.ref x0)] 1 = mkF m 0 #[.val (.ref x0)] [] := by first | (simp [entryFrame, mkF, argsToLocals, Value.category]; done) | rfl
def QO (Z : State) (a1 : Addr) (ov : Int32) (h0 : Heap) (n0 : Nat) (v : Option Value) (h : Heap) (L : List Loc) : Prop := v = some (.int ov) ∧ L = [] ∧ h = h0
theorem pn_0 : plainName "java/lang/Enum" = true := by first | (simp [plainName, overriddenIn]; done) | decide +kernel
set_option maxRecDepth 65536 in
set_option maxHeartbeats 40000000 in
theorem rmO (l : Launch) (Z : State) (a0 : Array Value) (hw : ∀ d ∈ tables_1, d.before a0 Z = true) (ws : List Jvm.Cond) (a1 : Addr) (ov : Int32) (h0 : Heap) (n0 : Nat) (Z0 : n0 ≤ h0.size) (F1 : Fld Z h0 a1 "java/lang/Enum" "ordinal" "I" (.int ov)) :
    MetFree l (⟨"java/lang/Enum", "ordinal", "()I"⟩ : MethodName) (head1 (Jvm.Cond.code (⟨"java/lang/Enum", "ordinal", "()I"⟩ : MethodName) jdk_37_method_2_code 1 (some .int) :: ws) ({ frames := 0, cells := 0, slots := 0, locals := 0 } : Room)) (fun a U => a = #[(.ref a1)] ∧ Z.Warmed39 U.vm ∧ U.heap = h0) (fun _ _ _ _ _ => True) (fun _ U o U' => ∃ v L, o = .returned v ∧ QO Z a1 ov h0 n0 v U'.heap L ∧ FrameEnd U o U' L ({ frames := 0, cells := 0, slots := 0, locals := 0 } : Room).cells ({ frames := 0, cells := 0, slots := 0, locals := 0 } : Room).slots) := by
  refine MetFree.of_bodySF (plainFor_of_name pn_0) hisR ?_
  intro p e s m args below meth c s₁ Bd hml0 hP hK
  obtain ⟨rfl, hZ, hh⟩ := hP
  have hx := Bd.exec
  have hby := Bd.bytes
  have hml : c.maxLocals = 1 := hml0
  have hown : s.vm.findClass "java/lang/Enum" = some m.cls := findClass_of_methodNamed Bd.named
  have hnm := (name_of_methodNamed Bd.named Bd.method).1
  have X0 : Stand p l e ({ frames := 0, cells := 0, slots := 0, locals := 0 } : Room) s m #[(.ref a1)] below meth c s₁ [] 0 0 := Stand.of_body Bd
  have e0 : s₁.heap = h0 := by rw [← hh, Bd.state]; rfl
  have N0 := Fr.nil n0
  have k0 : Go p e below (s₁.setTop (entryFrame m #[(.ref a1)] 1)) (s₁.setTop (mkF m 0 #[.val (.ref a1)] [])) := fun t k => castTop (ef_rmO m a1) k
  have k1 : Go p e below (s₁.setTop (entryFrame m #[(.ref a1)] 1)) (s₁.setTop (mkF m 1 #[.val (.ref a1)] [(.ref a1)])) := fun t kk => k0 t (by
    show Steps p.tables e below (s₁.setTop (mkF m 0 #[.val (.ref a1)] [])) _
    refine XS.aloadN X0.here hx rfl (hb hby djdk_37_method_2_code_0) rfl rfl ?_
    exact kk)
  obtain ⟨T2, X2, e2, st2⟩ := getF X0 hx hZ hown (host := "") (Or.inl (hw _ (List.mem_of_getElem? (i := 29) rfl))) Via.refl e0 F1 (g := (mkF m 1 #[.val (.ref a1)] [(.ref a1)])) rfl rfl (hb hby djdk_37_method_2_code_1)
  have k2 : Go p e below (s₁.setTop (entryFrame m #[(.ref a1)] 1)) (T2.setTop (mkF m 4 #[.val (.ref a1)] [(.int ov)])) := fun t kk => k1 t (st2 t kk)
  obtain ⟨fs, hr, hrun, hended, hW, hsame⟩ := X2.leave (v := some (.int ov)) (fun h => by rw [Bd.returns] at h; cases h)
  refine ⟨_, _, k2 _ ?_, hrun, hended, _, _, rfl, ?_, ⟨_, rfl⟩, hW, hsame.mono (by decide) (by decide)⟩
  · show Steps p.tables e below (T2.setTop (mkF m 4 #[.val (.ref a1)] [(.int ov)])) _
    exact retI X2 hx Bd.returns (hb hby djdk_37_method_2_code_4) hr
  · show QO Z a1 ov h0 n0 _ T2.heap _
    rw [e2]
    exact ⟨rfl, rfl, rfl⟩
theorem dprog_80_method_4_code_0 : decode prog_80_method_4_code 0 = .ok (.aload_n 0, 1) := by decide +kernel
theorem dprog_80_method_4_code_1 : decode prog_80_method_4_code 1 = .ok (.getfield 45, 3) := by decide +kernel
theorem dprog_80_method_4_code_4 : decode prog_80_method_4_code 4 = .ok (.areturn, 1) := by decide +kernel
theorem ef_rmF (m : MethodId) (x0 : Addr) : entryFrame m #[(.ref x0)] 1 = mkF m 0 #[.val (.ref x0)] [] := by first | (simp [entryFrame, mkF, argsToLocals, Value.category]; done) | rfl
def QF (Z : State) (a1 : Addr) (fv : Addr) (h0 : Heap) (n0 : Nat) (v : Option Value) (h : Heap) (L : List Loc) : Prop := v = some (.ref fv) ∧ L = [] ∧ h = h0
theorem pn_1 : plainName "com/example/slotwire/slotwire/RequestEvent" = true := by first | (simp [plainName, overriddenIn]; done) | decide +kernel
set_option maxRecDepth 65536 in
set_option maxHeartbeats 40000000 in
theorem rmF (l : Launch) (Z : State) (a0 : Array Value) (hw : ∀ d ∈ tables_1, d.before a0 Z = true) (ws : List Jvm.Cond) (a1 : Addr) (fv : Addr) (h0 : Heap) (n0 : Nat) (Z0 : n0 ≤ h0.size) (F1 : Fld Z h0 a1 "com/example/slotwire/slotwire/RequestEvent" "fillerStatus" "Ljava/lang/String;" (.ref fv)) :
    MetFree l (⟨"com/example/slotwire/slotwire/RequestEvent", "fillerStatus", "()Ljava/lang/String;"⟩ : MethodName) (head1 (Jvm.Cond.code (⟨"com/example/slotwire/slotwire/RequestEvent", "fillerStatus", "()Ljava/lang/String;"⟩ : MethodName) prog_80_method_4_code 1 (some (.object "java/lang/String")) :: ws) ({ frames := 0, cells := 0, slots := 0, locals := 0 } : Room)) (fun a U => a = #[(.ref a1)] ∧ Z.Warmed39 U.vm ∧ U.heap = h0) (fun _ _ _ _ _ => True) (fun _ U o U' => ∃ v L, o = .returned v ∧ QF Z a1 fv h0 n0 v U'.heap L ∧ FrameEnd U o U' L ({ frames := 0, cells := 0, slots := 0, locals := 0 } : Room).cells ({ frames := 0, cells := 0, slots := 0, locals := 0 } : Room).slots) := by
  refine MetFree.of_bodySF (plainFor_of_name pn_1) hisR ?_
  intro p e s m args below meth c s₁ Bd hml0 hP hK
  obtain ⟨rfl, hZ, hh⟩ := hP
  have hx := Bd.exec
  have hby := Bd.bytes
  have hml : c.maxLocals = 1 := hml0
  have hown : s.vm.findClass "com/example/slotwire/slotwire/RequestEvent" = some m.cls := findClass_of_methodNamed Bd.named
  have hnm := (name_of_methodNamed Bd.named Bd.method).1
  have X0 : Stand p l e ({ frames := 0, cells := 0, slots := 0, locals := 0 } : Room) s m #[(.ref a1)] below meth c s₁ [] 0 0 := Stand.of_body Bd
  have e0 : s₁.heap = h0 := by rw [← hh, Bd.state]; rfl
  have N0 := Fr.nil n0
  have k0 : Go p e below (s₁.setTop (entryFrame m #[(.ref a1)] 1)) (s₁.setTop (mkF m 0 #[.val (.ref a1)] [])) := fun t k => castTop (ef_rmF m a1) k
  have k1 : Go p e below (s₁.setTop (entryFrame m #[(.ref a1)] 1)) (s₁.setTop (mkF m 1 #[.val (.ref a1)] [(.ref a1)])) := fun t kk => k0 t (by
    show Steps p.tables e below (s₁.setTop (mkF m 0 #[.val (.ref a1)] [])) _
    refine XS.aloadN X0.here hx rfl (hb hby dprog_80_method_4_code_0) rfl rfl ?_
    exact kk)
  obtain ⟨T2, X2, e2, st2⟩ := getF X0 hx hZ hown (host := "") (Or.inl (hw _ (List.mem_of_getElem? (i := 44) rfl))) Via.refl e0 F1 (g := (mkF m 1 #[.val (.ref a1)] [(.ref a1)])) rfl rfl (hb hby dprog_80_method_4_code_1)
  have k2 : Go p e below (s₁.setTop (entryFrame m #[(.ref a1)] 1)) (T2.setTop (mkF m 4 #[.val (.ref a1)] [(.ref fv)])) := fun t kk => k1 t (st2 t kk)
  obtain ⟨fs, hr, hrun, hended, hW, hsame⟩ := X2.leave (v := some (.ref fv)) (fun h => by rw [Bd.returns] at h; cases h)
  refine ⟨_, _, k2 _ ?_, hrun, hended, _, _, rfl, ?_, ⟨_, rfl⟩, hW, hsame.mono (by decide) (by decide)⟩
  · show Steps p.tables e below (T2.setTop (mkF m 4 #[.val (.ref a1)] [(.ref fv)])) _
    jvm_step X2.here [X2.here.top, hx, (hb hby dprog_80_method_4_code_4), X2.method', Bd.returns, Value.isRef, FieldType.isReference]
    first | (intro acts; rw [hr _ acts rfl rfl rfl]) | rw [hr _ _ rfl rfl rfl]
    exact Steps.refl _
  · show QF Z a1 fv h0 n0 _ T2.heap _
    rw [e2]
    exact ⟨rfl, rfl, rfl⟩
def own_del (o : Int32) : Int32 := if o = 5 then 1 else 0
def own_rel (o : Int32) : Int32 := if o = 3 then 1 else if o = 5 then 1 else 0
theorem dprog_80_method_9_code_0 : decode prog_80_method_9_code 0 = .ok (.aload_n 0, 1) := by decide +kernel
theorem dprog_80_method_9_code_1 : decode prog_80_method_9_code 1 = .ok (.invokevirtual 51, 3) := by decide +kernel
theorem pd_0 : parseMethodDescriptor "()I" = some ⟨[], some .int⟩ := by decide +kernel
theorem dprog_80_method_9_code_4 : decode prog_80_method_9_code 4 = .ok (.tableswitch 40 0 5 #[54, 54, 54, 54, 54, 50], 40) := by decide +kernel
theorem dprog_80_method_9_code_58 : decode prog_80_method_9_code 58 = .ok (.iconst 0, 1) := by decide +kernel
theorem dprog_80_method_9_code_59 : decode prog_80_method_9_code 59 = .ok (.ireturn, 1) := by decide +kernel
theorem dprog_80_method_9_code_54 : decode prog_80_method_9_code 54 = .ok (.iconst 1, 1) := by decide +kernel
theorem dprog_80_method_9_code_55 : decode prog_80_method_9_code 55 = .ok (.goto 4, 3) := by decide +kernel
theorem ef_rmD (m : MethodId) (x0 : Addr) : entryFrame m #[(.ref x0)] 1 = mkF m 0 #[.val (.ref x0)] [] := by first | (simp [entryFrame, mkF, argsToLocals, Value.category]; done) | rfl
def QrmD (Z : State) (a1 : Addr) (ov : Int32) (h0 : Heap) (n0 : Nat) (v : Option Value) (h : Heap) (L : List Loc) : Prop := v = some (.int (own_del ov)) ∧ L = [] ∧ h = h0
set_option maxRecDepth 65536 in
set_option maxHeartbeats 40000000 in
theorem rmD (l : Launch) (Z : State) (a0 : Array Value) (hw : ∀ d ∈ tables_1, d.before a0 Z = true) (ws : List Jvm.Cond) (a1 : Addr) (ov : Int32) (h0 : Heap) (n0 : Nat) (Z0 : n0 ≤ h0.size) (F1 : Fld Z h0 a1 "java/lang/Enum" "ordinal" "I" (.int ov)) (E1 : Exa Z h0 a1 "com/example/slotwire/slotwire/RequestEvent") (hov : ov = 0 ∨ ov = 1 ∨ ov = 2 ∨ ov = 3 ∨ ov = 4 ∨ ov = 5) :
    MetFree l (⟨"com/example/slotwire/slotwire/RequestEvent", "deletes", "()Z"⟩ : MethodName) (head1 (Jvm.Cond.code (⟨"com/example/slotwire/slotwire/RequestEvent", "deletes", "()Z"⟩ : MethodName) prog_80_method_9_code 1 (some .boolean) :: ws) ({ frames := 1, cells := 0, slots := 0, locals := 12 } : Room)) (fun a U => a = #[(.ref a1)] ∧ Z.Warmed39 U.vm ∧ U.heap = h0) (fun _ _ _ _ _ => True) (fun _ U o U' => ∃ v L, o = .returned v ∧ QrmD Z a1 ov h0 n0 v U'.heap L ∧ FrameEnd U o U' L ({ frames := 1, cells := 0, slots := 0, locals := 12 } : Room).cells ({ frames := 1, cells := 0, slots := 0, locals := 12 } : Room).slots) := by
  refine MetFree.of_bodySF (plainFor_of_name pn_1) hisR ?_
  intro p e s m args below meth c s₁ Bd hml0 hP hK
  obtain ⟨rfl, hZ, hh⟩ := hP
  have hx := Bd.exec
  have hby := Bd.bytes
  have hml : c.maxLocals = 1 := hml0
  have hown : s.vm.findClass "com/example/slotwire/slotwire/RequestEvent" = some m.cls := findClass_of_methodNamed Bd.named
  have hnm := (name_of_methodNamed Bd.named Bd.method).1
  have X0 : Stand p l e ({ frames := 1, cells := 0, slots := 0, locals := 12 } : Room) s m #[(.ref a1)] below meth c s₁ [] 0 0 := Stand.of_body Bd
  have e0 : s₁.heap = h0 := by rw [← hh, Bd.state]; rfl
  have N0 := Fr.nil n0
  have k0 : Go p e below (s₁.setTop (entryFrame m #[(.ref a1)] 1)) (s₁.setTop (mkF m 0 #[.val (.ref a1)] [])) := fun t k => castTop (ef_rmD m a1) k
  have k1 : Go p e below (s₁.setTop (entryFrame m #[(.ref a1)] 1)) (s₁.setTop (mkF m 1 #[.val (.ref a1)] [(.ref a1)])) := fun t kk => k0 t (by
    show Steps p.tables e below (s₁.setTop (mkF m 0 #[.val (.ref a1)] [])) _
    refine XS.aloadN X0.here hx rfl (hb hby dprog_80_method_9_code_0) rfl rfl ?_
    exact kk)
  obtain ⟨cq2, kq2, q2a, q2b, q2c⟩ := isOf hZ e0 E1
  obtain ⟨_, _, ⟨T2, L2, kx2, nx2⟩, -, X2, ⟨Lc2, hQ2, l2, y2, z2⟩, st2⟩ := X0.virtualBackUp hx (x := (⟨"com/example/slotwire/slotwire/RequestEvent", "ordinal", "()I"⟩ : MethodName)) (y := (⟨"java/lang/Enum", "ordinal", "()I"⟩ : MethodName)) hown (mvT hZ (hw _ (List.mem_of_getElem? (i := 22) rfl))) (mvT hZ (hw _ (List.mem_of_getElem? (i := 23) rfl))) (mvT hZ (hw _ (List.mem_of_getElem? (i := 24) rfl))) (by decide) (mvT hZ (hw _ (List.mem_of_getElem? (i := 26) rfl))) (mvT hZ (hw _ (List.mem_of_getElem? (i := 25) rfl))) (backOf (W := 0) (rmO l Z a0 hw [] a1 ov h0 n0 Z0 F1) hZ (hw _ (List.mem_of_getElem? (i := 28) rfl)) (hw _ (List.mem_of_getElem? (i := 27) rfl)) (by decide) (by decide)) q2a q2c (g := (mkF m 1 #[.val (.ref a1)] [(.ref a1)])) rfl (by rw [hml]; rfl) (Steps.refl _) (argsL := []) (rest := []) (lenOf pd_0 rfl) rfl (by show 2 * 0 + _ ≤ _; exact Nat.le_of_eq rfl) (hb hby dprog_80_method_9_code_1) (fun _ _ => ⟨rfl, e0, (by decide : 0 + 0 ≤ _), (by decide : 0 + 0 ≤ _)⟩)
  dsimp only [Pt.U, Pt.locs, Pt.cells, Pt.slots] at X2 l2 y2 z2 st2 hQ2
  subst l2 y2 z2
  obtain ⟨rfl, rfl, e2⟩ := hQ2
  try rw [List.append_nil] at X2
  have k2 : Go p e below (s₁.setTop (entryFrame m #[(.ref a1)] 1)) (T2.setTop (mkF m 4 #[.val (.ref a1)] [(.int ov)])) := fun t kk => k1 t (st2.trans kk)
  rcases hov with rfl | rfl | rfl | rfl | rfl | rfl
  · have k3 : Go p e below (s₁.setTop (entryFrame m #[(.ref a1)] 1)) (T2.setTop (mkF m 59 #[.val (.ref a1)] [(.int (0 : Int32))])) := fun t kk => k2 t (by
      show Steps p.tables e below (T2.setTop (mkF m 4 #[.val (.ref a1)] [(.int (0 : Int32))])) _
      refine XS.tswIn X2.here hx rfl (pc0 := 4) (pc' := 58) rfl (hb hby dprog_80_method_9_code_4) rfl (by decide) (o := 54) rfl (by decide) (by decide) ?_
      show Steps p.tables e below (T2.setTop (mkF m 58 #[.val (.ref a1)] [])) _
      refine XS.iconst X2.here hx rfl (hb hby dprog_80_method_9_code_58) ?_
      exact kk)
    obtain ⟨fs, hr, hrun, hended, hW, hsame⟩ := X2.leave (v := some (.int (0 : Int32))) (fun h => by rw [Bd.returns] at h; cases h)
    refine ⟨_, _, k3 _ ?_, hrun, hended, _, _, rfl, ?_, ⟨_, rfl⟩, hW, hsame.mono (by decide) (by decide)⟩
    · show Steps p.tables e below (T2.setTop (mkF m 59 #[.val (.ref a1)] [(.int (0 : Int32))])) _
      exact retN X2 hx (t := .boolean) Bd.returns (by simp) (hb hby dprog_80_method_9_code_59) hr
    · show QrmD Z a1 (0 : Int32) h0 n0 _ T2.heap _
      rw [e2]
      exact ⟨rfl, rfl, rfl⟩
  · have k5 : Go p e below (s₁.setTop (entryFrame m #[(.ref a1)] 1)) (T2.setTop (mkF m 59 #[.val (.ref a1)] [(.int (0 : Int32))])) := fun t kk => k2 t (by
      show Steps p.tables e below (T2.setTop (mkF m 4 #[.val (.ref a1)] [(.int (1 : Int32))])) _
      refine XS.tswIn X2.here hx rfl (pc0 := 4) (pc' := 58) rfl (hb hby dprog_80_method_9_code_4) rfl (by decide) (o := 54) rfl (by decide) (by decide) ?_
      show Steps p.tables e below (T2.setTop (mkF m 58 #[.val (.ref a1)] [])) _
      refine XS.iconst X2.here hx rfl (hb hby dprog_80_method_9_code_58) ?_
      exact kk)
    obtain ⟨fs, hr, hrun, hended, hW, hsame⟩ := X2.leave (v := some (.int (0 : Int32))) (fun h => by rw [Bd.returns] at h; cases h)
    refine ⟨_, _, k5 _ ?_, hrun, hended, _, _, rfl, ?_, ⟨_, rfl⟩, hW, hsame.mono (by decide) (by decide)⟩
    · show Steps p.tables e below (T2.setTop (mkF m 59 #[.val (.ref a1)] [(.int (0 : Int32))])) _
      exact retN X2 hx (t := .boolean) Bd.returns (by simp) (hb hby dprog_80_method_9_code_59) hr
    · show QrmD Z a1 (1 : Int32) h0 n0 _ T2.heap _
      rw [e2]
      exact ⟨rfl, rfl, rfl⟩
  · have k7 : Go p e below (s₁.setTop (entryFrame m #[(.ref a1)] 1)) (T2.setTop (mkF m 59 #[.val (.ref a1)] [(.int (0 : Int32))])) := fun t kk => k2 t (by
      show Steps p.tables e below (T2.setTop (mkF m 4 #[.val (.ref a1)] [(.int (2 : Int32))])) _
      refine XS.tswIn X2.here hx rfl (pc0 := 4) (pc' := 58) rfl (hb hby dprog_80_method_9_code_4) rfl (by decide) (o := 54) rfl (by decide) (by decide) ?_
      show Steps p.tables e below (T2.setTop (mkF m 58 #[.val (.ref a1)] [])) _
      refine XS.iconst X2.here hx rfl (hb hby dprog_80_method_9_code_58) ?_
      exact kk)
    obtain ⟨fs, hr, hrun, hended, hW, hsame⟩ := X2.leave (v := some (.int (0 : Int32))) (fun h => by rw [Bd.returns] at h; cases h)
    refine ⟨_, _, k7 _ ?_, hrun, hended, _, _, rfl, ?_, ⟨_, rfl⟩, hW, hsame.mono (by decide) (by decide)⟩
    · show Steps p.tables e below (T2.setTop (mkF m 59 #[.val (.ref a1)] [(.int (0 : Int32))])) _
      exact retN X2 hx (t := .boolean) Bd.returns (by simp) (hb hby dprog_80_method_9_code_59) hr
    · show QrmD Z a1 (2 : Int32) h0 n0 _ T2.heap _
      rw [e2]
      exact ⟨rfl, rfl, rfl⟩
  · have k9 : Go p e below (s₁.setTop (entryFrame m #[(.ref a1)] 1)) (T2.setTop (mkF m 59 #[.val (.ref a1)] [(.int (0 : Int32))])) := fun t kk => k2 t (by
      show Steps p.tables e below (T2.setTop (mkF m 4 #[.val (.ref a1)] [(.int (3 : Int32))])) _
      refine XS.tswIn X2.here hx rfl (pc0 := 4) (pc' := 58) rfl (hb hby dprog_80_method_9_code_4) rfl (by decide) (o := 54) rfl (by decide) (by decide) ?_
      show Steps p.tables e below (T2.setTop (mkF m 58 #[.val (.ref a1)] [])) _
      refine XS.iconst X2.here hx rfl (hb hby dprog_80_method_9_code_58) ?_
      exact kk)
    obtain ⟨fs, hr, hrun, hended, hW, hsame⟩ := X2.leave (v := some (.int (0 : Int32))) (fun h => by rw [Bd.returns] at h; cases h)
    refine ⟨_, _, k9 _ ?_, hrun, hended, _, _, rfl, ?_, ⟨_, rfl⟩, hW, hsame.mono (by decide) (by decide)⟩
    · show Steps p.tables e below (T2.setTop (mkF m 59 #[.val (.ref a1)] [(.int (0 : Int32))])) _
      exact retN X2 hx (t := .boolean) Bd.returns (by simp) (hb hby dprog_80_method_9_code_59) hr
    · show QrmD Z a1 (3 : Int32) h0 n0 _ T2.heap _
      rw [e2]
      exact ⟨rfl, rfl, rfl⟩
  · have k11 : Go p e below (s₁.setTop (entryFrame m #[(.ref a1)] 1)) (T2.setTop (mkF m 59 #[.val (.ref a1)] [(.int (0 : Int32))])) := fun t kk => k2 t (by
      show Steps p.tables e below (T2.setTop (mkF m 4 #[.val (.ref a1)] [(.int (4 : Int32))])) _
      refine XS.tswIn X2.here hx rfl (pc0 := 4) (pc' := 58) rfl (hb hby dprog_80_method_9_code_4) rfl (by decide) (o := 54) rfl (by decide) (by decide) ?_
      show Steps p.tables e below (T2.setTop (mkF m 58 #[.val (.ref a1)] [])) _
      refine XS.iconst X2.here hx rfl (hb hby dprog_80_method_9_code_58) ?_
      exact kk)
    obtain ⟨fs, hr, hrun, hended, hW, hsame⟩ := X2.leave (v := some (.int (0 : Int32))) (fun h => by rw [Bd.returns] at h; cases h)
    refine ⟨_, _, k11 _ ?_, hrun, hended, _, _, rfl, ?_, ⟨_, rfl⟩, hW, hsame.mono (by decide) (by decide)⟩
    · show Steps p.tables e below (T2.setTop (mkF m 59 #[.val (.ref a1)] [(.int (0 : Int32))])) _
      exact retN X2 hx (t := .boolean) Bd.returns (by simp) (hb hby dprog_80_method_9_code_59) hr
    · show QrmD Z a1 (4 : Int32) h0 n0 _ T2.heap _
      rw [e2]
      exact ⟨rfl, rfl, rfl⟩
  · have k13 : Go p e below (s₁.setTop (entryFrame m #[(.ref a1)] 1)) (T2.setTop (mkF m 59 #[.val (.ref a1)] [(.int (1 : Int32))])) := fun t kk => k2 t (by
      show Steps p.tables e below (T2.setTop (mkF m 4 #[.val (.ref a1)] [(.int (5 : Int32))])) _
      refine XS.tswIn X2.here hx rfl (pc0 := 4) (pc' := 54) rfl (hb hby dprog_80_method_9_code_4) rfl (by decide) (o := 50) rfl (by decide) (by decide) ?_
      show Steps p.tables e below (T2.setTop (mkF m 54 #[.val (.ref a1)] [])) _
      refine XS.iconst X2.here hx rfl (hb hby dprog_80_method_9_code_54) ?_
      show Steps p.tables e below (T2.setTop (mkF m 55 #[.val (.ref a1)] [(.int (1 : Int32))])) _
      refine XS.goto X2.here hx rfl (pc0 := 55) (pc' := 59) rfl (hb hby dprog_80_method_9_code_55) (by decide) (by decide) ?_
      exact kk)
    obtain ⟨fs, hr, hrun, hended, hW, hsame⟩ := X2.leave (v := some (.int (1 : Int32))) (fun h => by rw [Bd.returns] at h; cases h)
    refine ⟨_, _, k13 _ ?_, hrun, hended, _, _, rfl, ?_, ⟨_, rfl⟩, hW, hsame.mono (by decide) (by decide)⟩
    · show Steps p.tables e below (T2.setTop (mkF m 59 #[.val (.ref a1)] [(.int (1 : Int32))])) _
      exact retN X2 hx (t := .boolean) Bd.returns (by simp) (hb hby dprog_80_method_9_code_59) hr
    · show QrmD Z a1 (5 : Int32) h0 n0 _ T2.heap _
      rw [e2]
      exact ⟨rfl, rfl, rfl⟩
theorem dprog_80_method_7_code_0 : decode prog_80_method_7_code 0 = .ok (.aload_n 0, 1) := by decide +kernel
theorem dprog_80_method_7_code_1 : decode prog_80_method_7_code 1 = .ok (.invokevirtual 51, 3) := by decide +kernel
theorem dprog_80_method_7_code_4 : decode prog_80_method_7_code 4 = .ok (.tableswitch 40 0 5 #[50, 50, 50, 54, 50, 54], 40) := by decide +kernel
theorem dprog_80_method_7_code_54 : decode prog_80_method_7_code 54 = .ok (.iconst 0, 1) := by decide +kernel
theorem dprog_80_method_7_code_55 : decode prog_80_method_7_code 55 = .ok (.goto 4, 3) := by decide +kernel
theorem dprog_80_method_7_code_59 : decode prog_80_method_7_code 59 = .ok (.ireturn, 1) := by decide +kernel
theorem dprog_80_method_7_code_58 : decode prog_80_method_7_code 58 = .ok (.iconst 1, 1) := by decide +kernel
theorem ef_rmT (m : MethodId) (x0 : Addr) : entryFrame m #[(.ref x0)] 1 = mkF m 0 #[.val (.ref x0)] [] := by first | (simp [entryFrame, mkF, argsToLocals, Value.category]; done) | rfl
def QrmT (Z : State) (a1 : Addr) (ov : Int32) (h0 : Heap) (n0 : Nat) (v : Option Value) (h : Heap) (L : List Loc) : Prop := v = some (.int (own_rel ov)) ∧ L = [] ∧ h = h0
set_option maxRecDepth 65536 in
set_option maxHeartbeats 40000000 in
theorem rmT (l : Launch) (Z : State) (a0 : Array Value) (hw : ∀ d ∈ tables_1, d.before a0 Z = true) (ws : List Jvm.Cond) (a1 : Addr) (ov : Int32) (h0 : Heap) (n0 : Nat) (Z0 : n0 ≤ h0.size) (F1 : Fld Z h0 a1 "java/lang/Enum" "ordinal" "I" (.int ov)) (E1 : Exa Z h0 a1 "com/example/slotwire/slotwire/RequestEvent") (hov : ov = 0 ∨ ov = 1 ∨ ov = 2 ∨ ov = 3 ∨ ov = 4 ∨ ov = 5) :
    MetFree l (⟨"com/example/slotwire/slotwire/RequestEvent", "releasesTime", "()Z"⟩ : MethodName) (head1 (Jvm.Cond.code (⟨"com/example/slotwire/slotwire/RequestEvent", "releasesTime", "()Z"⟩ : MethodName) prog_80_method_7_code 1 (some .boolean) :: ws) ({ frames := 1, cells := 0, slots := 0, locals := 12 } : Room)) (fun a U => a = #[(.ref a1)] ∧ Z.Warmed39 U.vm ∧ U.heap = h0) (fun _ _ _ _ _ => True) (fun _ U o U' => ∃ v L, o = .returned v ∧ QrmT Z a1 ov h0 n0 v U'.heap L ∧ FrameEnd U o U' L ({ frames := 1, cells := 0, slots := 0, locals := 12 } : Room).cells ({ frames := 1, cells := 0, slots := 0, locals := 12 } : Room).slots) := by
  refine MetFree.of_bodySF (plainFor_of_name pn_1) hisR ?_
  intro p e s m args below meth c s₁ Bd hml0 hP hK
  obtain ⟨rfl, hZ, hh⟩ := hP
  have hx := Bd.exec
  have hby := Bd.bytes
  have hml : c.maxLocals = 1 := hml0
  have hown : s.vm.findClass "com/example/slotwire/slotwire/RequestEvent" = some m.cls := findClass_of_methodNamed Bd.named
  have hnm := (name_of_methodNamed Bd.named Bd.method).1
  have X0 : Stand p l e ({ frames := 1, cells := 0, slots := 0, locals := 12 } : Room) s m #[(.ref a1)] below meth c s₁ [] 0 0 := Stand.of_body Bd
  have e0 : s₁.heap = h0 := by rw [← hh, Bd.state]; rfl
  have N0 := Fr.nil n0
  have k0 : Go p e below (s₁.setTop (entryFrame m #[(.ref a1)] 1)) (s₁.setTop (mkF m 0 #[.val (.ref a1)] [])) := fun t k => castTop (ef_rmT m a1) k
  have k1 : Go p e below (s₁.setTop (entryFrame m #[(.ref a1)] 1)) (s₁.setTop (mkF m 1 #[.val (.ref a1)] [(.ref a1)])) := fun t kk => k0 t (by
    show Steps p.tables e below (s₁.setTop (mkF m 0 #[.val (.ref a1)] [])) _
    refine XS.aloadN X0.here hx rfl (hb hby dprog_80_method_7_code_0) rfl rfl ?_
    exact kk)
  obtain ⟨cq2, kq2, q2a, q2b, q2c⟩ := isOf hZ e0 E1
  obtain ⟨_, _, ⟨T2, L2, kx2, nx2⟩, -, X2, ⟨Lc2, hQ2, l2, y2, z2⟩, st2⟩ := X0.virtualBackUp hx (x := (⟨"com/example/slotwire/slotwire/RequestEvent", "ordinal", "()I"⟩ : MethodName)) (y := (⟨"java/lang/Enum", "ordinal", "()I"⟩ : MethodName)) hown (mvT hZ (hw _ (List.mem_of_getElem? (i := 22) rfl))) (mvT hZ (hw _ (List.mem_of_getElem? (i := 23) rfl))) (mvT hZ (hw _ (List.mem_of_getElem? (i := 24) rfl))) (by decide) (mvT hZ (hw _ (List.mem_of_getElem? (i := 26) rfl))) (mvT hZ (hw _ (List.mem_of_getElem? (i := 25) rfl))) (backOf (W := 0) (rmO l Z a0 hw [] a1 ov h0 n0 Z0 F1) hZ (hw _ (List.mem_of_getElem? (i := 28) rfl)) (hw _ (List.mem_of_getElem? (i := 27) rfl)) (by decide) (by decide)) q2a q2c (g := (mkF m 1 #[.val (.ref a1)] [(.ref a1)])) rfl (by rw [hml]; rfl) (Steps.refl _) (argsL := []) (rest := []) (lenOf pd_0 rfl) rfl (by show 2 * 0 + _ ≤ _; exact Nat.le_of_eq rfl) (hb hby dprog_80_method_7_code_1) (fun _ _ => ⟨rfl, e0, (by decide : 0 + 0 ≤ _), (by decide : 0 + 0 ≤ _)⟩)
  dsimp only [Pt.U, Pt.locs, Pt.cells, Pt.slots] at X2 l2 y2 z2 st2 hQ2
  subst l2 y2 z2
  obtain ⟨rfl, rfl, e2⟩ := hQ2
  try rw [List.append_nil] at X2
  have k2 : Go p e below (s₁.setTop (entryFrame m #[(.ref a1)] 1)) (T2.setTop (mkF m 4 #[.val (.ref a1)] [(.int ov)])) := fun t kk => k1 t (st2.trans kk)
  rcases hov with rfl | rfl | rfl | rfl | rfl | rfl
  · have k3 : Go p e below (s₁.setTop (entryFrame m #[(.ref a1)] 1)) (T2.setTop (mkF m 59 #[.val (.ref a1)] [(.int (0 : Int32))])) := fun t kk => k2 t (by
      show Steps p.tables e below (T2.setTop (mkF m 4 #[.val (.ref a1)] [(.int (0 : Int32))])) _
      refine XS.tswIn X2.here hx rfl (pc0 := 4) (pc' := 54) rfl (hb hby dprog_80_method_7_code_4) rfl (by decide) (o := 50) rfl (by decide) (by decide) ?_
      show Steps p.tables e below (T2.setTop (mkF m 54 #[.val (.ref a1)] [])) _
      refine XS.iconst X2.here hx rfl (hb hby dprog_80_method_7_code_54) ?_
      show Steps p.tables e below (T2.setTop (mkF m 55 #[.val (.ref a1)] [(.int (0 : Int32))])) _
      refine XS.goto X2.here hx rfl (pc0 := 55) (pc' := 59) rfl (hb hby dprog_80_method_7_code_55) (by decide) (by decide) ?_
      exact kk)
    obtain ⟨fs, hr, hrun, hended, hW, hsame⟩ := X2.leave (v := some (.int (0 : Int32))) (fun h => by rw [Bd.returns] at h; cases h)
    refine ⟨_, _, k3 _ ?_, hrun, hended, _, _, rfl, ?_, ⟨_, rfl⟩, hW, hsame.mono (by decide) (by decide)⟩
    · show Steps p.tables e below (T2.setTop (mkF m 59 #[.val (.ref a1)] [(.int (0 : Int32))])) _
      exact retN X2 hx (t := .boolean) Bd.returns (by simp) (hb hby dprog_80_method_7_code_59) hr
    · show QrmT Z a1 (0 : Int32) h0 n0 _ T2.heap _
      rw [e2]
      exact ⟨rfl, rfl, rfl⟩
  · have k5 : Go p e below (s₁.setTop (entryFrame m #[(.ref a1)] 1)) (T2.setTop (mkF m 59 #[.val (.ref a1)] [(.int (0 : Int32))])) := fun t kk => k2 t (by
      show Steps p.tables e below (T2.setTop (mkF m 4 #[.val (.ref a1)] [(.int (1 : Int32))])) _
      refine XS.tswIn X2.here hx rfl (pc0 := 4) (pc' := 54) rfl (hb hby dprog_80_method_7_code_4) rfl (by decide) (o := 50) rfl (by decide) (by decide) ?_
      show Steps p.tables e below (T2.setTop (mkF m 54 #[.val (.ref a1)] [])) _
      refine XS.iconst X2.here hx rfl (hb hby dprog_80_method_7_code_54) ?_
      show Steps p.tables e below (T2.setTop (mkF m 55 #[.val (.ref a1)] [(.int (0 : Int32))])) _
      refine XS.goto X2.here hx rfl (pc0 := 55) (pc' := 59) rfl (hb hby dprog_80_method_7_code_55) (by decide) (by decide) ?_
      exact kk)
    obtain ⟨fs, hr, hrun, hended, hW, hsame⟩ := X2.leave (v := some (.int (0 : Int32))) (fun h => by rw [Bd.returns] at h; cases h)
    refine ⟨_, _, k5 _ ?_, hrun, hended, _, _, rfl, ?_, ⟨_, rfl⟩, hW, hsame.mono (by decide) (by decide)⟩
    · show Steps p.tables e below (T2.setTop (mkF m 59 #[.val (.ref a1)] [(.int (0 : Int32))])) _
      exact retN X2 hx (t := .boolean) Bd.returns (by simp) (hb hby dprog_80_method_7_code_59) hr
    · show QrmT Z a1 (1 : Int32) h0 n0 _ T2.heap _
      rw [e2]
      exact ⟨rfl, rfl, rfl⟩
  · have k7 : Go p e below (s₁.setTop (entryFrame m #[(.ref a1)] 1)) (T2.setTop (mkF m 59 #[.val (.ref a1)] [(.int (0 : Int32))])) := fun t kk => k2 t (by
      show Steps p.tables e below (T2.setTop (mkF m 4 #[.val (.ref a1)] [(.int (2 : Int32))])) _
      refine XS.tswIn X2.here hx rfl (pc0 := 4) (pc' := 54) rfl (hb hby dprog_80_method_7_code_4) rfl (by decide) (o := 50) rfl (by decide) (by decide) ?_
      show Steps p.tables e below (T2.setTop (mkF m 54 #[.val (.ref a1)] [])) _
      refine XS.iconst X2.here hx rfl (hb hby dprog_80_method_7_code_54) ?_
      show Steps p.tables e below (T2.setTop (mkF m 55 #[.val (.ref a1)] [(.int (0 : Int32))])) _
      refine XS.goto X2.here hx rfl (pc0 := 55) (pc' := 59) rfl (hb hby dprog_80_method_7_code_55) (by decide) (by decide) ?_
      exact kk)
    obtain ⟨fs, hr, hrun, hended, hW, hsame⟩ := X2.leave (v := some (.int (0 : Int32))) (fun h => by rw [Bd.returns] at h; cases h)
    refine ⟨_, _, k7 _ ?_, hrun, hended, _, _, rfl, ?_, ⟨_, rfl⟩, hW, hsame.mono (by decide) (by decide)⟩
    · show Steps p.tables e below (T2.setTop (mkF m 59 #[.val (.ref a1)] [(.int (0 : Int32))])) _
      exact retN X2 hx (t := .boolean) Bd.returns (by simp) (hb hby dprog_80_method_7_code_59) hr
    · show QrmT Z a1 (2 : Int32) h0 n0 _ T2.heap _
      rw [e2]
      exact ⟨rfl, rfl, rfl⟩
  · have k9 : Go p e below (s₁.setTop (entryFrame m #[(.ref a1)] 1)) (T2.setTop (mkF m 59 #[.val (.ref a1)] [(.int (1 : Int32))])) := fun t kk => k2 t (by
      show Steps p.tables e below (T2.setTop (mkF m 4 #[.val (.ref a1)] [(.int (3 : Int32))])) _
      refine XS.tswIn X2.here hx rfl (pc0 := 4) (pc' := 58) rfl (hb hby dprog_80_method_7_code_4) rfl (by decide) (o := 54) rfl (by decide) (by decide) ?_
      show Steps p.tables e below (T2.setTop (mkF m 58 #[.val (.ref a1)] [])) _
      refine XS.iconst X2.here hx rfl (hb hby dprog_80_method_7_code_58) ?_
      exact kk)
    obtain ⟨fs, hr, hrun, hended, hW, hsame⟩ := X2.leave (v := some (.int (1 : Int32))) (fun h => by rw [Bd.returns] at h; cases h)
    refine ⟨_, _, k9 _ ?_, hrun, hended, _, _, rfl, ?_, ⟨_, rfl⟩, hW, hsame.mono (by decide) (by decide)⟩
    · show Steps p.tables e below (T2.setTop (mkF m 59 #[.val (.ref a1)] [(.int (1 : Int32))])) _
      exact retN X2 hx (t := .boolean) Bd.returns (by simp) (hb hby dprog_80_method_7_code_59) hr
    · show QrmT Z a1 (3 : Int32) h0 n0 _ T2.heap _
      rw [e2]
      exact ⟨rfl, rfl, rfl⟩
  · have k11 : Go p e below (s₁.setTop (entryFrame m #[(.ref a1)] 1)) (T2.setTop (mkF m 59 #[.val (.ref a1)] [(.int (0 : Int32))])) := fun t kk => k2 t (by
      show Steps p.tables e below (T2.setTop (mkF m 4 #[.val (.ref a1)] [(.int (4 : Int32))])) _
      refine XS.tswIn X2.here hx rfl (pc0 := 4) (pc' := 54) rfl (hb hby dprog_80_method_7_code_4) rfl (by decide) (o := 50) rfl (by decide) (by decide) ?_
      show Steps p.tables e below (T2.setTop (mkF m 54 #[.val (.ref a1)] [])) _
      refine XS.iconst X2.here hx rfl (hb hby dprog_80_method_7_code_54) ?_
      show Steps p.tables e below (T2.setTop (mkF m 55 #[.val (.ref a1)] [(.int (0 : Int32))])) _
      refine XS.goto X2.here hx rfl (pc0 := 55) (pc' := 59) rfl (hb hby dprog_80_method_7_code_55) (by decide) (by decide) ?_
      exact kk)
    obtain ⟨fs, hr, hrun, hended, hW, hsame⟩ := X2.leave (v := some (.int (0 : Int32))) (fun h => by rw [Bd.returns] at h; cases h)
    refine ⟨_, _, k11 _ ?_, hrun, hended, _, _, rfl, ?_, ⟨_, rfl⟩, hW, hsame.mono (by decide) (by decide)⟩
    · show Steps p.tables e below (T2.setTop (mkF m 59 #[.val (.ref a1)] [(.int (0 : Int32))])) _
      exact retN X2 hx (t := .boolean) Bd.returns (by simp) (hb hby dprog_80_method_7_code_59) hr
    · show QrmT Z a1 (4 : Int32) h0 n0 _ T2.heap _
      rw [e2]
      exact ⟨rfl, rfl, rfl⟩
  · have k13 : Go p e below (s₁.setTop (entryFrame m #[(.ref a1)] 1)) (T2.setTop (mkF m 59 #[.val (.ref a1)] [(.int (1 : Int32))])) := fun t kk => k2 t (by
      show Steps p.tables e below (T2.setTop (mkF m 4 #[.val (.ref a1)] [(.int (5 : Int32))])) _
      refine XS.tswIn X2.here hx rfl (pc0 := 4) (pc' := 58) rfl (hb hby dprog_80_method_7_code_4) rfl (by decide) (o := 54) rfl (by decide) (by decide) ?_
      show Steps p.tables e below (T2.setTop (mkF m 58 #[.val (.ref a1)] [])) _
      refine XS.iconst X2.here hx rfl (hb hby dprog_80_method_7_code_58) ?_
      exact kk)
    obtain ⟨fs, hr, hrun, hended, hW, hsame⟩ := X2.leave (v := some (.int (1 : Int32))) (fun h => by rw [Bd.returns] at h; cases h)
    refine ⟨_, _, k13 _ ?_, hrun, hended, _, _, rfl, ?_, ⟨_, rfl⟩, hW, hsame.mono (by decide) (by decide)⟩
    · show Steps p.tables e below (T2.setTop (mkF m 59 #[.val (.ref a1)] [(.int (1 : Int32))])) _
      exact retN X2 hx (t := .boolean) Bd.returns (by simp) (hb hby dprog_80_method_7_code_59) hr
    · show QrmT Z a1 (5 : Int32) h0 n0 _ T2.heap _
      rw [e2]
      exact ⟨rfl, rfl, rfl⟩
theorem djdk_43_method_13_code_0 : decode jdk_43_method_13_code 0 = .ok (.aload_n 0, 1) := by decide +kernel
theorem djdk_43_method_13_code_1 : decode jdk_43_method_13_code 1 = .ok (.arraylength, 1) := by decide +kernel
theorem djdk_43_method_13_code_2 : decode jdk_43_method_13_code 2 = .ok (.aload_n 1, 1) := by decide +kernel
theorem djdk_43_method_13_code_3 : decode jdk_43_method_13_code 3 = .ok (.arraylength, 1) := by decide +kernel
theorem djdk_43_method_13_code_4 : decode jdk_43_method_13_code 4 = .ok (.if_icmp .ne 30, 3) := by decide +kernel
theorem djdk_43_method_13_code_34 : decode jdk_43_method_13_code 34 = .ok (.iconst 0, 1) := by decide +kernel
theorem djdk_43_method_13_code_35 : decode jdk_43_method_13_code 35 = .ok (.ireturn, 1) := by decide +kernel
theorem ef_rmLN (m : MethodId) (x0 : Addr) (x1 : Addr) : entryFrame m #[(.ref x0), (.ref x1)] 3 = mkF m 0 #[.val (.ref x0), .val (.ref x1), .unset] [] := by first | (simp [entryFrame, mkF, argsToLocals, Value.category]; done) | rfl
def QLN (Z : State) (a1 : Addr) (a2 : Addr) (ck1 : ClassId) (ck2 : ClassId) (lz1 : Int32) (lz2 : Int32) (vs1 : List Value) (vs2 : List Value) (h0 : Heap) (n0 : Nat) (v : Option Value) (h : Heap) (L : List Loc) : Prop := v = some (.int 0) ∧ L = [] ∧ h = h0
theorem pn_2 : plainName "java/lang/StringLatin1" = true := by first | (simp [plainName, overriddenIn]; done) | decide +kernel
set_option maxRecDepth 65536 in
set_option maxHeartbeats 40000000 in
theorem rmLN (l : Launch) (Z : State) (a0 : Array Value) (hw : ∀ d ∈ tables_1, d.before a0 Z = true) (ws : List Jvm.Cond) (a1 : Addr) (a2 : Addr) (ck1 : ClassId) (ck2 : ClassId) (lz1 : Int32) (lz2 : Int32) (vs1 : List Value) (vs2 : List Value) (h0 : Heap) (n0 : Nat) (Z0 : n0 ≤ h0.size) (A1 : Arv Z h0 a1 ck1 .byte lz1 vs1 (.int (0 : Int32))) (A2 : Arv Z h0 a2 ck2 .byte lz2 vs2 (.int (0 : Int32))) (hzz : ¬ (lz1 = lz2)) :
    MetFree l (⟨"java/lang/StringLatin1", "equals", "([B[B)Z"⟩ : MethodName) (head1 (Jvm.Cond.code (⟨"java/lang/StringLatin1", "equals", "([B[B)Z"⟩ : MethodName) jdk_43_method_13_code 3 (some .boolean) :: ws) ({ frames := 0, cells := 0, slots := 0, locals := 0 } : Room)) (fun a U => a = #[(.ref a1), (.ref a2)] ∧ Z.Warmed39 U.vm ∧ U.heap = h0) (fun _ _ _ _ _ => True) (fun _ U o U' => ∃ v L, o = .returned v ∧ QLN Z a1 a2 ck1 ck2 lz1 lz2 vs1 vs2 h0 n0 v U'.heap L ∧ FrameEnd U o U' L ({ frames := 0, cells := 0, slots := 0, locals := 0 } : Room).cells ({ frames := 0, cells := 0, slots := 0, locals := 0 } : Room).slots) := by
  refine MetFree.of_bodySF (plainFor_of_name pn_2) hisR ?_
  intro p e s m args below meth c s₁ Bd hml0 hP hK
  obtain ⟨rfl, hZ, hh⟩ := hP
  have hx := Bd.exec
  have hby := Bd.bytes
  have hml : c.maxLocals = 3 := hml0
  have hown : s.vm.findClass "java/lang/StringLatin1" = some m.cls := findClass_of_methodNamed Bd.named
  have hnm := (name_of_methodNamed Bd.named Bd.method).1
  have X0 : Stand p l e ({ frames := 0, cells := 0, slots := 0, locals := 0 } : Room) s m #[(.ref a1), (.ref a2)] below meth c s₁ [] 0 0 := Stand.of_body Bd
  have e0 : s₁.heap = h0 := by rw [← hh, Bd.state]; rfl
  have N0 := Fr.nil n0
  have k0 : Go p e below (s₁.setTop (entryFrame m #[(.ref a1), (.ref a2)] 3)) (s₁.setTop (mkF m 0 #[.val (.ref a1), .val (.ref a2), .unset] [])) := fun t k => castTop (ef_rmLN m a1 a2) k
  obtain ⟨cl1, Ar1, -, S1, G1, -, -⟩ := id A1
  obtain ⟨cl2, Ar2, -, S2, G2, -, -⟩ := id A2
  have k3 : Go p e below (s₁.setTop (entryFrame m #[(.ref a1), (.ref a2)] 3)) (s₁.setTop (mkF m 35 #[.val (.ref a1), .val (.ref a2), .unset] [(.int (0 : Int32))])) := fun t kk => k0 t (by
    show Steps p.tables e below (s₁.setTop (mkF m 0 #[.val (.ref a1), .val (.ref a2), .unset] [])) _
    refine XS.aloadN X0.here hx rfl (hb hby djdk_43_method_13_code_0) rfl rfl ?_
    show Steps p.tables e below (s₁.setTop (mkF m 1 #[.val (.ref a1), .val (.ref a2), .unset] [(.ref a1)])) _
    refine X0.arraylength hx (by rw [e0]; exact Ar1.1) (State.isArrayOf_alike hZ.alike Ar1.2.1) (g := (mkF m 1 #[.val (.ref a1), .val (.ref a2), .unset] [(.ref a1)])) rfl rfl (hb hby djdk_43_method_13_code_1) _ ?_
    rw [len_of S1 G1]
    show Steps p.tables e below (s₁.setTop (mkF m 2 #[.val (.ref a1), .val (.ref a2), .unset] [(.int lz1)])) _
    refine XS.aloadN X0.here hx rfl (hb hby djdk_43_method_13_code_2) rfl rfl ?_
    show Steps p.tables e below (s₁.setTop (mkF m 3 #[.val (.ref a1), .val (.ref a2), .unset] [(.ref a2), (.int lz1)])) _
    refine X0.arraylength hx (by rw [e0]; exact Ar2.1) (State.isArrayOf_alike hZ.alike Ar2.2.1) (g := (mkF m 3 #[.val (.ref a1), .val (.ref a2), .unset] [(.ref a2), (.int lz1)])) rfl rfl (hb hby djdk_43_method_13_code_3) _ ?_
    rw [len_of S2 G2]
    show Steps p.tables e below (s₁.setTop (mkF m 4 #[.val (.ref a1), .val (.ref a2), .unset] [(.int lz2), (.int lz1)])) _
    refine XS.icmpYes X0.here hx rfl (pc0 := 4) (pc' := 34) rfl (hb hby djdk_43_method_13_code_4) rfl (feq hzz).2 (by decide) (by decide) ?_
    show Steps p.tables e below (s₁.setTop (mkF m 34 #[.val (.ref a1), .val (.ref a2), .unset] [])) _
    refine XS.iconst X0.here hx rfl (hb hby djdk_43_method_13_code_34) ?_
    exact kk)
  obtain ⟨fs, hr, hrun, hended, hW, hsame⟩ := X0.leave (v := some (.int (0 : Int32))) (fun h => by rw [Bd.returns] at h; cases h)
  refine ⟨_, _, k3 _ ?_, hrun, hended, _, _, rfl, ?_, ⟨_, rfl⟩, hW, hsame.mono (by decide) (by decide)⟩
  · show Steps p.tables e below (s₁.setTop (mkF m 35 #[.val (.ref a1), .val (.ref a2), .unset] [(.int (0 : Int32))])) _
    exact retN X0 hx (t := .boolean) Bd.returns (by simp) (hb hby djdk_43_method_13_code_35) hr
  · show QLN Z a1 a2 ck1 ck2 lz1 lz2 vs1 vs2 h0 n0 _ s₁.heap _
    rw [e0]
    exact ⟨rfl, rfl, rfl⟩
theorem djdk_43_method_13_code_7 : decode jdk_43_method_13_code 7 = .ok (.iconst 0, 1) := by decide +kernel
theorem djdk_43_method_13_code_8 : decode jdk_43_method_13_code 8 = .ok (.istore_n 2, 1) := by decide +kernel
theorem djdk_43_method_13_code_9 : decode jdk_43_method_13_code 9 = .ok (.iload_n 2, 1) := by decide +kernel
theorem djdk_43_method_13_code_10 : decode jdk_43_method_13_code 10 = .ok (.aload_n 0, 1) := by decide +kernel
theorem djdk_43_method_13_code_11 : decode jdk_43_method_13_code 11 = .ok (.arraylength, 1) := by decide +kernel
theorem djdk_43_method_13_code_12 : decode jdk_43_method_13_code 12 = .ok (.if_icmp .ge 20, 3) := by decide +kernel
theorem djdk_43_method_13_code_15 : decode jdk_43_method_13_code 15 = .ok (.aload_n 0, 1) := by decide +kernel
theorem djdk_43_method_13_code_16 : decode jdk_43_method_13_code 16 = .ok (.iload_n 2, 1) := by decide +kernel
theorem djdk_43_method_13_code_17 : decode jdk_43_method_13_code 17 = .ok (.baload, 1) := by decide +kernel
theorem djdk_43_method_13_code_18 : decode jdk_43_method_13_code 18 = .ok (.aload_n 1, 1) := by decide +kernel
theorem djdk_43_method_13_code_19 : decode jdk_43_method_13_code 19 = .ok (.iload_n 2, 1) := by decide +kernel
theorem djdk_43_method_13_code_20 : decode jdk_43_method_13_code 20 = .ok (.baload, 1) := by decide +kernel
theorem djdk_43_method_13_code_21 : decode jdk_43_method_13_code 21 = .ok (.if_icmp .eq 5, 3) := by decide +kernel
theorem djdk_43_method_13_code_26 : decode jdk_43_method_13_code 26 = .ok (.iinc 2 1, 3) := by decide +kernel
theorem djdk_43_method_13_code_29 : decode jdk_43_method_13_code 29 = .ok (.goto (-20), 3) := by decide +kernel
theorem djdk_43_method_13_code_32 : decode jdk_43_method_13_code 32 = .ok (.iconst 1, 1) := by decide +kernel
theorem djdk_43_method_13_code_33 : decode jdk_43_method_13_code 33 = .ok (.ireturn, 1) := by decide +kernel
theorem ef_rmLY (m : MethodId) (x0 : Addr) (x1 : Addr) : entryFrame m #[(.ref x0), (.ref x1)] 3 = mkF m 0 #[.val (.ref x0), .val (.ref x1), .unset] [] := by first | (simp [entryFrame, mkF, argsToLocals, Value.category]; done) | rfl
def QLY (Z : State) (a1 : Addr) (a2 : Addr) (ck1 : ClassId) (ck2 : ClassId) (h0 : Heap) (n0 : Nat) (v : Option Value) (h : Heap) (L : List Loc) : Prop := v = some (.int 1) ∧ L = [] ∧ h = h0
set_option maxRecDepth 65536 in
set_option maxHeartbeats 40000000 in
theorem rmLY (l : Launch) (Z : State) (a0 : Array Value) (hw : ∀ d ∈ tables_1, d.before a0 Z = true) (ws : List Jvm.Cond) (a1 : Addr) (a2 : Addr) (ck1 : ClassId) (ck2 : ClassId) (h0 : Heap) (n0 : Nat) (Z0 : n0 ≤ h0.size) (A1 : Arv Z h0 a1 ck1 .byte (7 : Int32) [(.int (68 : Int32)), (.int (101 : Int32)), (.int (108 : Int32)), (.int (101 : Int32)), (.int (116 : Int32)), (.int (101 : Int32)), (.int (100 : Int32))] (.int (0 : Int32))) (A2 : Arv Z h0 a2 ck2 .byte (7 : Int32) [(.int (68 : Int32)), (.int (101 : Int32)), (.int (108 : Int32)), (.int (101 : Int32)), (.int (116 : Int32)), (.int (101 : Int32)), (.int (100 : Int32))] (.int (0 : Int32))) :
    MetFree l (⟨"java/lang/StringLatin1", "equals", "([B[B)Z"⟩ : MethodName) (head1 (Jvm.Cond.code (⟨"java/lang/StringLatin1", "equals", "([B[B)Z"⟩ : MethodName) jdk_43_method_13_code 3 (some .boolean) :: ws) ({ frames := 0, cells := 0, slots := 0, locals := 0 } : Room)) (fun a U => a = #[(.ref a1), (.ref a2)] ∧ Z.Warmed39 U.vm ∧ U.heap = h0) (fun _ _ _ _ _ => True) (fun _ U o U' => ∃ v L, o = .returned v ∧ QLY Z a1 a2 ck1 ck2 h0 n0 v U'.heap L ∧ FrameEnd U o U' L ({ frames := 0, cells := 0, slots := 0, locals := 0 } : Room).cells ({ frames := 0, cells := 0, slots := 0, locals := 0 } : Room).slots) := by
  refine MetFree.of_bodySF (plainFor_of_name pn_2) hisR ?_
  intro p e s m args below meth c s₁ Bd hml0 hP hK
  obtain ⟨rfl, hZ, hh⟩ := hP
  have hx := Bd.exec
  have hby := Bd.bytes
  have hml : c.maxLocals = 3 := hml0
  have hown : s.vm.findClass "java/lang/StringLatin1" = some m.cls := findClass_of_methodNamed Bd.named
  have hnm := (name_of_methodNamed Bd.named Bd.method).1
  have X0 : Stand p l e ({ frames := 0, cells := 0, slots := 0, locals := 0 } : Room) s m #[(.ref a1), (.ref a2)] below meth c s₁ [] 0 0 := Stand.of_body Bd
  have e0 : s₁.heap = h0 := by rw [← hh, Bd.state]; rfl
  have N0 := Fr.nil n0
  have k0 : Go p e below (s₁.setTop (entryFrame m #[(.ref a1), (.ref a2)] 3)) (s₁.setTop (mkF m 0 #[.val (.ref a1), .val (.ref a2), .unset] [])) := fun t k => castTop (ef_rmLY m a1 a2) k
  obtain ⟨cl1, Ar1, -, S1, G1, -, -⟩ := id A1
  obtain ⟨cl2, Ar2, -, S2, G2, -, -⟩ := id A2
  have k3 : Go p e below (s₁.setTop (entryFrame m #[(.ref a1), (.ref a2)] 3)) (s₁.setTop (mkF m 9 #[.val (.ref a1), .val (.ref a2), .val (.int (0 : Int32))] [])) := fun t kk => k0 t (by
    show Steps p.tables e below (s₁.setTop (mkF m 0 #[.val (.ref a1), .val (.ref a2), .unset] [])) _
    refine XS.aloadN X0.here hx rfl (hb hby djdk_43_method_13_code_0) rfl rfl ?_
    show Steps p.tables e below (s₁.setTop (mkF m 1 #[.val (.ref a1), .val (.ref a2), .unset] [(.ref a1)])) _
    refine X0.arraylength hx (by rw [e0]; exact Ar1.1) (State.isArrayOf_alike hZ.alike Ar1.2.1) (g := (mkF m 1 #[.val (.ref a1), .val (.ref a2), .unset] [(.ref a1)])) rfl rfl (hb hby djdk_43_method_13_code_1) _ ?_
    rw [len_of S1 G1]
    show Steps p.tables e below (s₁.setTop (mkF m 2 #[.val (.ref a1), .val (.ref a2), .unset] [(.int (7 : Int32))])) _
    refine XS.aloadN X0.here hx rfl (hb hby djdk_43_method_13_code_2) rfl rfl ?_
    show Steps p.tables e below (s₁.setTop (mkF m 3 #[.val (.ref a1), .val (.ref a2), .unset] [(.ref a2), (.int (7 : Int32))])) _
    refine X0.arraylength hx (by rw [e0]; exact Ar2.1) (State.isArrayOf_alike hZ.alike Ar2.2.1) (g := (mkF m 3 #[.val (.ref a1), .val (.ref a2), .unset] [(.ref a2), (.int (7 : Int32))])) rfl rfl (hb hby djdk_43_method_13_code_3) _ ?_
    rw [len_of S2 G2]
    show Steps p.tables e below (s₁.setTop (mkF m 4 #[.val (.ref a1), .val (.ref a2), .unset] [(.int (7 : Int32)), (.int (7 : Int32))])) _
    refine XS.icmpNo X0.here hx rfl (hb hby djdk_43_method_13_code_4) rfl (teq (by decide : (7 : Int32) = (7 : Int32))).2 ?_
    show Steps p.tables e below (s₁.setTop (mkF m 7 #[.val (.ref a1), .val (.ref a2), .unset] [])) _
    refine XS.iconst X0.here hx rfl (hb hby djdk_43_method_13_code_7) ?_
    show Steps p.tables e below (s₁.setTop (mkF m 8 #[.val (.ref a1), .val (.ref a2), .unset] [(.int (0 : Int32))])) _
    refine XS.istoreN X0.here hx rfl (hb hby djdk_43_method_13_code_8) rfl (l' := #[.val (.ref a1), .val (.ref a2), .val (.int (0 : Int32))]) rfl ?_
    exact kk)
  obtain ⟨cl4, Ar4, -, S4, G4, -, -⟩ := id A1
  obtain ⟨cl5, Ar5, -, S5, G5, H5, -⟩ := id A1
  have hin5 : ¬ ((0 : Int32) < 0 ∨ cl5.slots.size ≤ ((0 : Int32)).toNatClampNeg) := inb_of S5 ⟨by decide, by decide⟩
  have hat5 : cl5.slots[((0 : Int32)).toNatClampNeg]? = some (.int (68 : Int32)) := H5.at hin5 rfl
  obtain ⟨cl6, Ar6, -, S6, G6, H6, -⟩ := id A2
  have hin6 : ¬ ((0 : Int32) < 0 ∨ cl6.slots.size ≤ ((0 : Int32)).toNatClampNeg) := inb_of S6 ⟨by decide, by decide⟩
  have hat6 : cl6.slots[((0 : Int32)).toNatClampNeg]? = some (.int (68 : Int32)) := H6.at hin6 rfl
  have k7 : Go p e below (s₁.setTop (entryFrame m #[(.ref a1), (.ref a2)] 3)) (s₁.setTop (mkF m 9 #[.val (.ref a1), .val (.ref a2), .val (.int ((0 : Int32) + (1 : Int32)))] [])) := fun t kk => k3 t (by
    show Steps p.tables e below (s₁.setTop (mkF m 9 #[.val (.ref a1), .val (.ref a2), .val (.int (0 : Int32))] [])) _
    refine XS.iloadN X0.here hx rfl (hb hby djdk_43_method_13_code_9) rfl ?_
    show Steps p.tables e below (s₁.setTop (mkF m 10 #[.val (.ref a1), .val (.ref a2), .val (.int (0 : Int32))] [(.int (0 : Int32))])) _
    refine XS.aloadN X0.here hx rfl (hb hby djdk_43_method_13_code_10) rfl rfl ?_
    show Steps p.tables e below (s₁.setTop (mkF m 11 #[.val (.ref a1), .val (.ref a2), .val (.int (0 : Int32))] [(.ref a1), (.int (0 : Int32))])) _
    refine X0.arraylength hx (by rw [e0]; exact Ar4.1) (State.isArrayOf_alike hZ.alike Ar4.2.1) (g := (mkF m 11 #[.val (.ref a1), .val (.ref a2), .val (.int (0 : Int32))] [(.ref a1), (.int (0 : Int32))])) rfl rfl (hb hby djdk_43_method_13_code_11) _ ?_
    rw [len_of S4 G4]
    show Steps p.tables e below (s₁.setTop (mkF m 12 #[.val (.ref a1), .val (.ref a2), .val (.int (0 : Int32))] [(.int (7 : Int32)), (.int (0 : Int32))])) _
    refine XS.icmpNo X0.here hx rfl (hb hby djdk_43_method_13_code_12) rfl (tlt (by decide : (0 : Int32) < (7 : Int32))).2.1 ?_
    show Steps p.tables e below (s₁.setTop (mkF m 15 #[.val (.ref a1), .val (.ref a2), .val (.int (0 : Int32))] [])) _
    refine XS.aloadN X0.here hx rfl (hb hby djdk_43_method_13_code_15) rfl rfl ?_
    show Steps p.tables e below (s₁.setTop (mkF m 16 #[.val (.ref a1), .val (.ref a2), .val (.int (0 : Int32))] [(.ref a1)])) _
    refine XS.iloadN X0.here hx rfl (hb hby djdk_43_method_13_code_16) rfl ?_
    show Steps p.tables e below (s₁.setTop (mkF m 17 #[.val (.ref a1), .val (.ref a2), .val (.int (0 : Int32))] [(.int (0 : Int32)), (.ref a1)])) _
    refine X0.baloadBytes hx (j := (0 : Int32)) (v := (.int (68 : Int32))) (by rw [e0]; exact Ar5.1) (State.isArrayOf_alike hZ.alike Ar5.2.1) Ar5.2.2 hin5 hat5 (g := (mkF m 17 #[.val (.ref a1), .val (.ref a2), .val (.int (0 : Int32))] [(.int (0 : Int32)), (.ref a1)])) rfl rfl (hb hby djdk_43_method_13_code_17) _ ?_
    show Steps p.tables e below (s₁.setTop (mkF m 18 #[.val (.ref a1), .val (.ref a2), .val (.int (0 : Int32))] [(.int (68 : Int32))])) _
    refine XS.aloadN X0.here hx rfl (hb hby djdk_43_method_13_code_18) rfl rfl ?_
    show Steps p.tables e below (s₁.setTop (mkF m 19 #[.val (.ref a1), .val (.ref a2), .val (.int (0 : Int32))] [(.ref a2), (.int (68 : Int32))])) _
    refine XS.iloadN X0.here hx rfl (hb hby djdk_43_method_13_code_19) rfl ?_
    show Steps p.tables e below (s₁.setTop (mkF m 20 #[.val (.ref a1), .val (.ref a2), .val (.int (0 : Int32))] [(.int (0 : Int32)), (.ref a2), (.int (68 : Int32))])) _
    refine X0.baloadBytes hx (j := (0 : Int32)) (v := (.int (68 : Int32))) (by rw [e0]; exact Ar6.1) (State.isArrayOf_alike hZ.alike Ar6.2.1) Ar6.2.2 hin6 hat6 (g := (mkF m 20 #[.val (.ref a1), .val (.ref a2), .val (.int (0 : Int32))] [(.int (0 : Int32)), (.ref a2), (.int (68 : Int32))])) rfl rfl (hb hby djdk_43_method_13_code_20) _ ?_
    show Steps p.tables e below (s₁.setTop (mkF m 21 #[.val (.ref a1), .val (.ref a2), .val (.int (0 : Int32))] [(.int (68 : Int32)), (.int (68 : Int32))])) _
    refine XS.icmpYes X0.here hx rfl (pc0 := 21) (pc' := 26) rfl (hb hby djdk_43_method_13_code_21) rfl (teq (by decide : (68 : Int32) = (68 : Int32))).1 (by decide) (by decide) ?_
    show Steps p.tables e below (s₁.setTop (mkF m 26 #[.val (.ref a1), .val (.ref a2), .val (.int (0 : Int32))] [])) _
    refine XS.iinc X0.here hx rfl (hb hby djdk_43_method_13_code_26) rfl (l' := #[.val (.ref a1), .val (.ref a2), .val (.int ((0 : Int32) + (1 : Int32)))]) rfl ?_
    show Steps p.tables e below (s₁.setTop (mkF m 29 #[.val (.ref a1), .val (.ref a2), .val (.int ((0 : Int32) + (1 : Int32)))] [])) _
    refine XS.goto X0.here hx rfl (pc0 := 29) (pc' := 9) rfl (hb hby djdk_43_method_13_code_29) (by decide) (by decide) ?_
    exact kk)
  have k8 : Go p e below (s₁.setTop (entryFrame m #[(.ref a1), (.ref a2)] 3)) (s₁.setTop (mkF m 9 #[.val (.ref a1), .val (.ref a2), .val (.int (1 : Int32))] [])) := k7
  obtain ⟨cl9, Ar9, -, S9, G9, -, -⟩ := id A1
  obtain ⟨cl10, Ar10, -, S10, G10, H10, -⟩ := id A1
  have hin10 : ¬ ((1 : Int32) < 0 ∨ cl10.slots.size ≤ ((1 : Int32)).toNatClampNeg) := inb_of S10 ⟨by decide, by decide⟩
  have hat10 : cl10.slots[((1 : Int32)).toNatClampNeg]? = some (.int (101 : Int32)) := H10.at hin10 rfl
  obtain ⟨cl11, Ar11, -, S11, G11, H11, -⟩ := id A2
  have hin11 : ¬ ((1 : Int32) < 0 ∨ cl11.slots.size ≤ ((1 : Int32)).toNatClampNeg) := inb_of S11 ⟨by decide, by decide⟩
  have hat11 : cl11.slots[((1 : Int32)).toNatClampNeg]? = some (.int (101 : Int32)) := H11.at hin11 rfl
  have k12 : Go p e below (s₁.setTop (entryFrame m #[(.ref a1), (.ref a2)] 3)) (s₁.setTop (mkF m 9 #[.val (.ref a1), .val (.ref a2), .val (.int ((1 : Int32) + (1 : Int32)))] [])) := fun t kk => k8 t (by
    show Steps p.tables e below (s₁.setTop (mkF m 9 #[.val (.ref a1), .val (.ref a2), .val (.int (1 : Int32))] [])) _
    refine XS.iloadN X0.here hx rfl (hb hby djdk_43_method_13_code_9) rfl ?_
    show Steps p.tables e below (s₁.setTop (mkF m 10 #[.val (.ref a1), .val (.ref a2), .val (.int (1 : Int32))] [(.int (1 : Int32))])) _
    refine XS.aloadN X0.here hx rfl (hb hby djdk_43_method_13_code_10) rfl rfl ?_
    show Steps p.tables e below (s₁.setTop (mkF m 11 #[.val (.ref a1), .val (.ref a2), .val (.int (1 : Int32))] [(.ref a1), (.int (1 : Int32))])) _
    refine X0.arraylength hx (by rw [e0]; exact Ar9.1) (State.isArrayOf_alike hZ.alike Ar9.2.1) (g := (mkF m 11 #[.val (.ref a1), .val (.ref a2), .val (.int (1 : Int32))] [(.ref a1), (.int (1 : Int32))])) rfl rfl (hb hby djdk_43_method_13_code_11) _ ?_
    rw [len_of S9 G9]
    show Steps p.tables e below (s₁.setTop (mkF m 12 #[.val (.ref a1), .val (.ref a2), .val (.int (1 : Int32))] [(.int (7 : Int32)), (.int (1 : Int32))])) _
    refine XS.icmpNo X0.here hx rfl (hb hby djdk_43_method_13_code_12) rfl (tlt (by decide : (1 : Int32) < (7 : Int32))).2.1 ?_
    show Steps p.tables e below (s₁.setTop (mkF m 15 #[.val (.ref a1), .val (.ref a2), .val (.int (1 : Int32))] [])) _
    refine XS.aloadN X0.here hx rfl (hb hby djdk_43_method_13_code_15) rfl rfl ?_
    show Steps p.tables e below (s₁.setTop (mkF m 16 #[.val (.ref a1), .val (.ref a2), .val (.int (1 : Int32))] [(.ref a1)])) _
    refine XS.iloadN X0.here hx rfl (hb hby djdk_43_method_13_code_16) rfl ?_
    show Steps p.tables e below (s₁.setTop (mkF m 17 #[.val (.ref a1), .val (.ref a2), .val (.int (1 : Int32))] [(.int (1 : Int32)), (.ref a1)])) _
    refine X0.baloadBytes hx (j := (1 : Int32)) (v := (.int (101 : Int32))) (by rw [e0]; exact Ar10.1) (State.isArrayOf_alike hZ.alike Ar10.2.1) Ar10.2.2 hin10 hat10 (g := (mkF m 17 #[.val (.ref a1), .val (.ref a2), .val (.int (1 : Int32))] [(.int (1 : Int32)), (.ref a1)])) rfl rfl (hb hby djdk_43_method_13_code_17) _ ?_
    show Steps p.tables e below (s₁.setTop (mkF m 18 #[.val (.ref a1), .val (.ref a2), .val (.int (1 : Int32))] [(.int (101 : Int32))])) _
    refine XS.aloadN X0.here hx rfl (hb hby djdk_43_method_13_code_18) rfl rfl ?_
    show Steps p.tables e below (s₁.setTop (mkF m 19 #[.val (.ref a1), .val (.ref a2), .val (.int (1 : Int32))] [(.ref a2), (.int (101 : Int32))])) _
    refine XS.iloadN X0.here hx rfl (hb hby djdk_43_method_13_code_19) rfl ?_
    show Steps p.tables e below (s₁.setTop (mkF m 20 #[.val (.ref a1), .val (.ref a2), .val (.int (1 : Int32))] [(.int (1 : Int32)), (.ref a2), (.int (101 : Int32))])) _
    refine X0.baloadBytes hx (j := (1 : Int32)) (v := (.int (101 : Int32))) (by rw [e0]; exact Ar11.1) (State.isArrayOf_alike hZ.alike Ar11.2.1) Ar11.2.2 hin11 hat11 (g := (mkF m 20 #[.val (.ref a1), .val (.ref a2), .val (.int (1 : Int32))] [(.int (1 : Int32)), (.ref a2), (.int (101 : Int32))])) rfl rfl (hb hby djdk_43_method_13_code_20) _ ?_
    show Steps p.tables e below (s₁.setTop (mkF m 21 #[.val (.ref a1), .val (.ref a2), .val (.int (1 : Int32))] [(.int (101 : Int32)), (.int (101 : Int32))])) _
    refine XS.icmpYes X0.here hx rfl (pc0 := 21) (pc' := 26) rfl (hb hby djdk_43_method_13_code_21) rfl (teq (by decide : (101 : Int32) = (101 : Int32))).1 (by decide) (by decide) ?_
    show Steps p.tables e below (s₁.setTop (mkF m 26 #[.val (.ref a1), .val (.ref a2), .val (.int (1 : Int32))] [])) _
    refine XS.iinc X0.here hx rfl (hb hby djdk_43_method_13_code_26) rfl (l' := #[.val (.ref a1), .val (.ref a2), .val (.int ((1 : Int32) + (1 : Int32)))]) rfl ?_
    show Steps p.tables e below (s₁.setTop (mkF m 29 #[.val (.ref a1), .val (.ref a2), .val (.int ((1 : Int32) + (1 : Int32)))] [])) _
    refine XS.goto X0.here hx rfl (pc0 := 29) (pc' := 9) rfl (hb hby djdk_43_method_13_code_29) (by decide) (by decide) ?_
    exact kk)
  have k13 : Go p e below (s₁.setTop (entryFrame m #[(.ref a1), (.ref a2)] 3)) (s₁.setTop (mkF m 9 #[.val (.ref a1), .val (.ref a2), .val (.int (2 : Int32))] [])) := k12
  obtain ⟨cl14, Ar14, -, S14, G14, -, -⟩ := id A1
  obtain ⟨cl15, Ar15, -, S15, G15, H15, -⟩ := id A1
  have hin15 : ¬ ((2 : Int32) < 0 ∨ cl15.slots.size ≤ ((2 : Int32)).toNatClampNeg) := inb_of S15 ⟨by decide, by decide⟩
  have hat15 : cl15.slots[((2 : Int32)).toNatClampNeg]? = some (.int (108 : Int32)) := H15.at hin15 rfl
  obtain ⟨cl16, Ar16, -, S16, G16, H16, -⟩ := id A2
  have hin16 : ¬ ((2 : Int32) < 0 ∨ cl16.slots.size ≤ ((2 : Int32)).toNatClampNeg) := inb_of S16 ⟨by decide, by decide⟩
  have hat16 : cl16.slots[((2 : Int32)).toNatClampNeg]? = some (.int (108 : Int32)) := H16.at hin16 rfl
  have k17 : Go p e below (s₁.setTop (entryFrame m #[(.ref a1), (.ref a2)] 3)) (s₁.setTop (mkF m 9 #[.val (.ref a1), .val (.ref a2), .val (.int ((2 : Int32) + (1 : Int32)))] [])) := fun t kk => k13 t (by
    show Steps p.tables e below (s₁.setTop (mkF m 9 #[.val (.ref a1), .val (.ref a2), .val (.int (2 : Int32))] [])) _
    refine XS.iloadN X0.here hx rfl (hb hby djdk_43_method_13_code_9) rfl ?_
    show Steps p.tables e below (s₁.setTop (mkF m 10 #[.val (.ref a1), .val (.ref a2), .val (.int (2 : Int32))] [(.int (2 : Int32))])) _
    refine XS.aloadN X0.here hx rfl (hb hby djdk_43_method_13_code_10) rfl rfl ?_
    show Steps p.tables e below (s₁.setTop (mkF m 11 #[.val (.ref a1), .val (.ref a2), .val (.int (2 : Int32))] [(.ref a1), (.int (2 : Int32))])) _
    refine X0.arraylength hx (by rw [e0]; exact Ar14.1) (State.isArrayOf_alike hZ.alike Ar14.2.1) (g := (mkF m 11 #[.val (.ref a1), .val (.ref a2), .val (.int (2 : Int32))] [(.ref a1), (.int (2 : Int32))])) rfl rfl (hb hby djdk_43_method_13_code_11) _ ?_
    rw [len_of S14 G14]
    show Steps p.tables e below (s₁.setTop (mkF m 12 #[.val (.ref a1), .val (.ref a2), .val (.int (2 : Int32))] [(.int (7 : Int32)), (.int (2 : Int32))])) _
    refine XS.icmpNo X0.here hx rfl (hb hby djdk_43_method_13_code_12) rfl (tlt (by decide : (2 : Int32) < (7 : Int32))).2.1 ?_
    show Steps p.tables e below (s₁.setTop (mkF m 15 #[.val (.ref a1), .val (.ref a2), .val (.int (2 : Int32))] [])) _
    refine XS.aloadN X0.here hx rfl (hb hby djdk_43_method_13_code_15) rfl rfl ?_
    show Steps p.tables e below (s₁.setTop (mkF m 16 #[.val (.ref a1), .val (.ref a2), .val (.int (2 : Int32))] [(.ref a1)])) _
    refine XS.iloadN X0.here hx rfl (hb hby djdk_43_method_13_code_16) rfl ?_
    show Steps p.tables e below (s₁.setTop (mkF m 17 #[.val (.ref a1), .val (.ref a2), .val (.int (2 : Int32))] [(.int (2 : Int32)), (.ref a1)])) _
    refine X0.baloadBytes hx (j := (2 : Int32)) (v := (.int (108 : Int32))) (by rw [e0]; exact Ar15.1) (State.isArrayOf_alike hZ.alike Ar15.2.1) Ar15.2.2 hin15 hat15 (g := (mkF m 17 #[.val (.ref a1), .val (.ref a2), .val (.int (2 : Int32))] [(.int (2 : Int32)), (.ref a1)])) rfl rfl (hb hby djdk_43_method_13_code_17) _ ?_
    show Steps p.tables e below (s₁.setTop (mkF m 18 #[.val (.ref a1), .val (.ref a2), .val (.int (2 : Int32))] [(.int (108 : Int32))])) _
    refine XS.aloadN X0.here hx rfl (hb hby djdk_43_method_13_code_18) rfl rfl ?_
    show Steps p.tables e below (s₁.setTop (mkF m 19 #[.val (.ref a1), .val (.ref a2), .val (.int (2 : Int32))] [(.ref a2), (.int (108 : Int32))])) _
    refine XS.iloadN X0.here hx rfl (hb hby djdk_43_method_13_code_19) rfl ?_
    show Steps p.tables e below (s₁.setTop (mkF m 20 #[.val (.ref a1), .val (.ref a2), .val (.int (2 : Int32))] [(.int (2 : Int32)), (.ref a2), (.int (108 : Int32))])) _
    refine X0.baloadBytes hx (j := (2 : Int32)) (v := (.int (108 : Int32))) (by rw [e0]; exact Ar16.1) (State.isArrayOf_alike hZ.alike Ar16.2.1) Ar16.2.2 hin16 hat16 (g := (mkF m 20 #[.val (.ref a1), .val (.ref a2), .val (.int (2 : Int32))] [(.int (2 : Int32)), (.ref a2), (.int (108 : Int32))])) rfl rfl (hb hby djdk_43_method_13_code_20) _ ?_
    show Steps p.tables e below (s₁.setTop (mkF m 21 #[.val (.ref a1), .val (.ref a2), .val (.int (2 : Int32))] [(.int (108 : Int32)), (.int (108 : Int32))])) _
    refine XS.icmpYes X0.here hx rfl (pc0 := 21) (pc' := 26) rfl (hb hby djdk_43_method_13_code_21) rfl (teq (by decide : (108 : Int32) = (108 : Int32))).1 (by decide) (by decide) ?_
    show Steps p.tables e below (s₁.setTop (mkF m 26 #[.val (.ref a1), .val (.ref a2), .val (.int (2 : Int32))] [])) _
    refine XS.iinc X0.here hx rfl (hb hby djdk_43_method_13_code_26) rfl (l' := #[.val (.ref a1), .val (.ref a2), .val (.int ((2 : Int32) + (1 : Int32)))]) rfl ?_
    show Steps p.tables e below (s₁.setTop (mkF m 29 #[.val (.ref a1), .val (.ref a2), .val (.int ((2 : Int32) + (1 : Int32)))] [])) _
    refine XS.goto X0.here hx rfl (pc0 := 29) (pc' := 9) rfl (hb hby djdk_43_method_13_code_29) (by decide) (by decide) ?_
    exact kk)
  have k18 : Go p e below (s₁.setTop (entryFrame m #[(.ref a1), (.ref a2)] 3)) (s₁.setTop (mkF m 9 #[.val (.ref a1), .val (.ref a2), .val (.int (3 : Int32))] [])) := k17
  obtain ⟨cl19, Ar19, -, S19, G19, -, -⟩ := id A1
  obtain ⟨cl20, Ar20, -, S20, G20, H20, -⟩ := id A1
  have hin20 : ¬ ((3 : Int32) < 0 ∨ cl20.slots.size ≤ ((3 : Int32)).toNatClampNeg) := inb_of S20 ⟨by decide, by decide⟩
  have hat20 : cl20.slots[((3 : Int32)).toNatClampNeg]? = some (.int (101 : Int32)) := H20.at hin20 rfl
  obtain ⟨cl21, Ar21, -, S21, G21, H21, -⟩ := id A2
  have hin21 : ¬ ((3 : Int32) < 0 ∨ cl21.slots.size ≤ ((3 : Int32)).toNatClampNeg) := inb_of S21 ⟨by decide, by decide⟩
  have hat21 : cl21.slots[((3 : Int32)).toNatClampNeg]? = some (.int (101 : Int32)) := H21.at hin21 rfl
  have k22 : Go p e below (s₁.setTop (entryFrame m #[(.ref a1), (.ref a2)] 3)) (s₁.setTop (mkF m 9 #[.val (.ref a1), .val (.ref a2), .val (.int ((3 : Int32) + (1 : Int32)))] [])) := fun t kk => k18 t (by
    show Steps p.tables e below (s₁.setTop (mkF m 9 #[.val (.ref a1), .val (.ref a2), .val (.int (3 : Int32))] [])) _
    refine XS.iloadN X0.here hx rfl (hb hby djdk_43_method_13_code_9) rfl ?_
    show Steps p.tables e below (s₁.setTop (mkF m 10 #[.val (.ref a1), .val (.ref a2), .val (.int (3 : Int32))] [(.int (3 : Int32))])) _
    refine XS.aloadN X0.here hx rfl (hb hby djdk_43_method_13_code_10) rfl rfl ?_
    show Steps p.tables e below (s₁.setTop (mkF m 11 #[.val (.ref a1), .val (.ref a2), .val (.int (3 : Int32))] [(.ref a1), (.int (3 : Int32))])) _
    refine X0.arraylength hx (by rw [e0]; exact Ar19.1) (State.isArrayOf_alike hZ.alike Ar19.2.1) (g := (mkF m 11 #[.val (.ref a1), .val (.ref a2), .val (.int (3 : Int32))] [(.ref a1), (.int (3 : Int32))])) rfl rfl (hb hby djdk_43_method_13_code_11) _ ?_
    rw [len_of S19 G19]
    show Steps p.tables e below (s₁.setTop (mkF m 12 #[.val (.ref a1), .val (.ref a2), .val (.int (3 : Int32))] [(.int (7 : Int32)), (.int (3 : Int32))])) _
    refine XS.icmpNo X0.here hx rfl (hb hby djdk_43_method_13_code_12) rfl (tlt (by decide : (3 : Int32) < (7 : Int32))).2.1 ?_
    show Steps p.tables e below (s₁.setTop (mkF m 15 #[.val (.ref a1), .val (.ref a2), .val (.int (3 : Int32))] [])) _
    refine XS.aloadN X0.here hx rfl (hb hby djdk_43_method_13_code_15) rfl rfl ?_
    show Steps p.tables e below (s₁.setTop (mkF m 16 #[.val (.ref a1), .val (.ref a2), .val (.int (3 : Int32))] [(.ref a1)])) _
    refine XS.iloadN X0.here hx rfl (hb hby djdk_43_method_13_code_16) rfl ?_
    show Steps p.tables e below (s₁.setTop (mkF m 17 #[.val (.ref a1), .val (.ref a2), .val (.int (3 : Int32))] [(.int (3 : Int32)), (.ref a1)])) _
    refine X0.baloadBytes hx (j := (3 : Int32)) (v := (.int (101 : Int32))) (by rw [e0]; exact Ar20.1) (State.isArrayOf_alike hZ.alike Ar20.2.1) Ar20.2.2 hin20 hat20 (g := (mkF m 17 #[.val (.ref a1), .val (.ref a2), .val (.int (3 : Int32))] [(.int (3 : Int32)), (.ref a1)])) rfl rfl (hb hby djdk_43_method_13_code_17) _ ?_
    show Steps p.tables e below (s₁.setTop (mkF m 18 #[.val (.ref a1), .val (.ref a2), .val (.int (3 : Int32))] [(.int (101 : Int32))])) _
    refine XS.aloadN X0.here hx rfl (hb hby djdk_43_method_13_code_18) rfl rfl ?_
    show Steps p.tables e below (s₁.setTop (mkF m 19 #[.val (.ref a1), .val (.ref a2), .val (.int (3 : Int32))] [(.ref a2), (.int (101 : Int32))])) _
    refine XS.iloadN X0.here hx rfl (hb hby djdk_43_method_13_code_19) rfl ?_
    show Steps p.tables e below (s₁.setTop (mkF m 20 #[.val (.ref a1), .val (.ref a2), .val (.int (3 : Int32))] [(.int (3 : Int32)), (.ref a2), (.int (101 : Int32))])) _
    refine X0.baloadBytes hx (j := (3 : Int32)) (v := (.int (101 : Int32))) (by rw [e0]; exact Ar21.1) (State.isArrayOf_alike hZ.alike Ar21.2.1) Ar21.2.2 hin21 hat21 (g := (mkF m 20 #[.val (.ref a1), .val (.ref a2), .val (.int (3 : Int32))] [(.int (3 : Int32)), (.ref a2), (.int (101 : Int32))])) rfl rfl (hb hby djdk_43_method_13_code_20) _ ?_
    show Steps p.tables e below (s₁.setTop (mkF m 21 #[.val (.ref a1), .val (.ref a2), .val (.int (3 : Int32))] [(.int (101 : Int32)), (.int (101 : Int32))])) _
    refine XS.icmpYes X0.here hx rfl (pc0 := 21) (pc' := 26) rfl (hb hby djdk_43_method_13_code_21) rfl (teq (by decide : (101 : Int32) = (101 : Int32))).1 (by decide) (by decide) ?_
    show Steps p.tables e below (s₁.setTop (mkF m 26 #[.val (.ref a1), .val (.ref a2), .val (.int (3 : Int32))] [])) _
    refine XS.iinc X0.here hx rfl (hb hby djdk_43_method_13_code_26) rfl (l' := #[.val (.ref a1), .val (.ref a2), .val (.int ((3 : Int32) + (1 : Int32)))]) rfl ?_
    show Steps p.tables e below (s₁.setTop (mkF m 29 #[.val (.ref a1), .val (.ref a2), .val (.int ((3 : Int32) + (1 : Int32)))] [])) _
    refine XS.goto X0.here hx rfl (pc0 := 29) (pc' := 9) rfl (hb hby djdk_43_method_13_code_29) (by decide) (by decide) ?_
    exact kk)
  have k23 : Go p e below (s₁.setTop (entryFrame m #[(.ref a1), (.ref a2)] 3)) (s₁.setTop (mkF m 9 #[.val (.ref a1), .val (.ref a2), .val (.int (4 : Int32))] [])) := k22
  obtain ⟨cl24, Ar24, -, S24, G24, -, -⟩ := id A1
  obtain ⟨cl25, Ar25, -, S25, G25, H25, -⟩ := id A1
  have hin25 : ¬ ((4 : Int32) < 0 ∨ cl25.slots.size ≤ ((4 : Int32)).toNatClampNeg) := inb_of S25 ⟨by decide, by decide⟩
  have hat25 : cl25.slots[((4 : Int32)).toNatClampNeg]? = some (.int (116 : Int32)) := H25.at hin25 rfl
  obtain ⟨cl26, Ar26, -, S26, G26, H26, -⟩ := id A2
  have hin26 : ¬ ((4 : Int32) < 0 ∨ cl26.slots.size ≤ ((4 : Int32)).toNatClampNeg) := inb_of S26 ⟨by decide, by decide⟩
  have hat26 : cl26.slots[((4 : Int32)).toNatClampNeg]? = some (.int (116 : Int32)) := H26.at hin26 rfl
  have k27 : Go p e below (s₁.setTop (entryFrame m #[(.ref a1), (.ref a2)] 3)) (s₁.setTop (mkF m 9 #[.val (.ref a1), .val (.ref a2), .val (.int ((4 : Int32) + (1 : Int32)))] [])) := fun t kk => k23 t (by
    show Steps p.tables e below (s₁.setTop (mkF m 9 #[.val (.ref a1), .val (.ref a2), .val (.int (4 : Int32))] [])) _
    refine XS.iloadN X0.here hx rfl (hb hby djdk_43_method_13_code_9) rfl ?_
    show Steps p.tables e below (s₁.setTop (mkF m 10 #[.val (.ref a1), .val (.ref a2), .val (.int (4 : Int32))] [(.int (4 : Int32))])) _
    refine XS.aloadN X0.here hx rfl (hb hby djdk_43_method_13_code_10) rfl rfl ?_
    show Steps p.tables e below (s₁.setTop (mkF m 11 #[.val (.ref a1), .val (.ref a2), .val (.int (4 : Int32))] [(.ref a1), (.int (4 : Int32))])) _
    refine X0.arraylength hx (by rw [e0]; exact Ar24.1) (State.isArrayOf_alike hZ.alike Ar24.2.1) (g := (mkF m 11 #[.val (.ref a1), .val (.ref a2), .val (.int (4 : Int32))] [(.ref a1), (.int (4 : Int32))])) rfl rfl (hb hby djdk_43_method_13_code_11) _ ?_
    rw [len_of S24 G24]
    show Steps p.tables e below (s₁.setTop (mkF m 12 #[.val (.ref a1), .val (.ref a2), .val (.int (4 : Int32))] [(.int (7 : Int32)), (.int (4 : Int32))])) _
    refine XS.icmpNo X0.here hx rfl (hb hby djdk_43_method_13_code_12) rfl (tlt (by decide : (4 : Int32) < (7 : Int32))).2.1 ?_
    show Steps p.tables e below (s₁.setTop (mkF m 15 #[.val (.ref a1), .val (.ref a2), .val (.int (4 : Int32))] [])) _
    refine XS.aloadN X0.here hx rfl (hb hby djdk_43_method_13_code_15) rfl rfl ?_
    show Steps p.tables e below (s₁.setTop (mkF m 16 #[.val (.ref a1), .val (.ref a2), .val (.int (4 : Int32))] [(.ref a1)])) _
    refine XS.iloadN X0.here hx rfl (hb hby djdk_43_method_13_code_16) rfl ?_
    show Steps p.tables e below (s₁.setTop (mkF m 17 #[.val (.ref a1), .val (.ref a2), .val (.int (4 : Int32))] [(.int (4 : Int32)), (.ref a1)])) _
    refine X0.baloadBytes hx (j := (4 : Int32)) (v := (.int (116 : Int32))) (by rw [e0]; exact Ar25.1) (State.isArrayOf_alike hZ.alike Ar25.2.1) Ar25.2.2 hin25 hat25 (g := (mkF m 17 #[.val (.ref a1), .val (.ref a2), .val (.int (4 : Int32))] [(.int (4 : Int32)), (.ref a1)])) rfl rfl (hb hby djdk_43_method_13_code_17) _ ?_
    show Steps p.tables e below (s₁.setTop (mkF m 18 #[.val (.ref a1), .val (.ref a2), .val (.int (4 : Int32))] [(.int (116 : Int32))])) _
    refine XS.aloadN X0.here hx rfl (hb hby djdk_43_method_13_code_18) rfl rfl ?_
    show Steps p.tables e below (s₁.setTop (mkF m 19 #[.val (.ref a1), .val (.ref a2), .val (.int (4 : Int32))] [(.ref a2), (.int (116 : Int32))])) _
    refine XS.iloadN X0.here hx rfl (hb hby djdk_43_method_13_code_19) rfl ?_
    show Steps p.tables e below (s₁.setTop (mkF m 20 #[.val (.ref a1), .val (.ref a2), .val (.int (4 : Int32))] [(.int (4 : Int32)), (.ref a2), (.int (116 : Int32))])) _
    refine X0.baloadBytes hx (j := (4 : Int32)) (v := (.int (116 : Int32))) (by rw [e0]; exact Ar26.1) (State.isArrayOf_alike hZ.alike Ar26.2.1) Ar26.2.2 hin26 hat26 (g := (mkF m 20 #[.val (.ref a1), .val (.ref a2), .val (.int (4 : Int32))] [(.int (4 : Int32)), (.ref a2), (.int (116 : Int32))])) rfl rfl (hb hby djdk_43_method_13_code_20) _ ?_
    show Steps p.tables e below (s₁.setTop (mkF m 21 #[.val (.ref a1), .val (.ref a2), .val (.int (4 : Int32))] [(.int (116 : Int32)), (.int (116 : Int32))])) _
    refine XS.icmpYes X0.here hx rfl (pc0 := 21) (pc' := 26) rfl (hb hby djdk_43_method_13_code_21) rfl (teq (by decide : (116 : Int32) = (116 : Int32))).1 (by decide) (by decide) ?_
    show Steps p.tables e below (s₁.setTop (mkF m 26 #[.val (.ref a1), .val (.ref a2), .val (.int (4 : Int32))] [])) _
    refine XS.iinc X0.here hx rfl (hb hby djdk_43_method_13_code_26) rfl (l' := #[.val (.ref a1), .val (.ref a2), .val (.int ((4 : Int32) + (1 : Int32)))]) rfl ?_
    show Steps p.tables e below (s₁.setTop (mkF m 29 #[.val (.ref a1), .val (.ref a2), .val (.int ((4 : Int32) + (1 : Int32)))] [])) _
    refine XS.goto X0.here hx rfl (pc0 := 29) (pc' := 9) rfl (hb hby djdk_43_method_13_code_29) (by decide) (by decide) ?_
    exact kk)
  have k28 : Go p e below (s₁.setTop (entryFrame m #[(.ref a1), (.ref a2)] 3)) (s₁.setTop (mkF m 9 #[.val (.ref a1), .val (.ref a2), .val (.int (5 : Int32))] [])) := k27
  obtain ⟨cl29, Ar29, -, S29, G29, -, -⟩ := id A1
  obtain ⟨cl30, Ar30, -, S30, G30, H30, -⟩ := id A1
  have hin30 : ¬ ((5 : Int32) < 0 ∨ cl30.slots.size ≤ ((5 : Int32)).toNatClampNeg) := inb_of S30 ⟨by decide, by decide⟩
  have hat30 : cl30.slots[((5 : Int32)).toNatClampNeg]? = some (.int (101 : Int32)) := H30.at hin30 rfl
  obtain ⟨cl31, Ar31, -, S31, G31, H31, -⟩ := id A2
  have hin31 : ¬ ((5 : Int32) < 0 ∨ cl31.slots.size ≤ ((5 : Int32)).toNatClampNeg) := inb_of S31 ⟨by decide, by decide⟩
  have hat31 : cl31.slots[((5 : Int32)).toNatClampNeg]? = some (.int (101 : Int32)) := H31.at hin31 rfl
  have k32 : Go p e below (s₁.setTop (entryFrame m #[(.ref a1), (.ref a2)] 3)) (s₁.setTop (mkF m 9 #[.val (.ref a1), .val (.ref a2), .val (.int ((5 : Int32) + (1 : Int32)))] [])) := fun t kk => k28 t (by
    show Steps p.tables e below (s₁.setTop (mkF m 9 #[.val (.ref a1), .val (.ref a2), .val (.int (5 : Int32))] [])) _
    refine XS.iloadN X0.here hx rfl (hb hby djdk_43_method_13_code_9) rfl ?_
    show Steps p.tables e below (s₁.setTop (mkF m 10 #[.val (.ref a1), .val (.ref a2), .val (.int (5 : Int32))] [(.int (5 : Int32))])) _
    refine XS.aloadN X0.here hx rfl (hb hby djdk_43_method_13_code_10) rfl rfl ?_
    show Steps p.tables e below (s₁.setTop (mkF m 11 #[.val (.ref a1), .val (.ref a2), .val (.int (5 : Int32))] [(.ref a1), (.int (5 : Int32))])) _
    refine X0.arraylength hx (by rw [e0]; exact Ar29.1) (State.isArrayOf_alike hZ.alike Ar29.2.1) (g := (mkF m 11 #[.val (.ref a1), .val (.ref a2), .val (.int (5 : Int32))] [(.ref a1), (.int (5 : Int32))])) rfl rfl (hb hby djdk_43_method_13_code_11) _ ?_
    rw [len_of S29 G29]
    show Steps p.tables e below (s₁.setTop (mkF m 12 #[.val (.ref a1), .val (.ref a2), .val (.int (5 : Int32))] [(.int (7 : Int32)), (.int (5 : Int32))])) _
    refine XS.icmpNo X0.here hx rfl (hb hby djdk_43_method_13_code_12) rfl (tlt (by decide : (5 : Int32) < (7 : Int32))).2.1 ?_
    show Steps p.tables e below (s₁.setTop (mkF m 15 #[.val (.ref a1), .val (.ref a2), .val (.int (5 : Int32))] [])) _
    refine XS.aloadN X0.here hx rfl (hb hby djdk_43_method_13_code_15) rfl rfl ?_
    show Steps p.tables e below (s₁.setTop (mkF m 16 #[.val (.ref a1), .val (.ref a2), .val (.int (5 : Int32))] [(.ref a1)])) _
    refine XS.iloadN X0.here hx rfl (hb hby djdk_43_method_13_code_16) rfl ?_
    show Steps p.tables e below (s₁.setTop (mkF m 17 #[.val (.ref a1), .val (.ref a2), .val (.int (5 : Int32))] [(.int (5 : Int32)), (.ref a1)])) _
    refine X0.baloadBytes hx (j := (5 : Int32)) (v := (.int (101 : Int32))) (by rw [e0]; exact Ar30.1) (State.isArrayOf_alike hZ.alike Ar30.2.1) Ar30.2.2 hin30 hat30 (g := (mkF m 17 #[.val (.ref a1), .val (.ref a2), .val (.int (5 : Int32))] [(.int (5 : Int32)), (.ref a1)])) rfl rfl (hb hby djdk_43_method_13_code_17) _ ?_
    show Steps p.tables e below (s₁.setTop (mkF m 18 #[.val (.ref a1), .val (.ref a2), .val (.int (5 : Int32))] [(.int (101 : Int32))])) _
    refine XS.aloadN X0.here hx rfl (hb hby djdk_43_method_13_code_18) rfl rfl ?_
    show Steps p.tables e below (s₁.setTop (mkF m 19 #[.val (.ref a1), .val (.ref a2), .val (.int (5 : Int32))] [(.ref a2), (.int (101 : Int32))])) _
    refine XS.iloadN X0.here hx rfl (hb hby djdk_43_method_13_code_19) rfl ?_
    show Steps p.tables e below (s₁.setTop (mkF m 20 #[.val (.ref a1), .val (.ref a2), .val (.int (5 : Int32))] [(.int (5 : Int32)), (.ref a2), (.int (101 : Int32))])) _
    refine X0.baloadBytes hx (j := (5 : Int32)) (v := (.int (101 : Int32))) (by rw [e0]; exact Ar31.1) (State.isArrayOf_alike hZ.alike Ar31.2.1) Ar31.2.2 hin31 hat31 (g := (mkF m 20 #[.val (.ref a1), .val (.ref a2), .val (.int (5 : Int32))] [(.int (5 : Int32)), (.ref a2), (.int (101 : Int32))])) rfl rfl (hb hby djdk_43_method_13_code_20) _ ?_
    show Steps p.tables e below (s₁.setTop (mkF m 21 #[.val (.ref a1), .val (.ref a2), .val (.int (5 : Int32))] [(.int (101 : Int32)), (.int (101 : Int32))])) _
    refine XS.icmpYes X0.here hx rfl (pc0 := 21) (pc' := 26) rfl (hb hby djdk_43_method_13_code_21) rfl (teq (by decide : (101 : Int32) = (101 : Int32))).1 (by decide) (by decide) ?_
    show Steps p.tables e below (s₁.setTop (mkF m 26 #[.val (.ref a1), .val (.ref a2), .val (.int (5 : Int32))] [])) _
    refine XS.iinc X0.here hx rfl (hb hby djdk_43_method_13_code_26) rfl (l' := #[.val (.ref a1), .val (.ref a2), .val (.int ((5 : Int32) + (1 : Int32)))]) rfl ?_
    show Steps p.tables e below (s₁.setTop (mkF m 29 #[.val (.ref a1), .val (.ref a2), .val (.int ((5 : Int32) + (1 : Int32)))] [])) _
    refine XS.goto X0.here hx rfl (pc0 := 29) (pc' := 9) rfl (hb hby djdk_43_method_13_code_29) (by decide) (by decide) ?_
    exact kk)
  have k33 : Go p e below (s₁.setTop (entryFrame m #[(.ref a1), (.ref a2)] 3)) (s₁.setTop (mkF m 9 #[.val (.ref a1), .val (.ref a2), .val (.int (6 : Int32))] [])) := k32
  obtain ⟨cl34, Ar34, -, S34, G34, -, -⟩ := id A1
  obtain ⟨cl35, Ar35, -, S35, G35, H35, -⟩ := id A1
  have hin35 : ¬ ((6 : Int32) < 0 ∨ cl35.slots.size ≤ ((6 : Int32)).toNatClampNeg) := inb_of S35 ⟨by decide, by decide⟩
  have hat35 : cl35.slots[((6 : Int32)).toNatClampNeg]? = some (.int (100 : Int32)) := H35.at hin35 rfl
  obtain ⟨cl36, Ar36, -, S36, G36, H36, -⟩ := id A2
  have hin36 : ¬ ((6 : Int32) < 0 ∨ cl36.slots.size ≤ ((6 : Int32)).toNatClampNeg) := inb_of S36 ⟨by decide, by decide⟩
  have hat36 : cl36.slots[((6 : Int32)).toNatClampNeg]? = some (.int (100 : Int32)) := H36.at hin36 rfl
  have k37 : Go p e below (s₁.setTop (entryFrame m #[(.ref a1), (.ref a2)] 3)) (s₁.setTop (mkF m 9 #[.val (.ref a1), .val (.ref a2), .val (.int ((6 : Int32) + (1 : Int32)))] [])) := fun t kk => k33 t (by
    show Steps p.tables e below (s₁.setTop (mkF m 9 #[.val (.ref a1), .val (.ref a2), .val (.int (6 : Int32))] [])) _
    refine XS.iloadN X0.here hx rfl (hb hby djdk_43_method_13_code_9) rfl ?_
    show Steps p.tables e below (s₁.setTop (mkF m 10 #[.val (.ref a1), .val (.ref a2), .val (.int (6 : Int32))] [(.int (6 : Int32))])) _
    refine XS.aloadN X0.here hx rfl (hb hby djdk_43_method_13_code_10) rfl rfl ?_
    show Steps p.tables e below (s₁.setTop (mkF m 11 #[.val (.ref a1), .val (.ref a2), .val (.int (6 : Int32))] [(.ref a1), (.int (6 : Int32))])) _
    refine X0.arraylength hx (by rw [e0]; exact Ar34.1) (State.isArrayOf_alike hZ.alike Ar34.2.1) (g := (mkF m 11 #[.val (.ref a1), .val (.ref a2), .val (.int (6 : Int32))] [(.ref a1), (.int (6 : Int32))])) rfl rfl (hb hby djdk_43_method_13_code_11) _ ?_
    rw [len_of S34 G34]
    show Steps p.tables e below (s₁.setTop (mkF m 12 #[.val (.ref a1), .val (.ref a2), .val (.int (6 : Int32))] [(.int (7 : Int32)), (.int (6 : Int32))])) _
    refine XS.icmpNo X0.here hx rfl (hb hby djdk_43_method_13_code_12) rfl (tlt (by decide : (6 : Int32) < (7 : Int32))).2.1 ?_
    show Steps p.tables e below (s₁.setTop (mkF m 15 #[.val (.ref a1), .val (.ref a2), .val (.int (6 : Int32))] [])) _
    refine XS.aloadN X0.here hx rfl (hb hby djdk_43_method_13_code_15) rfl rfl ?_
    show Steps p.tables e below (s₁.setTop (mkF m 16 #[.val (.ref a1), .val (.ref a2), .val (.int (6 : Int32))] [(.ref a1)])) _
    refine XS.iloadN X0.here hx rfl (hb hby djdk_43_method_13_code_16) rfl ?_
    show Steps p.tables e below (s₁.setTop (mkF m 17 #[.val (.ref a1), .val (.ref a2), .val (.int (6 : Int32))] [(.int (6 : Int32)), (.ref a1)])) _
    refine X0.baloadBytes hx (j := (6 : Int32)) (v := (.int (100 : Int32))) (by rw [e0]; exact Ar35.1) (State.isArrayOf_alike hZ.alike Ar35.2.1) Ar35.2.2 hin35 hat35 (g := (mkF m 17 #[.val (.ref a1), .val (.ref a2), .val (.int (6 : Int32))] [(.int (6 : Int32)), (.ref a1)])) rfl rfl (hb hby djdk_43_method_13_code_17) _ ?_
    show Steps p.tables e below (s₁.setTop (mkF m 18 #[.val (.ref a1), .val (.ref a2), .val (.int (6 : Int32))] [(.int (100 : Int32))])) _
    refine XS.aloadN X0.here hx rfl (hb hby djdk_43_method_13_code_18) rfl rfl ?_
    show Steps p.tables e below (s₁.setTop (mkF m 19 #[.val (.ref a1), .val (.ref a2), .val (.int (6 : Int32))] [(.ref a2), (.int (100 : Int32))])) _
    refine XS.iloadN X0.here hx rfl (hb hby djdk_43_method_13_code_19) rfl ?_
    show Steps p.tables e below (s₁.setTop (mkF m 20 #[.val (.ref a1), .val (.ref a2), .val (.int (6 : Int32))] [(.int (6 : Int32)), (.ref a2), (.int (100 : Int32))])) _
    refine X0.baloadBytes hx (j := (6 : Int32)) (v := (.int (100 : Int32))) (by rw [e0]; exact Ar36.1) (State.isArrayOf_alike hZ.alike Ar36.2.1) Ar36.2.2 hin36 hat36 (g := (mkF m 20 #[.val (.ref a1), .val (.ref a2), .val (.int (6 : Int32))] [(.int (6 : Int32)), (.ref a2), (.int (100 : Int32))])) rfl rfl (hb hby djdk_43_method_13_code_20) _ ?_
    show Steps p.tables e below (s₁.setTop (mkF m 21 #[.val (.ref a1), .val (.ref a2), .val (.int (6 : Int32))] [(.int (100 : Int32)), (.int (100 : Int32))])) _
    refine XS.icmpYes X0.here hx rfl (pc0 := 21) (pc' := 26) rfl (hb hby djdk_43_method_13_code_21) rfl (teq (by decide : (100 : Int32) = (100 : Int32))).1 (by decide) (by decide) ?_
    show Steps p.tables e below (s₁.setTop (mkF m 26 #[.val (.ref a1), .val (.ref a2), .val (.int (6 : Int32))] [])) _
    refine XS.iinc X0.here hx rfl (hb hby djdk_43_method_13_code_26) rfl (l' := #[.val (.ref a1), .val (.ref a2), .val (.int ((6 : Int32) + (1 : Int32)))]) rfl ?_
    show Steps p.tables e below (s₁.setTop (mkF m 29 #[.val (.ref a1), .val (.ref a2), .val (.int ((6 : Int32) + (1 : Int32)))] [])) _
    refine XS.goto X0.here hx rfl (pc0 := 29) (pc' := 9) rfl (hb hby djdk_43_method_13_code_29) (by decide) (by decide) ?_
    exact kk)
  have k38 : Go p e below (s₁.setTop (entryFrame m #[(.ref a1), (.ref a2)] 3)) (s₁.setTop (mkF m 9 #[.val (.ref a1), .val (.ref a2), .val (.int (7 : Int32))] [])) := k37
  obtain ⟨cl39, Ar39, -, S39, G39, -, -⟩ := id A1
  have k40 : Go p e below (s₁.setTop (entryFrame m #[(.ref a1), (.ref a2)] 3)) (s₁.setTop (mkF m 33 #[.val (.ref a1), .val (.ref a2), .val (.int (7 : Int32))] [(.int (1 : Int32))])) := fun t kk => k38 t (by
    show Steps p.tables e below (s₁.setTop (mkF m 9 #[.val (.ref a1), .val (.ref a2), .val (.int (7 : Int32))] [])) _
    refine XS.iloadN X0.here hx rfl (hb hby djdk_43_method_13_code_9) rfl ?_
    show Steps p.tables e below (s₁.setTop (mkF m 10 #[.val (.ref a1), .val (.ref a2), .val (.int (7 : Int32))] [(.int (7 : Int32))])) _
    refine XS.aloadN X0.here hx rfl (hb hby djdk_43_method_13_code_10) rfl rfl ?_
    show Steps p.tables e below (s₁.setTop (mkF m 11 #[.val (.ref a1), .val (.ref a2), .val (.int (7 : Int32))] [(.ref a1), (.int (7 : Int32))])) _
    refine X0.arraylength hx (by rw [e0]; exact Ar39.1) (State.isArrayOf_alike hZ.alike Ar39.2.1) (g := (mkF m 11 #[.val (.ref a1), .val (.ref a2), .val (.int (7 : Int32))] [(.ref a1), (.int (7 : Int32))])) rfl rfl (hb hby djdk_43_method_13_code_11) _ ?_
    rw [len_of S39 G39]
    show Steps p.tables e below (s₁.setTop (mkF m 12 #[.val (.ref a1), .val (.ref a2), .val (.int (7 : Int32))] [(.int (7 : Int32)), (.int (7 : Int32))])) _
    refine XS.icmpYes X0.here hx rfl (pc0 := 12) (pc' := 32) rfl (hb hby djdk_43_method_13_code_12) rfl (flt (by decide : ¬ ((7 : Int32) < (7 : Int32)))).2.1 (by decide) (by decide) ?_
    show Steps p.tables e below (s₁.setTop (mkF m 32 #[.val (.ref a1), .val (.ref a2), .val (.int (7 : Int32))] [])) _
    refine XS.iconst X0.here hx rfl (hb hby djdk_43_method_13_code_32) ?_
    exact kk)
  obtain ⟨fs, hr, hrun, hended, hW, hsame⟩ := X0.leave (v := some (.int (1 : Int32))) (fun h => by rw [Bd.returns] at h; cases h)
  refine ⟨_, _, k40 _ ?_, hrun, hended, _, _, rfl, ?_, ⟨_, rfl⟩, hW, hsame.mono (by decide) (by decide)⟩
  · show Steps p.tables e below (s₁.setTop (mkF m 33 #[.val (.ref a1), .val (.ref a2), .val (.int (7 : Int32))] [(.int (1 : Int32))])) _
    exact retN X0 hx (t := .boolean) Bd.returns (by simp) (hb hby djdk_43_method_13_code_33) hr
  · show QLY Z a1 a2 ck1 ck2 h0 n0 _ s₁.heap _
    rw [e0]
    exact ⟨rfl, rfl, rfl⟩
theorem djdk_42_method_66_code_0 : decode jdk_42_method_66_code 0 = .ok (.aload_n 0, 1) := by decide +kernel
theorem djdk_42_method_66_code_1 : decode jdk_42_method_66_code 1 = .ok (.aload_n 1, 1) := by decide +kernel
theorem djdk_42_method_66_code_2 : decode jdk_42_method_66_code 2 = .ok (.if_acmp .ne 5, 3) := by decide +kernel
theorem djdk_42_method_66_code_7 : decode jdk_42_method_66_code 7 = .ok (.aload_n 1, 1) := by decide +kernel
theorem djdk_42_method_66_code_8 : decode jdk_42_method_66_code 8 = .ok (.instanceof 10, 3) := by decide +kernel
theorem djdk_42_method_66_code_11 : decode jdk_42_method_66_code 11 = .ok (.ifCond .eq 43, 3) := by decide +kernel
theorem djdk_42_method_66_code_14 : decode jdk_42_method_66_code 14 = .ok (.aload_n 1, 1) := by decide +kernel
theorem djdk_42_method_66_code_15 : decode jdk_42_method_66_code 15 = .ok (.checkcast 10, 3) := by decide +kernel
theorem djdk_42_method_66_code_18 : decode jdk_42_method_66_code 18 = .ok (.astore_n 2, 1) := by decide +kernel
theorem djdk_42_method_66_code_19 : decode jdk_42_method_66_code 19 = .ok (.getstatic 38, 3) := by decide +kernel
theorem djdk_42_method_66_code_22 : decode jdk_42_method_66_code 22 = .ok (.ifCond .eq 14, 3) := by decide +kernel
theorem djdk_42_method_66_code_25 : decode jdk_42_method_66_code 25 = .ok (.aload_n 0, 1) := by decide +kernel
theorem djdk_42_method_66_code_26 : decode jdk_42_method_66_code 26 = .ok (.getfield 15, 3) := by decide +kernel
theorem djdk_42_method_66_code_29 : decode jdk_42_method_66_code 29 = .ok (.aload_n 2, 1) := by decide +kernel
theorem djdk_42_method_66_code_30 : decode jdk_42_method_66_code 30 = .ok (.getfield 15, 3) := by decide +kernel
theorem djdk_42_method_66_code_33 : decode jdk_42_method_66_code 33 = .ok (.if_icmp .ne 21, 3) := by decide +kernel
theorem djdk_42_method_66_code_36 : decode jdk_42_method_66_code 36 = .ok (.aload_n 0, 1) := by decide +kernel
theorem djdk_42_method_66_code_37 : decode jdk_42_method_66_code 37 = .ok (.getfield 9, 3) := by decide +kernel
theorem djdk_42_method_66_code_40 : decode jdk_42_method_66_code 40 = .ok (.aload_n 2, 1) := by decide +kernel
theorem djdk_42_method_66_code_41 : decode jdk_42_method_66_code 41 = .ok (.getfield 9, 3) := by decide +kernel
theorem djdk_42_method_66_code_44 : decode jdk_42_method_66_code 44 = .ok (.invokestatic 541, 3) := by decide +kernel
theorem pd_1 : parseMethodDescriptor "([B[B)Z" = some ⟨[(.array .byte), (.array .byte)], some .boolean⟩ := by decide +kernel
theorem djdk_42_method_66_code_47 : decode jdk_42_method_66_code 47 = .ok (.ifCond .eq 7, 3) := by decide +kernel
theorem djdk_42_method_66_code_54 : decode jdk_42_method_66_code 54 = .ok (.iconst 0, 1) := by decide +kernel
theorem djdk_42_method_66_code_55 : decode jdk_42_method_66_code 55 = .ok (.ireturn, 1) := by decide +kernel
theorem ef_rmEN (m : MethodId) (x0 : Addr) (x1 : Addr) : entryFrame m #[(.ref x0), (.ref x1)] 3 = mkF m 0 #[.val (.ref x0), .val (.ref x1), .unset] [] := by first | (simp [entryFrame, mkF, argsToLocals, Value.category]; done) | rfl
def QrmEN (Z : State) (a1 : Addr) (a2 : Addr) (bb1 : Addr) (bb2 : Addr) (ck1 : ClassId) (ck2 : ClassId) (lz1 : Int32) (lz2 : Int32) (vs1 : List Value) (vs2 : List Value) (cs : Int32) (h0 : Heap) (n0 : Nat) (v : Option Value) (h : Heap) (L : List Loc) : Prop := v = some (.int 0) ∧ L = [] ∧ h = h0
theorem pn_3 : plainName "java/lang/String" = true := by first | (simp [plainName, overriddenIn]; done) | decide +kernel
set_option maxRecDepth 65536 in
set_option maxHeartbeats 40000000 in
theorem rmEN (l : Launch) (Z : State) (a0 : Array Value) (hw : ∀ d ∈ tables_1, d.before a0 Z = true) (ws : List Jvm.Cond) (a1 : Addr) (a2 : Addr) (bb1 : Addr) (bb2 : Addr) (ck1 : ClassId) (ck2 : ClassId) (lz1 : Int32) (lz2 : Int32) (vs1 : List Value) (vs2 : List Value) (cs : Int32) (h0 : Heap) (n0 : Nat) (Z0 : n0 ≤ h0.size) (E2 : Exa Z h0 a2 "java/lang/String") (C1 : Fld Z h0 a1 "java/lang/String" "coder" "B" (.int (0 : Int32))) (C2 : Fld Z h0 a2 "java/lang/String" "coder" "B" (.int (0 : Int32))) (V1 : Fld Z h0 a1 "java/lang/String" "value" "[B" (.ref bb1)) (V2 : Fld Z h0 a2 "java/lang/String" "value" "[B" (.ref bb2)) (A1 : Arv Z h0 bb1 ck1 .byte lz1 vs1 (.int (0 : Int32))) (A2 : Arv Z h0 bb2 ck2 .byte lz2 vs2 (.int (0 : Int32))) (S1 : Sta Z h0 "java/lang/String" "COMPACT_STRINGS" "Z" (.int cs)) (hs1 : ¬ (cs = (0 : Int32))) (hzz : ¬ (lz1 = lz2)) (hzn : lz1.toNatClampNeg ≠ lz2.toNatClampNeg) :
    MetFree l (⟨"java/lang/String", "equals", "(Ljava/lang/Object;)Z"⟩ : MethodName) (head1 (Jvm.Cond.code (⟨"java/lang/String", "equals", "(Ljava/lang/Object;)Z"⟩ : MethodName) jdk_42_method_66_code 3 (some .boolean) :: ws) ({ frames := 1, cells := 0, slots := 0, locals := 14 } : Room)) (fun a U => a = #[(.ref a1), (.ref a2)] ∧ Z.Warmed39 U.vm ∧ U.heap = h0) (fun _ _ _ _ _ => True) (fun _ U o U' => ∃ v L, o = .returned v ∧ QrmEN Z a1 a2 bb1 bb2 ck1 ck2 lz1 lz2 vs1 vs2 cs h0 n0 v U'.heap L ∧ FrameEnd U o U' L ({ frames := 1, cells := 0, slots := 0, locals := 14 } : Room).cells ({ frames := 1, cells := 0, slots := 0, locals := 14 } : Room).slots) := by
  refine MetFree.of_bodySF (plainFor_of_name pn_3) hisR ?_
  intro p e s m args below meth c s₁ Bd hml0 hP hK
  obtain ⟨rfl, hZ, hh⟩ := hP
  have hx := Bd.exec
  have hby := Bd.bytes
  have hml : c.maxLocals = 3 := hml0
  have hown : s.vm.findClass "java/lang/String" = some m.cls := findClass_of_methodNamed Bd.named
  have hnm := (name_of_methodNamed Bd.named Bd.method).1
  have X0 : Stand p l e ({ frames := 1, cells := 0, slots := 0, locals := 14 } : Room) s m #[(.ref a1), (.ref a2)] below meth c s₁ [] 0 0 := Stand.of_body Bd
  have e0 : s₁.heap = h0 := by rw [← hh, Bd.state]; rfl
  have N0 := Fr.nil n0
  have k0 : Go p e below (s₁.setTop (entryFrame m #[(.ref a1), (.ref a2)] 3)) (s₁.setTop (mkF m 0 #[.val (.ref a1), .val (.ref a2), .unset] [])) := fun t k => castTop (ef_rmEN m a1 a2) k
  have hne : ¬ (Value.ref a1 = Value.ref a2) := fun q => (V1.ne V2 (fun y => arv_ne A1 A2 (Or.inl hzn) (Value.ref.inj y))) (Value.ref.inj q)
  have k1 : Go p e below (s₁.setTop (entryFrame m #[(.ref a1), (.ref a2)] 3)) (s₁.setTop (mkF m 8 #[.val (.ref a1), .val (.ref a2), .unset] [(.ref a2)])) := fun t kk => k0 t (by
    show Steps p.tables e below (s₁.setTop (mkF m 0 #[.val (.ref a1), .val (.ref a2), .unset] [])) _
    refine XS.aloadN X0.here hx rfl (hb hby djdk_42_method_66_code_0) rfl rfl ?_
    show Steps p.tables e below (s₁.setTop (mkF m 1 #[.val (.ref a1), .val (.ref a2), .unset] [(.ref a1)])) _
    refine XS.aloadN X0.here hx rfl (hb hby djdk_42_method_66_code_1) rfl rfl ?_
    show Steps p.tables e below (s₁.setTop (mkF m 2 #[.val (.ref a1), .val (.ref a2), .unset] [(.ref a2), (.ref a1)])) _
    refine Jvm.RoadKit.acmp (g := (mkF m 2 #[.val (.ref a1), .val (.ref a2), .unset] [(.ref a2), (.ref a1)])) X0 hx rfl rfl rfl (pc0 := 2) (pc' := 7) (same := false) rfl (hb hby djdk_42_method_66_code_2) rfl (decide_eq_false hne) (by decide) (by decide) ?_
    show Steps p.tables e below (s₁.setTop (mkF m 7 #[.val (.ref a1), .val (.ref a2), .unset] [])) _
    refine XS.aloadN X0.here hx rfl (hb hby djdk_42_method_66_code_7) rfl rfl ?_
    exact kk)
  obtain ⟨T2, X2, e2, st2⟩ := instY X0 hx hZ hown (hw _ (List.mem_of_getElem? (i := 51) rfl)) e0 (Ins.self E2) (g := (mkF m 8 #[.val (.ref a1), .val (.ref a2), .unset] [(.ref a2)])) rfl rfl (hb hby djdk_42_method_66_code_8)
  have k2 : Go p e below (s₁.setTop (entryFrame m #[(.ref a1), (.ref a2)] 3)) (T2.setTop (mkF m 11 #[.val (.ref a1), .val (.ref a2), .unset] [(.int (1 : Int32))])) := fun t kk => k1 t (st2 t kk)
  have k3 : Go p e below (s₁.setTop (entryFrame m #[(.ref a1), (.ref a2)] 3)) (T2.setTop (mkF m 15 #[.val (.ref a1), .val (.ref a2), .unset] [(.ref a2)])) := fun t kk => k2 t (by
    show Steps p.tables e below (T2.setTop (mkF m 11 #[.val (.ref a1), .val (.ref a2), .unset] [(.int (1 : Int32))])) _
    refine XS.ifNo X2.here hx rfl (hb hby djdk_42_method_66_code_11) rfl ((if0 _ _).trans (feq (by decide : ¬ ((1 : Int32) = (0 : Int32)))).1) ?_
    show Steps p.tables e below (T2.setTop (mkF m 14 #[.val (.ref a1), .val (.ref a2), .unset] [])) _
    refine XS.aloadN X2.here hx rfl (hb hby djdk_42_method_66_code_14) rfl rfl ?_
    exact kk)
  obtain ⟨T4, X4, e4, st4⟩ := castY X2 hx hZ hown (hw _ (List.mem_of_getElem? (i := 51) rfl)) e2 (Ins.self E2) (g := (mkF m 15 #[.val (.ref a1), .val (.ref a2), .unset] [(.ref a2)])) rfl rfl (hb hby djdk_42_method_66_code_15)
  have k4 : Go p e below (s₁.setTop (entryFrame m #[(.ref a1), (.ref a2)] 3)) (T4.setTop (mkF m 18 #[.val (.ref a1), .val (.ref a2), .unset] [(.ref a2)])) := fun t kk => k3 t (st4 t kk)
  have k5 : Go p e below (s₁.setTop (entryFrame m #[(.ref a1), (.ref a2)] 3)) (T4.setTop (mkF m 19 #[.val (.ref a1), .val (.ref a2), .val (.ref a2)] [])) := fun t kk => k4 t (by
    show Steps p.tables e below (T4.setTop (mkF m 18 #[.val (.ref a1), .val (.ref a2), .unset] [(.ref a2)])) _
    refine XS.astoreN X4.here hx rfl (hb hby djdk_42_method_66_code_18) rfl rfl (l' := #[.val (.ref a1), .val (.ref a2), .val (.ref a2)]) rfl ?_
    exact kk)
  obtain ⟨T6, X6, e6, st6⟩ := getS2 X4 hx hZ hown (host := "") (Or.inl (hw _ (List.mem_of_getElem? (i := 53) rfl))) Via.refl e4 S1 (g := (mkF m 19 #[.val (.ref a1), .val (.ref a2), .val (.ref a2)] [])) rfl (hb hby djdk_42_method_66_code_19)
  have k6 : Go p e below (s₁.setTop (entryFrame m #[(.ref a1), (.ref a2)] 3)) (T6.setTop (mkF m 22 #[.val (.ref a1), .val (.ref a2), .val (.ref a2)] [(.int cs)])) := fun t kk => k5 t (st6 t kk)
  have k7 : Go p e below (s₁.setTop (entryFrame m #[(.ref a1), (.ref a2)] 3)) (T6.setTop (mkF m 26 #[.val (.ref a1), .val (.ref a2), .val (.ref a2)] [(.ref a1)])) := fun t kk => k6 t (by
    show Steps p.tables e below (T6.setTop (mkF m 22 #[.val (.ref a1), .val (.ref a2), .val (.ref a2)] [(.int cs)])) _
    refine XS.ifNo X6.here hx rfl (hb hby djdk_42_method_66_code_22) rfl ((if0 _ _).trans (feq hs1).1) ?_
    show Steps p.tables e below (T6.setTop (mkF m 25 #[.val (.ref a1), .val (.ref a2), .val (.ref a2)] [])) _
    refine XS.aloadN X6.here hx rfl (hb hby djdk_42_method_66_code_25) rfl rfl ?_
    exact kk)
  obtain ⟨T8, X8, e8, st8⟩ := getF X6 hx hZ hown (host := "") (Or.inl (hw _ (List.mem_of_getElem? (i := 54) rfl))) Via.refl e6 C1 (g := (mkF m 26 #[.val (.ref a1), .val (.ref a2), .val (.ref a2)] [(.ref a1)])) rfl rfl (hb hby djdk_42_method_66_code_26)
  have k8 : Go p e below (s₁.setTop (entryFrame m #[(.ref a1), (.ref a2)] 3)) (T8.setTop (mkF m 29 #[.val (.ref a1), .val (.ref a2), .val (.ref a2)] [(.int (0 : Int32))])) := fun t kk => k7 t (st8 t kk)
  have k9 : Go p e below (s₁.setTop (entryFrame m #[(.ref a1), (.ref a2)] 3)) (T8.setTop (mkF m 30 #[.val (.ref a1), .val (.ref a2), .val (.ref a2)] [(.ref a2), (.int (0 : Int32))])) := fun t kk => k8 t (by
    show Steps p.tables e below (T8.setTop (mkF m 29 #[.val (.ref a1), .val (.ref a2), .val (.ref a2)] [(.int (0 : Int32))])) _
    refine XS.aloadN X8.here hx rfl (hb hby djdk_42_method_66_code_29) rfl rfl ?_
    exact kk)
  obtain ⟨T10, X10, e10, st10⟩ := getF X8 hx hZ hown (host := "") (Or.inl (hw _ (List.mem_of_getElem? (i := 54) rfl))) Via.refl e8 C2 (g := (mkF m 30 #[.val (.ref a1), .val (.ref a2), .val (.ref a2)] [(.ref a2), (.int (0 : Int32))])) rfl rfl (hb hby djdk_42_method_66_code_30)
  have k10 : Go p e below (s₁.setTop (entryFrame m #[(.ref a1), (.ref a2)] 3)) (T10.setTop (mkF m 33 #[.val (.ref a1), .val (.ref a2), .val (.ref a2)] [(.int (0 : Int32)), (.int (0 : Int32))])) := fun t kk => k9 t (st10 t kk)
  have k11 : Go p e below (s₁.setTop (entryFrame m #[(.ref a1), (.ref a2)] 3)) (T10.setTop (mkF m 37 #[.val (.ref a1), .val (.ref a2), .val (.ref a2)] [(.ref a1)])) := fun t kk => k10 t (by
    show Steps p.tables e below (T10.setTop (mkF m 33 #[.val (.ref a1), .val (.ref a2), .val (.ref a2)] [(.int (0 : Int32)), (.int (0 : Int32))])) _
    refine XS.icmpNo X10.here hx rfl (hb hby djdk_42_method_66_code_33) rfl (teq (by decide : (0 : Int32) = (0 : Int32))).2 ?_
    show Steps p.tables e below (T10.setTop (mkF m 36 #[.val (.ref a1), .val (.ref a2), .val (.ref a2)] [])) _
    refine XS.aloadN X10.here hx rfl (hb hby djdk_42_method_66_code_36) rfl rfl ?_
    exact kk)
  obtain ⟨T12, X12, e12, st12⟩ := getF X10 hx hZ hown (host := "") (Or.inl (hw _ (List.mem_of_getElem? (i := 55) rfl))) Via.refl e10 V1 (g := (mkF m 37 #[.val (.ref a1), .val (.ref a2), .val (.ref a2)] [(.ref a1)])) rfl rfl (hb hby djdk_42_method_66_code_37)
  have k12 : Go p e below (s₁.setTop (entryFrame m #[(.ref a1), (.ref a2)] 3)) (T12.setTop (mkF m 40 #[.val (.ref a1), .val (.ref a2), .val (.ref a2)] [(.ref bb1)])) := fun t kk => k11 t (st12 t kk)
  have k13 : Go p e below (s₁.setTop (entryFrame m #[(.ref a1), (.ref a2)] 3)) (T12.setTop (mkF m 41 #[.val (.ref a1), .val (.ref a2), .val (.ref a2)] [(.ref a2), (.ref bb1)])) := fun t kk => k12 t (by
    show Steps p.tables e below (T12.setTop (mkF m 40 #[.val (.ref a1), .val (.ref a2), .val (.ref a2)] [(.ref bb1)])) _
    refine XS.aloadN X12.here hx rfl (hb hby djdk_42_method_66_code_40) rfl rfl ?_
    exact kk)
  obtain ⟨T14, X14, e14, st14⟩ := getF X12 hx hZ hown (host := "") (Or.inl (hw _ (List.mem_of_getElem? (i := 55) rfl))) Via.refl e12 V2 (g := (mkF m 41 #[.val (.ref a1), .val (.ref a2), .val (.ref a2)] [(.ref a2), (.ref bb1)])) rfl rfl (hb hby djdk_42_method_66_code_41)
  have k14 : Go p e below (s₁.setTop (entryFrame m #[(.ref a1), (.ref a2)] 3)) (T14.setTop (mkF m 44 #[.val (.ref a1), .val (.ref a2), .val (.ref a2)] [(.ref bb2), (.ref bb1)])) := fun t kk => k13 t (st14 t kk)
  obtain ⟨_, _, ⟨T15, L15, kx15, nx15⟩, -, X15, ⟨Lc15, hQ15, l15, y15, z15⟩, st15⟩ := Jvm.LawKit.callS X14 hx (y := (⟨"java/lang/StringLatin1", "equals", "([B[B)Z"⟩ : MethodName)) hown (mvT hZ (hw _ (List.mem_of_getElem? (i := 56) rfl))) (mvT hZ (hw _ (List.mem_of_getElem? (i := 57) rfl))) (mvT hZ (hw _ (List.mem_of_getElem? (i := 58) rfl))) (mvT hZ (hw _ (List.mem_of_getElem? (i := 59) rfl))) (by decide) (backOf (W := 0) (rmLN l Z a0 hw [] bb1 bb2 ck1 ck2 lz1 lz2 vs1 vs2 h0 n0 Z0 A1 A2 hzz) hZ (hw _ (List.mem_of_getElem? (i := 59) rfl)) (hw _ (List.mem_of_getElem? (i := 58) rfl)) (by decide) (by decide)) (g := (mkF m 44 #[.val (.ref a1), .val (.ref a2), .val (.ref a2)] [(.ref bb2), (.ref bb1)])) rfl (by rw [hml]; rfl) (argsL := [(.ref bb1), (.ref bb2)]) (rest := []) (lenOf pd_1 rfl) rfl (by show 2 * 0 + _ ≤ _; exact Nat.le_of_eq rfl) (hb hby djdk_42_method_66_code_44) (fun _ _ => ⟨rfl, e14, (by decide : 0 + 0 ≤ _), (by decide : 0 + 0 ≤ _)⟩)
  dsimp only [Pt.U, Pt.locs, Pt.cells, Pt.slots] at X15 l15 y15 z15 st15 hQ15
  subst l15 y15 z15
  obtain ⟨rfl, rfl, e15⟩ := hQ15
  try rw [List.append_nil] at X15
  have k15 : Go p e below (s₁.setTop (entryFrame m #[(.ref a1), (.ref a2)] 3)) (T15.setTop (mkF m 47 #[.val (.ref a1), .val (.ref a2), .val (.ref a2)] [(.int (0 : Int32))])) := fun t kk => k14 t (st15 t kk)
  have k16 : Go p e below (s₁.setTop (entryFrame m #[(.ref a1), (.ref a2)] 3)) (T15.setTop (mkF m 55 #[.val (.ref a1), .val (.ref a2), .val (.ref a2)] [(.int (0 : Int32))])) := fun t kk => k15 t (by
    show Steps p.tables e below (T15.setTop (mkF m 47 #[.val (.ref a1), .val (.ref a2), .val (.ref a2)] [(.int (0 : Int32))])) _
    refine XS.ifYes X15.here hx rfl (pc0 := 47) (pc' := 54) rfl (hb hby djdk_42_method_66_code_47) rfl ((if0 _ _).trans (teq (by decide : (0 : Int32) = (0 : Int32))).1) (by decide) (by decide) ?_
    show Steps p.tables e below (T15.setTop (mkF m 54 #[.val (.ref a1), .val (.ref a2), .val (.ref a2)] [])) _
    refine XS.iconst X15.here hx rfl (hb hby djdk_42_method_66_code_54) ?_
    exact kk)
  obtain ⟨fs, hr, hrun, hended, hW, hsame⟩ := X15.leave (v := some (.int (0 : Int32))) (fun h => by rw [Bd.returns] at h; cases h)
  refine ⟨_, _, k16 _ ?_, hrun, hended, _, _, rfl, ?_, ⟨_, rfl⟩, hW, hsame.mono (by decide) (by decide)⟩
  · show Steps p.tables e below (T15.setTop (mkF m 55 #[.val (.ref a1), .val (.ref a2), .val (.ref a2)] [(.int (0 : Int32))])) _
    exact retN X15 hx (t := .boolean) Bd.returns (by simp) (hb hby djdk_42_method_66_code_55) hr
  · show QrmEN Z a1 a2 bb1 bb2 ck1 ck2 lz1 lz2 vs1 vs2 cs h0 n0 _ T15.heap _
    rw [e15]
    exact ⟨rfl, rfl, rfl⟩
theorem djdk_42_method_66_code_5 : decode jdk_42_method_66_code 5 = .ok (.iconst 1, 1) := by decide +kernel
theorem djdk_42_method_66_code_6 : decode jdk_42_method_66_code 6 = .ok (.ireturn, 1) := by decide +kernel
theorem djdk_42_method_66_code_50 : decode jdk_42_method_66_code 50 = .ok (.iconst 1, 1) := by decide +kernel
theorem djdk_42_method_66_code_51 : decode jdk_42_method_66_code 51 = .ok (.goto 4, 3) := by decide +kernel
theorem ef_rmEY (m : MethodId) (x0 : Addr) (x1 : Addr) : entryFrame m #[(.ref x0), (.ref x1)] 3 = mkF m 0 #[.val (.ref x0), .val (.ref x1), .unset] [] := by first | (simp [entryFrame, mkF, argsToLocals, Value.category]; done) | rfl
def QrmEY (Z : State) (a1 : Addr) (a2 : Addr) (bb1 : Addr) (bb2 : Addr) (ck1 : ClassId) (ck2 : ClassId) (cs : Int32) (h0 : Heap) (n0 : Nat) (v : Option Value) (h : Heap) (L : List Loc) : Prop := v = some (.int 1) ∧ L = [] ∧ h = h0
set_option maxRecDepth 65536 in
set_option maxHeartbeats 40000000 in
theorem rmEY (l : Launch) (Z : State) (a0 : Array Value) (hw : ∀ d ∈ tables_1, d.before a0 Z = true) (ws : List Jvm.Cond) (a1 : Addr) (a2 : Addr) (bb1 : Addr) (bb2 : Addr) (ck1 : ClassId) (ck2 : ClassId) (cs : Int32) (h0 : Heap) (n0 : Nat) (Z0 : n0 ≤ h0.size) (E2 : Exa Z h0 a2 "java/lang/String") (C1 : Fld Z h0 a1 "java/lang/String" "coder" "B" (.int (0 : Int32))) (C2 : Fld Z h0 a2 "java/lang/String" "coder" "B" (.int (0 : Int32))) (V1 : Fld Z h0 a1 "java/lang/String" "value" "[B" (.ref bb1)) (V2 : Fld Z h0 a2 "java/lang/String" "value" "[B" (.ref bb2)) (A1 : Arv Z h0 bb1 ck1 .byte (7 : Int32) [(.int (68 : Int32)), (.int (101 : Int32)), (.int (108 : Int32)), (.int (101 : Int32)), (.int (116 : Int32)), (.int (101 : Int32)), (.int (100 : Int32))] (.int (0 : Int32))) (A2 : Arv Z h0 bb2 ck2 .byte (7 : Int32) [(.int (68 : Int32)), (.int (101 : Int32)), (.int (108 : Int32)), (.int (101 : Int32)), (.int (116 : Int32)), (.int (101 : Int32)), (.int (100 : Int32))] (.int (0 : Int32))) (S1 : Sta Z h0 "java/lang/String" "COMPACT_STRINGS" "Z" (.int cs)) (hs1 : ¬ (cs = (0 : Int32))) :
    MetFree l (⟨"java/lang/String", "equals", "(Ljava/lang/Object;)Z"⟩ : MethodName) (head1 (Jvm.Cond.code (⟨"java/lang/String", "equals", "(Ljava/lang/Object;)Z"⟩ : MethodName) jdk_42_method_66_code 3 (some .boolean) :: ws) ({ frames := 1, cells := 0, slots := 0, locals := 14 } : Room)) (fun a U => a = #[(.ref a1), (.ref a2)] ∧ Z.Warmed39 U.vm ∧ U.heap = h0) (fun _ _ _ _ _ => True) (fun _ U o U' => ∃ v L, o = .returned v ∧ QrmEY Z a1 a2 bb1 bb2 ck1 ck2 cs h0 n0 v U'.heap L ∧ FrameEnd U o U' L ({ frames := 1, cells := 0, slots := 0, locals := 14 } : Room).cells ({ frames := 1, cells := 0, slots := 0, locals := 14 } : Room).slots) := by
  refine MetFree.of_bodySF (plainFor_of_name pn_3) hisR ?_
  intro p e s m args below meth c s₁ Bd hml0 hP hK
  obtain ⟨rfl, hZ, hh⟩ := hP
  have hx := Bd.exec
  have hby := Bd.bytes
  have hml : c.maxLocals = 3 := hml0
  have hown : s.vm.findClass "java/lang/String" = some m.cls := findClass_of_methodNamed Bd.named
  have hnm := (name_of_methodNamed Bd.named Bd.method).1
  have X0 : Stand p l e ({ frames := 1, cells := 0, slots := 0, locals := 14 } : Room) s m #[(.ref a1), (.ref a2)] below meth c s₁ [] 0 0 := Stand.of_body Bd
  have e0 : s₁.heap = h0 := by rw [← hh, Bd.state]; rfl
  have N0 := Fr.nil n0
  have k0 : Go p e below (s₁.setTop (entryFrame m #[(.ref a1), (.ref a2)] 3)) (s₁.setTop (mkF m 0 #[.val (.ref a1), .val (.ref a2), .unset] [])) := fun t k => castTop (ef_rmEY m a1 a2) k
  have k2 : Go p e below (s₁.setTop (entryFrame m #[(.ref a1), (.ref a2)] 3)) (s₁.setTop (mkF m 2 #[.val (.ref a1), .val (.ref a2), .unset] [(.ref a2), (.ref a1)])) := fun t kk => k0 t (by
    show Steps p.tables e below (s₁.setTop (mkF m 0 #[.val (.ref a1), .val (.ref a2), .unset] [])) _
    refine XS.aloadN X0.here hx rfl (hb hby djdk_42_method_66_code_0) rfl rfl ?_
    show Steps p.tables e below (s₁.setTop (mkF m 1 #[.val (.ref a1), .val (.ref a2), .unset] [(.ref a1)])) _
    refine XS.aloadN X0.here hx rfl (hb hby djdk_42_method_66_code_1) rfl rfl ?_
    exact kk)
  by_cases hc2_1 : (Value.ref a1) = (Value.ref a2)
  · have k3 : Go p e below (s₁.setTop (entryFrame m #[(.ref a1), (.ref a2)] 3)) (s₁.setTop (mkF m 6 #[.val (.ref a1), .val (.ref a2), .unset] [(.int (1 : Int32))])) := fun t kk => k2 t (by
      show Steps p.tables e below (s₁.setTop (mkF m 2 #[.val (.ref a1), .val (.ref a2), .unset] [(.ref a2), (.ref a1)])) _
      refine Jvm.RoadKit.acmp (g := (mkF m 2 #[.val (.ref a1), .val (.ref a2), .unset] [(.ref a2), (.ref a1)])) X0 hx rfl rfl rfl (pc0 := 2) (pc' := 5) (same := true) rfl (hb hby djdk_42_method_66_code_2) rfl (decide_eq_true hc2_1) (by decide) (by decide) ?_
      show Steps p.tables e below (s₁.setTop (mkF m 5 #[.val (.ref a1), .val (.ref a2), .unset] [])) _
      refine XS.iconst X0.here hx rfl (hb hby djdk_42_method_66_code_5) ?_
      exact kk)
    obtain ⟨fs, hr, hrun, hended, hW, hsame⟩ := X0.leave (v := some (.int (1 : Int32))) (fun h => by rw [Bd.returns] at h; cases h)
    refine ⟨_, _, k3 _ ?_, hrun, hended, _, _, rfl, ?_, ⟨_, rfl⟩, hW, hsame.mono (by decide) (by decide)⟩
    · show Steps p.tables e below (s₁.setTop (mkF m 6 #[.val (.ref a1), .val (.ref a2), .unset] [(.int (1 : Int32))])) _
      exact retN X0 hx (t := .boolean) Bd.returns (by simp) (hb hby djdk_42_method_66_code_6) hr
    · show QrmEY Z a1 a2 bb1 bb2 ck1 ck2 cs h0 n0 _ s₁.heap _
      rw [e0]
      exact ⟨rfl, rfl, rfl⟩
  · have k5 : Go p e below (s₁.setTop (entryFrame m #[(.ref a1), (.ref a2)] 3)) (s₁.setTop (mkF m 8 #[.val (.ref a1), .val (.ref a2), .unset] [(.ref a2)])) := fun t kk => k2 t (by
      show Steps p.tables e below (s₁.setTop (mkF m 2 #[.val (.ref a1), .val (.ref a2), .unset] [(.ref a2), (.ref a1)])) _
      refine Jvm.RoadKit.acmp (g := (mkF m 2 #[.val (.ref a1), .val (.ref a2), .unset] [(.ref a2), (.ref a1)])) X0 hx rfl rfl rfl (pc0 := 2) (pc' := 7) (same := false) rfl (hb hby djdk_42_method_66_code_2) rfl (decide_eq_false hc2_1) (by decide) (by decide) ?_
      show Steps p.tables e below (s₁.setTop (mkF m 7 #[.val (.ref a1), .val (.ref a2), .unset] [])) _
      refine XS.aloadN X0.here hx rfl (hb hby djdk_42_method_66_code_7) rfl rfl ?_
      exact kk)
    obtain ⟨T6, X6, e6, st6⟩ := instY X0 hx hZ hown (hw _ (List.mem_of_getElem? (i := 51) rfl)) e0 (Ins.self E2) (g := (mkF m 8 #[.val (.ref a1), .val (.ref a2), .unset] [(.ref a2)])) rfl rfl (hb hby djdk_42_method_66_code_8)
    have k6 : Go p e below (s₁.setTop (entryFrame m #[(.ref a1), (.ref a2)] 3)) (T6.setTop (mkF m 11 #[.val (.ref a1), .val (.ref a2), .unset] [(.int (1 : Int32))])) := fun t kk => k5 t (st6 t kk)
    have k7 : Go p e below (s₁.setTop (entryFrame m #[(.ref a1), (.ref a2)] 3)) (T6.setTop (mkF m 15 #[.val (.ref a1), .val (.ref a2), .unset] [(.ref a2)])) := fun t kk => k6 t (by
      show Steps p.tables e below (T6.setTop (mkF m 11 #[.val (.ref a1), .val (.ref a2), .unset] [(.int (1 : Int32))])) _
      refine XS.ifNo X6.here hx rfl (hb hby djdk_42_method_66_code_11) rfl ((if0 _ _).trans (feq (by decide : ¬ ((1 : Int32) = (0 : Int32)))).1) ?_
      show Steps p.tables e below (T6.setTop (mkF m 14 #[.val (.ref a1), .val (.ref a2), .unset] [])) _
      refine XS.aloadN X6.here hx rfl (hb hby djdk_42_method_66_code_14) rfl rfl ?_
      exact kk)
    obtain ⟨T8, X8, e8, st8⟩ := castY X6 hx hZ hown (hw _ (List.mem_of_getElem? (i := 51) rfl)) e6 (Ins.self E2) (g := (mkF m 15 #[.val (.ref a1), .val (.ref a2), .unset] [(.ref a2)])) rfl rfl (hb hby djdk_42_method_66_code_15)
    have k8 : Go p e below (s₁.setTop (entryFrame m #[(.ref a1), (.ref a2)] 3)) (T8.setTop (mkF m 18 #[.val (.ref a1), .val (.ref a2), .unset] [(.ref a2)])) := fun t kk => k7 t (st8 t kk)
    have k9 : Go p e below (s₁.setTop (entryFrame m #[(.ref a1), (.ref a2)] 3)) (T8.setTop (mkF m 19 #[.val (.ref a1), .val (.ref a2), .val (.ref a2)] [])) := fun t kk => k8 t (by
      show Steps p.tables e below (T8.setTop (mkF m 18 #[.val (.ref a1), .val (.ref a2), .unset] [(.ref a2)])) _
      refine XS.astoreN X8.here hx rfl (hb hby djdk_42_method_66_code_18) rfl rfl (l' := #[.val (.ref a1), .val (.ref a2), .val (.ref a2)]) rfl ?_
      exact kk)
    obtain ⟨T10, X10, e10, st10⟩ := getS2 X8 hx hZ hown (host := "") (Or.inl (hw _ (List.mem_of_getElem? (i := 53) rfl))) Via.refl e8 S1 (g := (mkF m 19 #[.val (.ref a1), .val (.ref a2), .val (.ref a2)] [])) rfl (hb hby djdk_42_method_66_code_19)
    have k10 : Go p e below (s₁.setTop (entryFrame m #[(.ref a1), (.ref a2)] 3)) (T10.setTop (mkF m 22 #[.val (.ref a1), .val (.ref a2), .val (.ref a2)] [(.int cs)])) := fun t kk => k9 t (st10 t kk)
    have k11 : Go p e below (s₁.setTop (entryFrame m #[(.ref a1), (.ref a2)] 3)) (T10.setTop (mkF m 26 #[.val (.ref a1), .val (.ref a2), .val (.ref a2)] [(.ref a1)])) := fun t kk => k10 t (by
      show Steps p.tables e below (T10.setTop (mkF m 22 #[.val (.ref a1), .val (.ref a2), .val (.ref a2)] [(.int cs)])) _
      refine XS.ifNo X10.here hx rfl (hb hby djdk_42_method_66_code_22) rfl ((if0 _ _).trans (feq hs1).1) ?_
      show Steps p.tables e below (T10.setTop (mkF m 25 #[.val (.ref a1), .val (.ref a2), .val (.ref a2)] [])) _
      refine XS.aloadN X10.here hx rfl (hb hby djdk_42_method_66_code_25) rfl rfl ?_
      exact kk)
    obtain ⟨T12, X12, e12, st12⟩ := getF X10 hx hZ hown (host := "") (Or.inl (hw _ (List.mem_of_getElem? (i := 54) rfl))) Via.refl e10 C1 (g := (mkF m 26 #[.val (.ref a1), .val (.ref a2), .val (.ref a2)] [(.ref a1)])) rfl rfl (hb hby djdk_42_method_66_code_26)
    have k12 : Go p e below (s₁.setTop (entryFrame m #[(.ref a1), (.ref a2)] 3)) (T12.setTop (mkF m 29 #[.val (.ref a1), .val (.ref a2), .val (.ref a2)] [(.int (0 : Int32))])) := fun t kk => k11 t (st12 t kk)
    have k13 : Go p e below (s₁.setTop (entryFrame m #[(.ref a1), (.ref a2)] 3)) (T12.setTop (mkF m 30 #[.val (.ref a1), .val (.ref a2), .val (.ref a2)] [(.ref a2), (.int (0 : Int32))])) := fun t kk => k12 t (by
      show Steps p.tables e below (T12.setTop (mkF m 29 #[.val (.ref a1), .val (.ref a2), .val (.ref a2)] [(.int (0 : Int32))])) _
      refine XS.aloadN X12.here hx rfl (hb hby djdk_42_method_66_code_29) rfl rfl ?_
      exact kk)
    obtain ⟨T14, X14, e14, st14⟩ := getF X12 hx hZ hown (host := "") (Or.inl (hw _ (List.mem_of_getElem? (i := 54) rfl))) Via.refl e12 C2 (g := (mkF m 30 #[.val (.ref a1), .val (.ref a2), .val (.ref a2)] [(.ref a2), (.int (0 : Int32))])) rfl rfl (hb hby djdk_42_method_66_code_30)
    have k14 : Go p e below (s₁.setTop (entryFrame m #[(.ref a1), (.ref a2)] 3)) (T14.setTop (mkF m 33 #[.val (.ref a1), .val (.ref a2), .val (.ref a2)] [(.int (0 : Int32)), (.int (0 : Int32))])) := fun t kk => k13 t (st14 t kk)
    have k15 : Go p e below (s₁.setTop (entryFrame m #[(.ref a1), (.ref a2)] 3)) (T14.setTop (mkF m 37 #[.val (.ref a1), .val (.ref a2), .val (.ref a2)] [(.ref a1)])) := fun t kk => k14 t (by
      show Steps p.tables e below (T14.setTop (mkF m 33 #[.val (.ref a1), .val (.ref a2), .val (.ref a2)] [(.int (0 : Int32)), (.int (0 : Int32))])) _
      refine XS.icmpNo X14.here hx rfl (hb hby djdk_42_method_66_code_33) rfl (teq (by decide : (0 : Int32) = (0 : Int32))).2 ?_
      show Steps p.tables e below (T14.setTop (mkF m 36 #[.val (.ref a1), .val (.ref a2), .val (.ref a2)] [])) _
      refine XS.aloadN X14.here hx rfl (hb hby djdk_42_method_66_code_36) rfl rfl ?_
      exact kk)
    obtain ⟨T16, X16, e16, st16⟩ := getF X14 hx hZ hown (host := "") (Or.inl (hw _ (List.mem_of_getElem? (i := 55) rfl))) Via.refl e14 V1 (g := (mkF m 37 #[.val (.ref a1), .val (.ref a2), .val (.ref a2)] [(.ref a1)])) rfl rfl (hb hby djdk_42_method_66_code_37)
    have k16 : Go p e below (s₁.setTop (entryFrame m #[(.ref a1), (.ref a2)] 3)) (T16.setTop (mkF m 40 #[.val (.ref a1), .val (.ref a2), .val (.ref a2)] [(.ref bb1)])) := fun t kk => k15 t (st16 t kk)
    have k17 : Go p e below (s₁.setTop (entryFrame m #[(.ref a1), (.ref a2)] 3)) (T16.setTop (mkF m 41 #[.val (.ref a1), .val (.ref a2), .val (.ref a2)] [(.ref a2), (.ref bb1)])) := fun t kk => k16 t (by
      show Steps p.tables e below (T16.setTop (mkF m 40 #[.val (.ref a1), .val (.ref a2), .val (.ref a2)] [(.ref bb1)])) _
      refine XS.aloadN X16.here hx rfl (hb hby djdk_42_method_66_code_40) rfl rfl ?_
      exact kk)
    obtain ⟨T18, X18, e18, st18⟩ := getF X16 hx hZ hown (host := "") (Or.inl (hw _ (List.mem_of_getElem? (i := 55) rfl))) Via.refl e16 V2 (g := (mkF m 41 #[.val (.ref a1), .val (.ref a2), .val (.ref a2)] [(.ref a2), (.ref bb1)])) rfl rfl (hb hby djdk_42_method_66_code_41)
    have k18 : Go p e below (s₁.setTop (entryFrame m #[(.ref a1), (.ref a2)] 3)) (T18.setTop (mkF m 44 #[.val (.ref a1), .val (.ref a2), .val (.ref a2)] [(.ref bb2), (.ref bb1)])) := fun t kk => k17 t (st18 t kk)
    obtain ⟨_, _, ⟨T19, L19, kx19, nx19⟩, -, X19, ⟨Lc19, hQ19, l19, y19, z19⟩, st19⟩ := Jvm.LawKit.callS X18 hx (y := (⟨"java/lang/StringLatin1", "equals", "([B[B)Z"⟩ : MethodName)) hown (mvT hZ (hw _ (List.mem_of_getElem? (i := 56) rfl))) (mvT hZ (hw _ (List.mem_of_getElem? (i := 57) rfl))) (mvT hZ (hw _ (List.mem_of_getElem? (i := 58) rfl))) (mvT hZ (hw _ (List.mem_of_getElem? (i := 59) rfl))) (by decide) (backOf (W := 0) (rmLY l Z a0 hw [] bb1 bb2 ck1 ck2 h0 n0 Z0 A1 A2) hZ (hw _ (List.mem_of_getElem? (i := 59) rfl)) (hw _ (List.mem_of_getElem? (i := 58) rfl)) (by decide) (by decide)) (g := (mkF m 44 #[.val (.ref a1), .val (.ref a2), .val (.ref a2)] [(.ref bb2), (.ref bb1)])) rfl (by rw [hml]; rfl) (argsL := [(.ref bb1), (.ref bb2)]) (rest := []) (lenOf pd_1 rfl) rfl (by show 2 * 0 + _ ≤ _; exact Nat.le_of_eq rfl) (hb hby djdk_42_method_66_code_44) (fun _ _ => ⟨rfl, e18, (by decide : 0 + 0 ≤ _), (by decide : 0 + 0 ≤ _)⟩)
    dsimp only [Pt.U, Pt.locs, Pt.cells, Pt.slots] at X19 l19 y19 z19 st19 hQ19
    subst l19 y19 z19
    obtain ⟨rfl, rfl, e19⟩ := hQ19
    try rw [List.append_nil] at X19
    have k19 : Go p e below (s₁.setTop (entryFrame m #[(.ref a1), (.ref a2)] 3)) (T19.setTop (mkF m 47 #[.val (.ref a1), .val (.ref a2), .val (.ref a2)] [(.int (1 : Int32))])) := fun t kk => k18 t (st19 t kk)
    have k20 : Go p e below (s₁.setTop (entryFrame m #[(.ref a1), (.ref a2)] 3)) (T19.setTop (mkF m 55 #[.val (.ref a1), .val (.ref a2), .val (.ref a2)] [(.int (1 : Int32))])) := fun t kk => k19 t (by
      show Steps p.tables e below (T19.setTop (mkF m 47 #[.val (.ref a1), .val (.ref a2), .val (.ref a2)] [(.int (1 : Int32))])) _
      refine XS.ifNo X19.here hx rfl (hb hby djdk_42_method_66_code_47) rfl ((if0 _ _).trans (feq (by decide : ¬ ((1 : Int32) = (0 : Int32)))).1) ?_
      show Steps p.tables e below (T19.setTop (mkF m 50 #[.val (.ref a1), .val (.ref a2), .val (.ref a2)] [])) _
      refine XS.iconst X19.here hx rfl (hb hby djdk_42_method_66_code_50) ?_
      show Steps p.tables e below (T19.setTop (mkF m 51 #[.val (.ref a1), .val (.ref a2), .val (.ref a2)] [(.int (1 : Int32))])) _
      refine XS.goto X19.here hx rfl (pc0 := 51) (pc' := 55) rfl (hb hby djdk_42_method_66_code_51) (by decide) (by decide) ?_
      exact kk)
    obtain ⟨fs, hr, hrun, hended, hW, hsame⟩ := X19.leave (v := some (.int (1 : Int32))) (fun h => by rw [Bd.returns] at h; cases h)
    refine ⟨_, _, k20 _ ?_, hrun, hended, _, _, rfl, ?_, ⟨_, rfl⟩, hW, hsame.mono (by decide) (by decide)⟩
    · show Steps p.tables e below (T19.setTop (mkF m 55 #[.val (.ref a1), .val (.ref a2), .val (.ref a2)] [(.int (1 : Int32))])) _
      exact retN X19 hx (t := .boolean) Bd.returns (by simp) (hb hby djdk_42_method_66_code_55) hr
    · show QrmEY Z a1 a2 bb1 bb2 ck1 ck2 cs h0 n0 _ T19.heap _
      rw [e19]
      exact ⟨rfl, rfl, rfl⟩
theorem own_k6 (x : Int32) : let y := (x &&& (2147483647 : Int32)) % (6 : Int32); y = 0 ∨ y = 1 ∨ y = 2 ∨ y = 3 ∨ y = 4 ∨ y = 5 := by
  intro y
  have h0 : (x &&& (2147483647 : Int32)).toInt = x.toInt % (2 ^ 31 : Nat) := c_mask x 2147483647 31 (by decide) (by decide)
  have h : y.toInt = _ := (c_irem (x &&& 2147483647) 6 6 rfl).1 (by rw [h0]; omega)
  have r : 0 ≤ y.toInt ∧ y.toInt < 6 := by rw [h]; omega
  have e : ∀ j : Int32, y.toInt = j.toInt → y = j := fun j q => Int32.toInt_inj.mp q
  have c : y.toInt = 0 ∨ y.toInt = 1 ∨ y.toInt = 2 ∨ y.toInt = 3 ∨ y.toInt = 4 ∨ y.toInt = 5 := by omega
  rcases c with c | c | c | c | c | c
  · exact Or.inl (e 0 c)
  · exact Or.inr (Or.inl (e 1 c))
  · exact Or.inr (Or.inr (Or.inl (e 2 c)))
  · exact Or.inr (Or.inr (Or.inr (Or.inl (e 3 c))))
  · exact Or.inr (Or.inr (Or.inr (Or.inr (Or.inl (e 4 c)))))
  · exact Or.inr (Or.inr (Or.inr (Or.inr (Or.inr (e 5 c)))))
theorem pd_2 : parseMethodDescriptor "()Z" = some ⟨[], some .boolean⟩ := by decide +kernel
theorem pd_3 : parseMethodDescriptor "()Ljava/lang/String;" = some ⟨[], some (.object "java/lang/String")⟩ := by decide +kernel
theorem pd_4 : parseMethodDescriptor "(Ljava/lang/Object;)Z" = some ⟨[(.object "java/lang/Object")], some .boolean⟩ := by decide +kernel
theorem ef_rm0 (m : MethodId) (x0 : Int32) : entryFrame m #[(.int x0)] maxLocals = mkF m 0 #[.val (.int x0), .unset, .unset, .unset, .unset, .unset, .unset] [] := by first | (simp [entryFrame, mkF, argsToLocals, Value.category, maxLocals]; done) | rfl
def Q0 (Z : State) (p1 : Int32) (a_BOOKING : Addr) (a_RESCHEDULING : Addr) (a_MODIFICATION : Addr) (a_CANCELLATION : Addr) (a_DISCONTINUATION : Addr) (a_DELETION : Addr) (s_BOOKING : Addr) (t_BOOKING : Addr) (k_BOOKING : ClassId) (s_CANCELLATION : Addr) (t_CANCELLATION : Addr) (k_CANCELLATION : ClassId) (s_DELETION : Addr) (t_DELETION : Addr) (k_DELETION : ClassId) (s_DISCONTINUATION : Addr) (t_DISCONTINUATION : Addr) (k_DISCONTINUATION : ClassId) (cs : Int32) (h0 : Heap) (n0 : Nat) (v : Option Value) (h : Heap) (L : List Loc) : Prop := v = some (.int 1) ∧ Fr n0 L
theorem pn_4 : plainName "com/example/slotwire/slotwire/RequestEventDeletesPinLaw" = true := by first | (simp [plainName, overriddenIn]; done) | decide +kernel
set_option maxRecDepth 65536 in
set_option maxHeartbeats 40000000 in
theorem rm0 (l : Launch) (Z : State) (a0 : Array Value) (hw : ∀ d ∈ tables_1, d.before a0 Z = true) (hz : ∀ d ∈ jdkStatics_1, d.before a0 Z = true) (ws : List Jvm.Cond) (p1 : Int32) (a_BOOKING : Addr) (a_RESCHEDULING : Addr) (a_MODIFICATION : Addr) (a_CANCELLATION : Addr) (a_DISCONTINUATION : Addr) (a_DELETION : Addr) (s_BOOKING : Addr) (t_BOOKING : Addr) (k_BOOKING : ClassId) (s_CANCELLATION : Addr) (t_CANCELLATION : Addr) (k_CANCELLATION : ClassId) (s_DELETION : Addr) (t_DELETION : Addr) (k_DELETION : ClassId) (s_DISCONTINUATION : Addr) (t_DISCONTINUATION : Addr) (k_DISCONTINUATION : ClassId) (cs : Int32) (h0 : Heap) (n0 : Nat) (Z0 : n0 ≤ h0.size) (hn0 : n0 = h0.size) (hheld : Jvm.Lit.constHeld Z "com/example/slotwire/slotwire/RequestEventDeletesPinLaw" 33) (S_BOOKING : Sta Z h0 "com/example/slotwire/slotwire/RequestEvent" "BOOKING" "Lcom/example/slotwire/slotwire/RequestEvent;" (.ref a_BOOKING)) (E_BOOKING : Exa Z h0 a_BOOKING "com/example/slotwire/slotwire/RequestEvent") (o_BOOKING : Fld Z h0 a_BOOKING "java/lang/Enum" "ordinal" "I" (.int (0 : Int32))) (f_BOOKING : Fld Z h0 a_BOOKING "com/example/slotwire/slotwire/RequestEvent" "fillerStatus" "Ljava/lang/String;" (.ref s_BOOKING)) (S_RESCHEDULING : Sta Z h0 "com/example/slotwire/slotwire/RequestEvent" "RESCHEDULING" "Lcom/example/slotwire/slotwire/RequestEvent;" (.ref a_RESCHEDULING)) (E_RESCHEDULING : Exa Z h0 a_RESCHEDULING "com/example/slotwire/slotwire/RequestEvent") (o_RESCHEDULING : Fld Z h0 a_RESCHEDULING "java/lang/Enum" "ordinal" "I" (.int (1 : Int32))) (f_RESCHEDULING : Fld Z h0 a_RESCHEDULING "com/example/slotwire/slotwire/RequestEvent" "fillerStatus" "Ljava/lang/String;" (.ref s_BOOKING)) (S_MODIFICATION : Sta Z h0 "com/example/slotwire/slotwire/RequestEvent" "MODIFICATION" "Lcom/example/slotwire/slotwire/RequestEvent;" (.ref a_MODIFICATION)) (E_MODIFICATION : Exa Z h0 a_MODIFICATION "com/example/slotwire/slotwire/RequestEvent") (o_MODIFICATION : Fld Z h0 a_MODIFICATION "java/lang/Enum" "ordinal" "I" (.int (2 : Int32))) (f_MODIFICATION : Fld Z h0 a_MODIFICATION "com/example/slotwire/slotwire/RequestEvent" "fillerStatus" "Ljava/lang/String;" (.ref s_BOOKING)) (S_CANCELLATION : Sta Z h0 "com/example/slotwire/slotwire/RequestEvent" "CANCELLATION" "Lcom/example/slotwire/slotwire/RequestEvent;" (.ref a_CANCELLATION)) (E_CANCELLATION : Exa Z h0 a_CANCELLATION "com/example/slotwire/slotwire/RequestEvent") (o_CANCELLATION : Fld Z h0 a_CANCELLATION "java/lang/Enum" "ordinal" "I" (.int (3 : Int32))) (f_CANCELLATION : Fld Z h0 a_CANCELLATION "com/example/slotwire/slotwire/RequestEvent" "fillerStatus" "Ljava/lang/String;" (.ref s_CANCELLATION)) (S_DISCONTINUATION : Sta Z h0 "com/example/slotwire/slotwire/RequestEvent" "DISCONTINUATION" "Lcom/example/slotwire/slotwire/RequestEvent;" (.ref a_DISCONTINUATION)) (E_DISCONTINUATION : Exa Z h0 a_DISCONTINUATION "com/example/slotwire/slotwire/RequestEvent") (o_DISCONTINUATION : Fld Z h0 a_DISCONTINUATION "java/lang/Enum" "ordinal" "I" (.int (4 : Int32))) (f_DISCONTINUATION : Fld Z h0 a_DISCONTINUATION "com/example/slotwire/slotwire/RequestEvent" "fillerStatus" "Ljava/lang/String;" (.ref s_DISCONTINUATION)) (S_DELETION : Sta Z h0 "com/example/slotwire/slotwire/RequestEvent" "DELETION" "Lcom/example/slotwire/slotwire/RequestEvent;" (.ref a_DELETION)) (E_DELETION : Exa Z h0 a_DELETION "com/example/slotwire/slotwire/RequestEvent") (o_DELETION : Fld Z h0 a_DELETION "java/lang/Enum" "ordinal" "I" (.int (5 : Int32))) (f_DELETION : Fld Z h0 a_DELETION "com/example/slotwire/slotwire/RequestEvent" "fillerStatus" "Ljava/lang/String;" (.ref s_DELETION)) (es_BOOKING : Exa Z h0 s_BOOKING "java/lang/String") (cs_BOOKING : Fld Z h0 s_BOOKING "java/lang/String" "coder" "B" (.int (0 : Int32))) (vs_BOOKING : Fld Z h0 s_BOOKING "java/lang/String" "value" "[B" (.ref t_BOOKING)) (as_BOOKING : Arv Z h0 t_BOOKING k_BOOKING .byte (6 : Int32) [(.int (66 : Int32)), (.int (111 : Int32)), (.int (111 : Int32)), (.int (107 : Int32)), (.int (101 : Int32)), (.int (100 : Int32))] (.int (0 : Int32))) (es_CANCELLATION : Exa Z h0 s_CANCELLATION "java/lang/String") (cs_CANCELLATION : Fld Z h0 s_CANCELLATION "java/lang/String" "coder" "B" (.int (0 : Int32))) (vs_CANCELLATION : Fld Z h0 s_CANCELLATION "java/lang/String" "value" "[B" (.ref t_CANCELLATION)) (as_CANCELLATION : Arv Z h0 t_CANCELLATION k_CANCELLATION .byte (9 : Int32) [(.int (67 : Int32)), (.int (97 : Int32)), (.int (110 : Int32)), (.int (99 : Int32)), (.int (101 : Int32)), (.int (108 : Int32)), (.int (108 : Int32)), (.int (101 : Int32)), (.int (100 : Int32))] (.int (0 : Int32))) (es_DELETION : Exa Z h0 s_DELETION "java/lang/String") (cs_DELETION : Fld Z h0 s_DELETION "java/lang/String" "coder" "B" (.int (0 : Int32))) (vs_DELETION : Fld Z h0 s_DELETION "java/lang/String" "value" "[B" (.ref t_DELETION)) (as_DELETION : Arv Z h0 t_DELETION k_DELETION .byte (7 : Int32) [(.int (68 : Int32)), (.int (101 : Int32)), (.int (108 : Int32)), (.int (101 : Int32)), (.int (116 : Int32)), (.int (101 : Int32)), (.int (100 : Int32))] (.int (0 : Int32))) (es_DISCONTINUATION : Exa Z h0 s_DISCONTINUATION "java/lang/String") (cs_DISCONTINUATION : Fld Z h0 s_DISCONTINUATION "java/lang/String" "coder" "B" (.int (0 : Int32))) (vs_DISCONTINUATION : Fld Z h0 s_DISCONTINUATION "java/lang/String" "value" "[B" (.ref t_DISCONTINUATION)) (as_DISCONTINUATION : Arv Z h0 t_DISCONTINUATION k_DISCONTINUATION .byte (2 : Int32) [(.int (68 : Int32)), (.int (99 : Int32))] (.int (0 : Int32))) (S_C : Sta Z h0 "java/lang/String" "COMPACT_STRINGS" "Z" (.int cs)) (hs1 : ¬ (cs = (0 : Int32))) :
    MetFree l x (head1 (Jvm.Cond.code x code maxLocals ret :: ws) room_1) (fun a U => a = #[(.int p1)] ∧ U = Z ∧ U.heap = h0) (fun _ _ _ _ _ => True) (fun _ U o U' => ∃ v L, o = .returned v ∧ Q0 Z p1 a_BOOKING a_RESCHEDULING a_MODIFICATION a_CANCELLATION a_DISCONTINUATION a_DELETION s_BOOKING t_BOOKING k_BOOKING s_CANCELLATION t_CANCELLATION k_CANCELLATION s_DELETION t_DELETION k_DELETION s_DISCONTINUATION t_DISCONTINUATION k_DISCONTINUATION cs h0 n0 v U'.heap L ∧ ReturnedEndW U o U' L room_1.cells room_1.slots) := by
  refine MetFree.of_bodySF (plainFor_of_name pn_4) hisR ?_
  intro p e s m args below meth c s₁ Bd hml0 hP hK
  obtain ⟨rfl, hs0, hh⟩ := hP
  have hZ : Z.Warmed39 s.vm := by rw [hs0]; exact State.Warmed39.refl Z
  have hx := Bd.exec
  have hby := Bd.bytes
  have hml : c.maxLocals = 7 := hml0
  have hown : s.vm.findClass "com/example/slotwire/slotwire/RequestEventDeletesPinLaw" = some m.cls := findClass_of_methodNamed Bd.named
  have hnm := (name_of_methodNamed Bd.named Bd.method).1
  have X0 : Stand p l e room_1 s m #[(.int p1)] below meth c s₁ [] 0 0 := Stand.of_body Bd
  have e0 : s₁.heap = h0 := by rw [← hh, Bd.state]; rfl
  have N0 := Fr.nil n0
  have k0 : Go p e below (s₁.setTop (entryFrame m #[(.int p1)] maxLocals)) (s₁.setTop (mkF m 0 #[.val (.int p1), .unset, .unset, .unset, .unset, .unset, .unset] [])) := fun t k => castTop (ef_rm0 m p1) k
  have k1 : Go p e below (s₁.setTop (entryFrame m #[(.int p1)] maxLocals)) (s₁.setTop (mkF m 2 #[.val (.int p1), .unset, .unset, .unset, .unset, .unset, .unset] [(.int (6 : Int32))])) := fun t kk => k0 t (by
    show Steps p.tables e below (s₁.setTop (mkF m 0 #[.val (.int p1), .unset, .unset, .unset, .unset, .unset, .unset] [])) _
    refine XS.bipush X0.here hx rfl (hb hby at_0) ?_
    exact kk)
  obtain ⟨T2, h2, kc2, X2, e2, E2, A2, O2, st2⟩ := newR X0 hx hZ hown (hw _ (List.mem_of_getElem? (i := 0) rfl)) (hw _ (List.mem_of_getElem? (i := 1) rfl)) e0 (g := (mkF m 2 #[.val (.int p1), .unset, .unset, .unset, .unset, .unset, .unset] [(.int (6 : Int32))])) rfl (hb hby at_2) rfl (by decide) (cap := 6) (by decide) (by decide) (by decide) (by decide)
  obtain ⟨b2, g2⟩ : ∃ z, z = (h0).size := ⟨_, rfl⟩
  rw [← g2] at A2 st2
  have sz_b2 : h0.size ≤ b2 := Nat.le_trans (Keep.refl h0 []).1 (Nat.le_of_eq g2.symm)
  have ge_b2 : n0 ≤ b2 := Nat.le_trans Z0 (Nat.le_of_eq g2.symm)
  have K2 := ((Keep.refl h0 [])).ext E2
  have Zs2 : n0 ≤ h2.size := Nat.le_trans Z0 E2.1
  have V2 : Arv Z h2 b2 kc2 (.object "com/example/slotwire/slotwire/RequestEvent") (6 : Int32) [.null, .null, .null, .null, .null, .null] .null := (Arv.new A2 (by decide)).pad (pad_rep [] .null 6)
  have k2 : Go p e below (s₁.setTop (entryFrame m #[(.int p1)] maxLocals)) (T2.setTop (mkF m 5 #[.val (.int p1), .unset, .unset, .unset, .unset, .unset, .unset] [(.ref b2)])) := fun t kk => k1 t (st2 t kk)
  have k3 : Go p e below (s₁.setTop (entryFrame m #[(.int p1)] maxLocals)) (T2.setTop (mkF m 7 #[.val (.int p1), .unset, .unset, .unset, .unset, .unset, .unset] [(.int (0 : Int32)), (.ref b2), (.ref b2)])) := fun t kk => k2 t (by
    show Steps p.tables e below (T2.setTop (mkF m 5 #[.val (.int p1), .unset, .unset, .unset, .unset, .unset, .unset] [(.ref b2)])) _
    refine XS.dup X2.here hx rfl (hb hby at_5) rfl rfl ?_
    show Steps p.tables e below (T2.setTop (mkF m 6 #[.val (.int p1), .unset, .unset, .unset, .unset, .unset, .unset] [(.ref b2), (.ref b2)])) _
    refine XS.iconst X2.here hx rfl (hb hby at_6) ?_
    exact kk)
  obtain ⟨T4, X4, e4, st4⟩ := getS2 X2 hx hZ hown (host := "") (Or.inl (hw _ (List.mem_of_getElem? (i := 2) rfl))) Via.refl e2 (own_stakeep S_BOOKING K2) (g := (mkF m 7 #[.val (.int p1), .unset, .unset, .unset, .unset, .unset, .unset] [(.int (0 : Int32)), (.ref b2), (.ref b2)])) rfl (hb hby at_7)
  have k4 : Go p e below (s₁.setTop (entryFrame m #[(.int p1)] maxLocals)) (T4.setTop (mkF m 10 #[.val (.int p1), .unset, .unset, .unset, .unset, .unset, .unset] [(.ref a_BOOKING), (.int (0 : Int32)), (.ref b2), (.ref b2)])) := fun t kk => k3 t (st4 t kk)
  obtain ⟨cl5, Ar5, q5, S5, G5, H5, J5⟩ := V2
  have hin5 : ¬ ((0 : Int32) < 0 ∨ cl5.slots.size ≤ ((0 : Int32)).toNatClampNeg) := inb_of S5 ⟨by decide, by decide⟩
  obtain ⟨T5, h5, X5, e5, W5, st5⟩ := stR X4 hx hZ e4 Ar5 (j := (0 : Int32)) hin5 rfl (Sto.ofV Ar5 q5 O2 (Ins.self (E_BOOKING.keep K2))) (g := (mkF m 10 #[.val (.int p1), .unset, .unset, .unset, .unset, .unset, .unset] [(.ref a_BOOKING), (.int (0 : Int32)), (.ref b2), (.ref b2)])) rfl rfl (hb hby at_10)
  have V5 := Arv.set Ar5 q5 S5 G5 H5 J5 rfl W5 0 rfl (Nat.le_of_ble_eq_true rfl)
  have N5 := Fr.snoc X5 N0 ge_b2
  have K5 := (K2).wr W5 (Or.inr sz_b2)
  have Zs5 : n0 ≤ h5.size := Nat.le_trans Zs2 (Keep.of_wr W5).1
  have k5 : Go p e below (s₁.setTop (entryFrame m #[(.int p1)] maxLocals)) (T5.setTop (mkF m 11 #[.val (.int p1), .unset, .unset, .unset, .unset, .unset, .unset] [(.ref b2)])) := fun t kk => k4 t (st5 t kk)
  have k6 : Go p e below (s₁.setTop (entryFrame m #[(.int p1)] maxLocals)) (T5.setTop (mkF m 13 #[.val (.int p1), .unset, .unset, .unset, .unset, .unset, .unset] [(.int (1 : Int32)), (.ref b2), (.ref b2)])) := fun t kk => k5 t (by
    show Steps p.tables e below (T5.setTop (mkF m 11 #[.val (.int p1), .unset, .unset, .unset, .unset, .unset, .unset] [(.ref b2)])) _
    refine XS.dup X5.here hx rfl (hb hby at_11) rfl rfl ?_
    show Steps p.tables e below (T5.setTop (mkF m 12 #[.val (.int p1), .unset, .unset, .unset, .unset, .unset, .unset] [(.ref b2), (.ref b2)])) _
    refine XS.iconst X5.here hx rfl (hb hby at_12) ?_
    exact kk)
  obtain ⟨T7, X7, e7, st7⟩ := getS2 X5 hx hZ hown (host := "") (Or.inl (hw _ (List.mem_of_getElem? (i := 6) rfl))) Via.refl e5 (own_stakeep S_RESCHEDULING K5) (g := (mkF m 13 #[.val (.int p1), .unset, .unset, .unset, .unset, .unset, .unset] [(.int (1 : Int32)), (.ref b2), (.ref b2)])) rfl (hb hby at_13)
  have k7 : Go p e below (s₁.setTop (entryFrame m #[(.int p1)] maxLocals)) (T7.setTop (mkF m 16 #[.val (.int p1), .unset, .unset, .unset, .unset, .unset, .unset] [(.ref a_RESCHEDULING), (.int (1 : Int32)), (.ref b2), (.ref b2)])) := fun t kk => k6 t (st7 t kk)
  obtain ⟨cl8, Ar8, q8, S8, G8, H8, J8⟩ := V5
  have hin8 : ¬ ((1 : Int32) < 0 ∨ cl8.slots.size ≤ ((1 : Int32)).toNatClampNeg) := inb_of S8 ⟨by decide, by decide⟩
  obtain ⟨T8, h8, X8, e8, W8, st8⟩ := stR X7 hx hZ e7 Ar8 (j := (1 : Int32)) hin8 rfl (Sto.ofV Ar8 q8 O2 (Ins.self (E_RESCHEDULING.keep K5))) (g := (mkF m 16 #[.val (.int p1), .unset, .unset, .unset, .unset, .unset, .unset] [(.ref a_RESCHEDULING), (.int (1 : Int32)), (.ref b2), (.ref b2)])) rfl rfl (hb hby at_16)
  have V8 := Arv.set Ar8 q8 S8 G8 H8 J8 rfl W8 1 rfl (Nat.le_of_ble_eq_true rfl)
  have N8 := Fr.snoc X8 N5 ge_b2
  have K8 := (K5).wr W8 (Or.inr sz_b2)
  have Zs8 : n0 ≤ h8.size := Nat.le_trans Zs5 (Keep.of_wr W8).1
  have k8 : Go p e below (s₁.setTop (entryFrame m #[(.int p1)] maxLocals)) (T8.setTop (mkF m 17 #[.val (.int p1), .unset, .unset, .unset, .unset, .unset, .unset] [(.ref b2)])) := fun t kk => k7 t (st8 t kk)
  have k9 : Go p e below (s₁.setTop (entryFrame m #[(.int p1)] maxLocals)) (T8.setTop (mkF m 19 #[.val (.int p1), .unset, .unset, .unset, .unset, .unset, .unset] [(.int (2 : Int32)), (.ref b2), (.ref b2)])) := fun t kk => k8 t (by
    show Steps p.tables e below (T8.setTop (mkF m 17 #[.val (.int p1), .unset, .unset, .unset, .unset, .unset, .unset] [(.ref b2)])) _
    refine XS.dup X8.here hx rfl (hb hby at_17) rfl rfl ?_
    show Steps p.tables e below (T8.setTop (mkF m 18 #[.val (.int p1), .unset, .unset, .unset, .unset, .unset, .unset] [(.ref b2), (.ref b2)])) _
    refine XS.iconst X8.here hx rfl (hb hby at_18) ?_
    exact kk)
  obtain ⟨T10, X10, e10, st10⟩ := getS2 X8 hx hZ hown (host := "") (Or.inl (hw _ (List.mem_of_getElem? (i := 8) rfl))) Via.refl e8 (own_stakeep S_MODIFICATION K8) (g := (mkF m 19 #[.val (.int p1), .unset, .unset, .unset, .unset, .unset, .unset] [(.int (2 : Int32)), (.ref b2), (.ref b2)])) rfl (hb hby at_19)
  have k10 : Go p e below (s₁.setTop (entryFrame m #[(.int p1)] maxLocals)) (T10.setTop (mkF m 22 #[.val (.int p1), .unset, .unset, .unset, .unset, .unset, .unset] [(.ref a_MODIFICATION), (.int (2 : Int32)), (.ref b2), (.ref b2)])) := fun t kk => k9 t (st10 t kk)
  obtain ⟨cl11, Ar11, q11, S11, G11, H11, J11⟩ := V8
  have hin11 : ¬ ((2 : Int32) < 0 ∨ cl11.slots.size ≤ ((2 : Int32)).toNatClampNeg) := inb_of S11 ⟨by decide, by decide⟩
  obtain ⟨T11, h11, X11, e11, W11, st11⟩ := stR X10 hx hZ e10 Ar11 (j := (2 : Int32)) hin11 rfl (Sto.ofV Ar11 q11 O2 (Ins.self (E_MODIFICATION.keep K8))) (g := (mkF m 22 #[.val (.int p1), .unset, .unset, .unset, .unset, .unset, .unset] [(.ref a_MODIFICATION), (.int (2 : Int32)), (.ref b2), (.ref b2)])) rfl rfl (hb hby at_22)
  have V11 := Arv.set Ar11 q11 S11 G11 H11 J11 rfl W11 2 rfl (Nat.le_of_ble_eq_true rfl)
  have N11 := Fr.snoc X11 N8 ge_b2
  have K11 := (K8).wr W11 (Or.inr sz_b2)
  have Zs11 : n0 ≤ h11.size := Nat.le_trans Zs8 (Keep.of_wr W11).1
  have k11 : Go p e below (s₁.setTop (entryFrame m #[(.int p1)] maxLocals)) (T11.setTop (mkF m 23 #[.val (.int p1), .unset, .unset, .unset, .unset, .unset, .unset] [(.ref b2)])) := fun t kk => k10 t (st11 t kk)
  have k12 : Go p e below (s₁.setTop (entryFrame m #[(.int p1)] maxLocals)) (T11.setTop (mkF m 25 #[.val (.int p1), .unset, .unset, .unset, .unset, .unset, .unset] [(.int (3 : Int32)), (.ref b2), (.ref b2)])) := fun t kk => k11 t (by
    show Steps p.tables e below (T11.setTop (mkF m 23 #[.val (.int p1), .unset, .unset, .unset, .unset, .unset, .unset] [(.ref b2)])) _
    refine XS.dup X11.here hx rfl (hb hby at_23) rfl rfl ?_
    show Steps p.tables e below (T11.setTop (mkF m 24 #[.val (.int p1), .unset, .unset, .unset, .unset, .unset, .unset] [(.ref b2), (.ref b2)])) _
    refine XS.iconst X11.here hx rfl (hb hby at_24) ?_
    exact kk)
  obtain ⟨T13, X13, e13, st13⟩ := getS2 X11 hx hZ hown (host := "") (Or.inl (hw _ (List.mem_of_getElem? (i := 10) rfl))) Via.refl e11 (own_stakeep S_CANCELLATION K11) (g := (mkF m 25 #[.val (.int p1), .unset, .unset, .unset, .unset, .unset, .unset] [(.int (3 : Int32)), (.ref b2), (.ref b2)])) rfl (hb hby at_25)
  have k13 : Go p e below (s₁.setTop (entryFrame m #[(.int p1)] maxLocals)) (T13.setTop (mkF m 28 #[.val (.int p1), .unset, .unset, .unset, .unset, .unset, .unset] [(.ref a_CANCELLATION), (.int (3 : Int32)), (.ref b2), (.ref b2)])) := fun t kk => k12 t (st13 t kk)
  obtain ⟨cl14, Ar14, q14, S14, G14, H14, J14⟩ := V11
  have hin14 : ¬ ((3 : Int32) < 0 ∨ cl14.slots.size ≤ ((3 : Int32)).toNatClampNeg) := inb_of S14 ⟨by decide, by decide⟩
  obtain ⟨T14, h14, X14, e14, W14, st14⟩ := stR X13 hx hZ e13 Ar14 (j := (3 : Int32)) hin14 rfl (Sto.ofV Ar14 q14 O2 (Ins.self (E_CANCELLATION.keep K11))) (g := (mkF m 28 #[.val (.int p1), .unset, .unset, .unset, .unset, .unset, .unset] [(.ref a_CANCELLATION), (.int (3 : Int32)), (.ref b2), (.ref b2)])) rfl rfl (hb hby at_28)
  have V14 := Arv.set Ar14 q14 S14 G14 H14 J14 rfl W14 3 rfl (Nat.le_of_ble_eq_true rfl)
  have N14 := Fr.snoc X14 N11 ge_b2
  have K14 := (K11).wr W14 (Or.inr sz_b2)
  have Zs14 : n0 ≤ h14.size := Nat.le_trans Zs11 (Keep.of_wr W14).1
  have k14 : Go p e below (s₁.setTop (entryFrame m #[(.int p1)] maxLocals)) (T14.setTop (mkF m 29 #[.val (.int p1), .unset, .unset, .unset, .unset, .unset, .unset] [(.ref b2)])) := fun t kk => k13 t (st14 t kk)
  have k15 : Go p e below (s₁.setTop (entryFrame m #[(.int p1)] maxLocals)) (T14.setTop (mkF m 31 #[.val (.int p1), .unset, .unset, .unset, .unset, .unset, .unset] [(.int (4 : Int32)), (.ref b2), (.ref b2)])) := fun t kk => k14 t (by
    show Steps p.tables e below (T14.setTop (mkF m 29 #[.val (.int p1), .unset, .unset, .unset, .unset, .unset, .unset] [(.ref b2)])) _
    refine XS.dup X14.here hx rfl (hb hby at_29) rfl rfl ?_
    show Steps p.tables e below (T14.setTop (mkF m 30 #[.val (.int p1), .unset, .unset, .unset, .unset, .unset, .unset] [(.ref b2), (.ref b2)])) _
    refine XS.iconst X14.here hx rfl (hb hby at_30) ?_
    exact kk)
  obtain ⟨T16, X16, e16, st16⟩ := getS2 X14 hx hZ hown (host := "") (Or.inl (hw _ (List.mem_of_getElem? (i := 12) rfl))) Via.refl e14 (own_stakeep S_DISCONTINUATION K14) (g := (mkF m 31 #[.val (.int p1), .unset, .unset, .unset, .unset, .unset, .unset] [(.int (4 : Int32)), (.ref b2), (.ref b2)])) rfl (hb hby at_31)
  have k16 : Go p e below (s₁.setTop (entryFrame m #[(.int p1)] maxLocals)) (T16.setTop (mkF m 34 #[.val (.int p1), .unset, .unset, .unset, .unset, .unset, .unset] [(.ref a_DISCONTINUATION), (.int (4 : Int32)), (.ref b2), (.ref b2)])) := fun t kk => k15 t (st16 t kk)
  obtain ⟨cl17, Ar17, q17, S17, G17, H17, J17⟩ := V14
  have hin17 : ¬ ((4 : Int32) < 0 ∨ cl17.slots.size ≤ ((4 : Int32)).toNatClampNeg) := inb_of S17 ⟨by decide, by decide⟩
  obtain ⟨T17, h17, X17, e17, W17, st17⟩ := stR X16 hx hZ e16 Ar17 (j := (4 : Int32)) hin17 rfl (Sto.ofV Ar17 q17 O2 (Ins.self (E_DISCONTINUATION.keep K14))) (g := (mkF m 34 #[.val (.int p1), .unset, .unset, .unset, .unset, .unset, .unset] [(.ref a_DISCONTINUATION), (.int (4 : Int32)), (.ref b2), (.ref b2)])) rfl rfl (hb hby at_34)
  have V17 := Arv.set Ar17 q17 S17 G17 H17 J17 rfl W17 4 rfl (Nat.le_of_ble_eq_true rfl)
  have N17 := Fr.snoc X17 N14 ge_b2
  have K17 := (K14).wr W17 (Or.inr sz_b2)
  have Zs17 : n0 ≤ h17.size := Nat.le_trans Zs14 (Keep.of_wr W17).1
  have k17 : Go p e below (s₁.setTop (entryFrame m #[(.int p1)] maxLocals)) (T17.setTop (mkF m 35 #[.val (.int p1), .unset, .unset, .unset, .unset, .unset, .unset] [(.ref b2)])) := fun t kk => k16 t (st17 t kk)
  have k18 : Go p e below (s₁.setTop (entryFrame m #[(.int p1)] maxLocals)) (T17.setTop (mkF m 37 #[.val (.int p1), .unset, .unset, .unset, .unset, .unset, .unset] [(.int (5 : Int32)), (.ref b2), (.ref b2)])) := fun t kk => k17 t (by
    show Steps p.tables e below (T17.setTop (mkF m 35 #[.val (.int p1), .unset, .unset, .unset, .unset, .unset, .unset] [(.ref b2)])) _
    refine XS.dup X17.here hx rfl (hb hby at_35) rfl rfl ?_
    show Steps p.tables e below (T17.setTop (mkF m 36 #[.val (.int p1), .unset, .unset, .unset, .unset, .unset, .unset] [(.ref b2), (.ref b2)])) _
    refine XS.iconst X17.here hx rfl (hb hby at_36) ?_
    exact kk)
  obtain ⟨T19, X19, e19, st19⟩ := getS2 X17 hx hZ hown (host := "") (Or.inl (hw _ (List.mem_of_getElem? (i := 14) rfl))) Via.refl e17 (own_stakeep S_DELETION K17) (g := (mkF m 37 #[.val (.int p1), .unset, .unset, .unset, .unset, .unset, .unset] [(.int (5 : Int32)), (.ref b2), (.ref b2)])) rfl (hb hby at_37)
  have k19 : Go p e below (s₁.setTop (entryFrame m #[(.int p1)] maxLocals)) (T19.setTop (mkF m 40 #[.val (.int p1), .unset, .unset, .unset, .unset, .unset, .unset] [(.ref a_DELETION), (.int (5 : Int32)), (.ref b2), (.ref b2)])) := fun t kk => k18 t (st19 t kk)
  obtain ⟨cl20, Ar20, q20, S20, G20, H20, J20⟩ := V17
  have hin20 : ¬ ((5 : Int32) < 0 ∨ cl20.slots.size ≤ ((5 : Int32)).toNatClampNeg) := inb_of S20 ⟨by decide, by decide⟩
  obtain ⟨T20, h20, X20, e20, W20, st20⟩ := stR X19 hx hZ e19 Ar20 (j := (5 : Int32)) hin20 rfl (Sto.ofV Ar20 q20 O2 (Ins.self (E_DELETION.keep K17))) (g := (mkF m 40 #[.val (.int p1), .unset, .unset, .unset, .unset, .unset, .unset] [(.ref a_DELETION), (.int (5 : Int32)), (.ref b2), (.ref b2)])) rfl rfl (hb hby at_40)
  have V20 := Arv.set Ar20 q20 S20 G20 H20 J20 rfl W20 5 rfl (Nat.le_of_ble_eq_true rfl)
  have N20 := Fr.snoc X20 N17 ge_b2
  have K20 := (K17).wr W20 (Or.inr sz_b2)
  have Zs20 : n0 ≤ h20.size := Nat.le_trans Zs17 (Keep.of_wr W20).1
  have k20 : Go p e below (s₁.setTop (entryFrame m #[(.int p1)] maxLocals)) (T20.setTop (mkF m 41 #[.val (.int p1), .unset, .unset, .unset, .unset, .unset, .unset] [(.ref b2)])) := fun t kk => k19 t (st20 t kk)
  have hk6 := own_k6 p1
  have k21 : Go p e below (s₁.setTop (entryFrame m #[(.int p1)] maxLocals)) (T20.setTop (mkF m 50 #[.val (.int p1), .val (.ref b2), .val (.int ((p1 &&& (2147483647 : Int32)) % (6 : Int32))), .unset, .unset, .unset, .unset] [])) := fun t kk => k20 t (by
    show Steps p.tables e below (T20.setTop (mkF m 41 #[.val (.int p1), .unset, .unset, .unset, .unset, .unset, .unset] [(.ref b2)])) _
    refine XS.astoreN X20.here hx rfl (hb hby at_41) rfl rfl (l' := #[.val (.int p1), .val (.ref b2), .unset, .unset, .unset, .unset, .unset]) rfl ?_
    show Steps p.tables e below (T20.setTop (mkF m 42 #[.val (.int p1), .val (.ref b2), .unset, .unset, .unset, .unset, .unset] [])) _
    refine XS.iloadN X20.here hx rfl (hb hby at_42) rfl ?_
    show Steps p.tables e below (T20.setTop (mkF m 43 #[.val (.int p1), .val (.ref b2), .unset, .unset, .unset, .unset, .unset] [(.int p1)])) _
    refine X20.ldcInt hx hown (mvT hZ (hw _ (List.mem_of_getElem? (i := 16) rfl))) (g := (mkF m 43 #[.val (.int p1), .val (.ref b2), .unset, .unset, .unset, .unset, .unset] [(.int p1)])) rfl (hb hby at_43) _ ?_
    show Steps p.tables e below (T20.setTop (mkF m 45 #[.val (.int p1), .val (.ref b2), .unset, .unset, .unset, .unset, .unset] [(.int (2147483647 : Int32)), (.int p1)])) _
    refine XS.iand X20.here hx rfl (hb hby at_45) rfl ?_
    show Steps p.tables e below (T20.setTop (mkF m 46 #[.val (.int p1), .val (.ref b2), .unset, .unset, .unset, .unset, .unset] [(.int (p1 &&& (2147483647 : Int32)))])) _
    refine XS.bipush X20.here hx rfl (hb hby at_46) ?_
    show Steps p.tables e below (T20.setTop (mkF m 48 #[.val (.int p1), .val (.ref b2), .unset, .unset, .unset, .unset, .unset] [(.int (6 : Int32)), (.int (p1 &&& (2147483647 : Int32)))])) _
    refine iremM X20 hx rfl (hb hby at_48) rfl (by decide) ?_
    show Steps p.tables e below (T20.setTop (mkF m 49 #[.val (.int p1), .val (.ref b2), .unset, .unset, .unset, .unset, .unset] [(.int ((p1 &&& (2147483647 : Int32)) % (6 : Int32)))])) _
    refine XS.istoreN X20.here hx rfl (hb hby at_49) rfl (l' := #[.val (.int p1), .val (.ref b2), .val (.int ((p1 &&& (2147483647 : Int32)) % (6 : Int32))), .unset, .unset, .unset, .unset]) rfl ?_
    exact kk)
  obtain ⟨vk, h_vk⟩ : ∃ z : Int32, z = ((p1 &&& (2147483647 : Int32)) % (6 : Int32)) := ⟨_, rfl⟩
  rw [← h_vk] at k21 hk6
  rcases hk6 with rfl | rfl | rfl | rfl | rfl | rfl
  · obtain ⟨cl22, Ar22, -, S22, G22, H22, -⟩ := id V20
    have hin22 : ¬ ((0 : Int32) < 0 ∨ cl22.slots.size ≤ ((0 : Int32)).toNatClampNeg) := inb_of S22 ⟨by decide, by decide⟩
    have hat22 : cl22.slots[((0 : Int32)).toNatClampNeg]? = some (.ref a_BOOKING) := H22.at hin22 rfl
    have k23 : Go p e below (s₁.setTop (entryFrame m #[(.int p1)] maxLocals)) (T20.setTop (mkF m 55 #[.val (.int p1), .val (.ref b2), .val (.int (0 : Int32)), .val (.ref a_BOOKING), .unset, .unset, .unset] [(.ref a_BOOKING)])) := fun t kk => k21 t (by
      show Steps p.tables e below (T20.setTop (mkF m 50 #[.val (.int p1), .val (.ref b2), .val (.int (0 : Int32)), .unset, .unset, .unset, .unset] [])) _
      refine XS.aloadN X20.here hx rfl (hb hby at_50) rfl rfl ?_
      show Steps p.tables e below (T20.setTop (mkF m 51 #[.val (.int p1), .val (.ref b2), .val (.int (0 : Int32)), .unset, .unset, .unset, .unset] [(.ref b2)])) _
      refine XS.iloadN X20.here hx rfl (hb hby at_51) rfl ?_
      show Steps p.tables e below (T20.setTop (mkF m 52 #[.val (.int p1), .val (.ref b2), .val (.int (0 : Int32)), .unset, .unset, .unset, .unset] [(.int (0 : Int32)), (.ref b2)])) _
      refine X20.aaload hx (j := (0 : Int32)) (v := (.ref a_BOOKING)) (by rw [e20]; exact Ar22.1) (State.isArrayOf_alike hZ.alike Ar22.2.1) rfl Ar22.2.2 hin22 hat22 (g := (mkF m 52 #[.val (.int p1), .val (.ref b2), .val (.int (0 : Int32)), .unset, .unset, .unset, .unset] [(.int (0 : Int32)), (.ref b2)])) rfl rfl (hb hby at_52) _ ?_
      show Steps p.tables e below (T20.setTop (mkF m 53 #[.val (.int p1), .val (.ref b2), .val (.int (0 : Int32)), .unset, .unset, .unset, .unset] [(.ref a_BOOKING)])) _
      refine XS.astoreN X20.here hx rfl (hb hby at_53) rfl rfl (l' := #[.val (.int p1), .val (.ref b2), .val (.int (0 : Int32)), .val (.ref a_BOOKING), .unset, .unset, .unset]) rfl ?_
      show Steps p.tables e below (T20.setTop (mkF m 54 #[.val (.int p1), .val (.ref b2), .val (.int (0 : Int32)), .val (.ref a_BOOKING), .unset, .unset, .unset] [])) _
      refine XS.aloadN X20.here hx rfl (hb hby at_54) rfl rfl ?_
      exact kk)
    obtain ⟨cq24, kq24, q24a, q24b, q24c⟩ := isOf hZ e20 (E_BOOKING.keep K20)
    obtain ⟨_, _, ⟨T24, L24, kx24, nx24⟩, -, X24, ⟨Lc24, hQ24, l24, y24, z24⟩, st24⟩ := X20.virtualBack hx (y := (⟨"com/example/slotwire/slotwire/RequestEvent", "deletes", "()Z"⟩ : MethodName)) (z := (⟨"com/example/slotwire/slotwire/RequestEvent", "deletes", "()Z"⟩ : MethodName)) hown (mvT hZ (hw _ (List.mem_of_getElem? (i := 17) rfl))) (mvT hZ (hw _ (List.mem_of_getElem? (i := 18) rfl))) (notFace_of_selects (args := #[]) (mvT hZ (hw _ (List.mem_of_getElem? (i := 20) rfl)))) (mvT hZ (hw _ (List.mem_of_getElem? (i := 20) rfl))) (mvT hZ (hw _ (List.mem_of_getElem? (i := 19) rfl))) (by decide) (backOf (W := 0) (rmD l Z a0 hw [] a_BOOKING (0 : Int32) h20 n0 Zs20 (o_BOOKING.keep K20 nin0) (E_BOOKING.keep K20) (by decide)) hZ (hw _ (List.mem_of_getElem? (i := 21) rfl)) (hw _ (List.mem_of_getElem? (i := 3) rfl)) (by decide) (by decide)) q24a q24c (g := (mkF m 55 #[.val (.int p1), .val (.ref b2), .val (.int (0 : Int32)), .val (.ref a_BOOKING), .unset, .unset, .unset] [(.ref a_BOOKING)])) rfl (by rw [hml]; rfl) (Steps.refl _) (argsL := []) (rest := []) (lenOf pd_2 rfl) rfl (by show 2 * 0 + _ ≤ _; exact Nat.le_of_eq rfl) (hb hby at_55) (fun _ _ => ⟨rfl, e20, (by decide : 1 + 0 ≤ _), (by decide : 6 + 0 ≤ _)⟩)
    dsimp only [Pt.U, Pt.locs, Pt.cells, Pt.slots] at X24 l24 y24 z24 st24 hQ24
    subst l24 y24 z24
    obtain ⟨rfl, rfl, e24⟩ := hQ24
    try rw [List.append_nil] at X24
    have k24 : Go p e below (s₁.setTop (entryFrame m #[(.int p1)] maxLocals)) (T24.setTop (mkF m 58 #[.val (.int p1), .val (.ref b2), .val (.int (0 : Int32)), .val (.ref a_BOOKING), .unset, .unset, .unset] [(.int (own_del (0 : Int32)))])) := fun t kk => k23 t (st24.trans kk)
    have k25 : Go p e below (s₁.setTop (entryFrame m #[(.int p1)] maxLocals)) (T24.setTop (mkF m 58 #[.val (.int p1), .val (.ref b2), .val (.int (0 : Int32)), .val (.ref a_BOOKING), .unset, .unset, .unset] [(.int (0 : Int32))])) := k24
    have k26 : Go p e below (s₁.setTop (entryFrame m #[(.int p1)] maxLocals)) (T24.setTop (mkF m 72 #[.val (.int p1), .val (.ref b2), .val (.int (0 : Int32)), .val (.ref a_BOOKING), .val (.int (0 : Int32)), .val (.int (0 : Int32)), .unset] [])) := fun t kk => k25 t (by
      show Steps p.tables e below (T24.setTop (mkF m 58 #[.val (.int p1), .val (.ref b2), .val (.int (0 : Int32)), .val (.ref a_BOOKING), .unset, .unset, .unset] [(.int (0 : Int32))])) _
      refine XS.istore X24.here hx rfl (hb hby at_58) rfl (l' := #[.val (.int p1), .val (.ref b2), .val (.int (0 : Int32)), .val (.ref a_BOOKING), .val (.int (0 : Int32)), .unset, .unset]) rfl ?_
      show Steps p.tables e below (T24.setTop (mkF m 60 #[.val (.int p1), .val (.ref b2), .val (.int (0 : Int32)), .val (.ref a_BOOKING), .val (.int (0 : Int32)), .unset, .unset] [])) _
      refine XS.iloadN X24.here hx rfl (hb hby at_60) rfl ?_
      show Steps p.tables e below (T24.setTop (mkF m 61 #[.val (.int p1), .val (.ref b2), .val (.int (0 : Int32)), .val (.ref a_BOOKING), .val (.int (0 : Int32)), .unset, .unset] [(.int (0 : Int32))])) _
      refine XS.iconst X24.here hx rfl (hb hby at_61) ?_
      show Steps p.tables e below (T24.setTop (mkF m 62 #[.val (.int p1), .val (.ref b2), .val (.int (0 : Int32)), .val (.ref a_BOOKING), .val (.int (0 : Int32)), .unset, .unset] [(.int (5 : Int32)), (.int (0 : Int32))])) _
      refine XS.icmpYes X24.here hx rfl (pc0 := 62) (pc' := 69) rfl (hb hby at_62) rfl (feq (by decide : ¬ ((0 : Int32) = (5 : Int32)))).2 (by decide) (by decide) ?_
      show Steps p.tables e below (T24.setTop (mkF m 69 #[.val (.int p1), .val (.ref b2), .val (.int (0 : Int32)), .val (.ref a_BOOKING), .val (.int (0 : Int32)), .unset, .unset] [])) _
      refine XS.iconst X24.here hx rfl (hb hby at_69) ?_
      show Steps p.tables e below (T24.setTop (mkF m 70 #[.val (.int p1), .val (.ref b2), .val (.int (0 : Int32)), .val (.ref a_BOOKING), .val (.int (0 : Int32)), .unset, .unset] [(.int (0 : Int32))])) _
      refine XS.istore X24.here hx rfl (hb hby at_70) rfl (l' := #[.val (.int p1), .val (.ref b2), .val (.int (0 : Int32)), .val (.ref a_BOOKING), .val (.int (0 : Int32)), .val (.int (0 : Int32)), .unset]) rfl ?_
      exact kk)
    have hS0 : s.Since s.vm 0 := State.WarmedH.since (State.WarmedH.refl s) 0
    have hkeep0 : ∀ (b : Addr) (cl : Cell), Z.heap[b]? = some cl → s.heap[b]? = some cl := fun b cl q => by rw [hs0]; exact q
    have IB0 : IB Z s.vm [] := by rw [hs0]; exact IB.start
    have hh0 : s.heap.size = n0 := by rw [hh]; exact hn0.symm
    have wS0 : ∀ d ∈ Bundle.stringAtoms, d.before a0 Z = true := fun d hd => by
      simp only [Bundle.stringAtoms, Bundle.sN, List.mem_cons, List.not_mem_nil, or_false] at hd
      rcases hd with rfl | rfl | rfl | rfl | rfl | rfl | rfl
      · exact (hw _ (List.mem_of_getElem? (i := 32) rfl))
      · exact (hw _ (List.mem_of_getElem? (i := 33) rfl))
      · exact (hw _ (List.mem_of_getElem? (i := 34) rfl))
      · exact (hw _ (List.mem_of_getElem? (i := 35) rfl))
      · exact (hw _ (List.mem_of_getElem? (i := 36) rfl))
      · exact (hw _ (List.mem_of_getElem? (i := 37) rfl))
      · exact (hw _ (List.mem_of_getElem? (i := 38) rfl))
    have Xb27 : Stand p l e room_1 (s.setVm s.vm) m #[(.int p1)] below meth c T24 (((((([] ++ [⟨b2, ((0 : Int32)).toNatClampNeg⟩]) ++ [⟨b2, ((1 : Int32)).toNatClampNeg⟩]) ++ [⟨b2, ((2 : Int32)).toNatClampNeg⟩]) ++ [⟨b2, ((3 : Int32)).toNatClampNeg⟩]) ++ [⟨b2, ((4 : Int32)).toNatClampNeg⟩]) ++ [⟨b2, ((5 : Int32)).toNatClampNeg⟩]) 1 6 := X24
    obtain ⟨a27, T27, h27, kn27, b27, kc27, X27, e27, E27, hS27, hk27, hZ27, hown27, xe27, xc27, xv27, V27, -, -, IB27, -, -, st27⟩ := ldcSVd (s := s) (vm0 := s.vm) Xb27 hx hZ hown (hw _ (List.mem_of_getElem? (i := 31) rfl)) wS0 e24 hS0 (Nat.zero_le _) (by rw [hh0]; exact N20) hkeep0 IB0 (by decide) (hheld) (hz _ (List.mem_of_getElem? (i := 2) rfl)) (vs := [(.int (68 : Int32)), (.int (101 : Int32)), (.int (108 : Int32)), (.int (101 : Int32)), (.int (116 : Int32)), (.int (101 : Int32)), (.int (100 : Int32))]) (z := 7) ⟨by decide, by decide⟩ (by decide) rfl (g := (mkF m 72 #[.val (.int p1), .val (.ref b2), .val (.int (0 : Int32)), .val (.ref a_BOOKING), .val (.int (0 : Int32)), .val (.int (0 : Int32)), .unset] [])) rfl (hb hby at_72) (n := 28) (by decide) (by decide) (by decide) (by decide)
    have f28 := V20.ext E27
    have K27 := (K20).ext E27
    have Zs27 : n0 ≤ h27.size := Nat.le_trans Zs20 E27.1
    have k27 : Go p e below (s₁.setTop (entryFrame m #[(.int p1)] maxLocals)) (T27.setTop (mkF m 74 #[.val (.int p1), .val (.ref b2), .val (.int (0 : Int32)), .val (.ref a_BOOKING), .val (.int (0 : Int32)), .val (.int (0 : Int32)), .unset] [(.ref a27)])) := fun t kk => k26 t (st27 t kk)
    have k29 : Go p e below (s₁.setTop (entryFrame m #[(.int p1)] maxLocals)) (T27.setTop (mkF m 75 #[.val (.int p1), .val (.ref b2), .val (.int (0 : Int32)), .val (.ref a_BOOKING), .val (.int (0 : Int32)), .val (.int (0 : Int32)), .unset] [(.ref a_BOOKING), (.ref a27)])) := fun t kk => k27 t (by
      show Steps p.tables e below (T27.setTop (mkF m 74 #[.val (.int p1), .val (.ref b2), .val (.int (0 : Int32)), .val (.ref a_BOOKING), .val (.int (0 : Int32)), .val (.int (0 : Int32)), .unset] [(.ref a27)])) _
      refine XS.aloadN X27.here hx rfl (hb hby at_74) rfl rfl ?_
      exact kk)
    obtain ⟨cq30, kq30, q30a, q30b, q30c⟩ := isOf hZ27 e27 (E_BOOKING.keep K27)
    obtain ⟨_, _, ⟨T30, L30, kx30, nx30⟩, -, X30, ⟨Lc30, hQ30, l30, y30, z30⟩, st30⟩ := X27.virtualBack hx (y := (⟨"com/example/slotwire/slotwire/RequestEvent", "fillerStatus", "()Ljava/lang/String;"⟩ : MethodName)) (z := (⟨"com/example/slotwire/slotwire/RequestEvent", "fillerStatus", "()Ljava/lang/String;"⟩ : MethodName)) hown27 (mvT hZ27 (hw _ (List.mem_of_getElem? (i := 39) rfl))) (mvT hZ27 (hw _ (List.mem_of_getElem? (i := 40) rfl))) (notFace_of_selects (args := #[]) (mvT hZ27 (hw _ (List.mem_of_getElem? (i := 42) rfl)))) (mvT hZ27 (hw _ (List.mem_of_getElem? (i := 42) rfl))) (mvT hZ27 (hw _ (List.mem_of_getElem? (i := 41) rfl))) (by decide) (backOf (W := 1) (rmF l Z a0 hw [] a_BOOKING s_BOOKING h27 n0 Zs27 (f_BOOKING.keep K27 nin0)) hZ27 (hw _ (List.mem_of_getElem? (i := 43) rfl)) (hw _ (List.mem_of_getElem? (i := 3) rfl)) (by decide) (by decide)) q30a q30c (g := (mkF m 75 #[.val (.int p1), .val (.ref b2), .val (.int (0 : Int32)), .val (.ref a_BOOKING), .val (.int (0 : Int32)), .val (.int (0 : Int32)), .unset] [(.ref a_BOOKING), (.ref a27)])) rfl (by rw [hml]; rfl) (Steps.refl _) (argsL := []) (rest := [(.ref a27)]) (lenOf pd_3 rfl) rfl (by show 2 * 0 + _ ≤ _; exact Nat.le_of_eq rfl) (hb hby at_75) (fun _ _ => ⟨rfl, e27, (by decide : 3 + 0 ≤ _), (by decide : 38 + 0 ≤ _)⟩)
    dsimp only [Pt.U, Pt.locs, Pt.cells, Pt.slots] at X30 l30 y30 z30 st30 hQ30
    subst l30 y30 z30
    obtain ⟨rfl, rfl, e30⟩ := hQ30
    try rw [List.append_nil] at X30
    have k30 : Go p e below (s₁.setTop (entryFrame m #[(.int p1)] maxLocals)) (T30.setTop (mkF m 78 #[.val (.int p1), .val (.ref b2), .val (.int (0 : Int32)), .val (.ref a_BOOKING), .val (.int (0 : Int32)), .val (.int (0 : Int32)), .unset] [(.ref s_BOOKING), (.ref a27)])) := fun t kk => k29 t (st30.trans kk)
    obtain ⟨cq31, kq31, q31a, q31b, q31c⟩ := isOf hZ27 e30 xe27
    obtain ⟨_, _, ⟨T31, L31, kx31, nx31⟩, -, X31, ⟨Lc31, hQ31, l31, y31, z31⟩, st31⟩ := X30.virtualBack hx (y := (⟨"java/lang/String", "equals", "(Ljava/lang/Object;)Z"⟩ : MethodName)) (z := (⟨"java/lang/String", "equals", "(Ljava/lang/Object;)Z"⟩ : MethodName)) hown27 (mvT hZ27 (hw _ (List.mem_of_getElem? (i := 46) rfl))) (mvT hZ27 (hw _ (List.mem_of_getElem? (i := 47) rfl))) (notFace_of_selects (args := #[]) (mvT hZ27 (hw _ (List.mem_of_getElem? (i := 49) rfl)))) (mvT hZ27 (hw _ (List.mem_of_getElem? (i := 49) rfl))) (mvT hZ27 (hw _ (List.mem_of_getElem? (i := 48) rfl))) (by decide) (backOf (W := 0) (rmEN l Z a0 hw [] a27 s_BOOKING b27 t_BOOKING kc27 k_BOOKING (7 : Int32) (6 : Int32) _ _ cs h27 n0 Zs27 (es_BOOKING.keep K27) xc27 (cs_BOOKING.keep K27 nin0) xv27 (vs_BOOKING.keep K27 nin0) V27 (as_BOOKING.keep K27 nin0) (own_stakeep S_C K27) hs1 (by decide) (by decide)) hZ27 (hw _ (List.mem_of_getElem? (i := 50) rfl)) (hw _ (List.mem_of_getElem? (i := 32) rfl)) (by decide) (by decide)) q31a q31c (g := (mkF m 78 #[.val (.int p1), .val (.ref b2), .val (.int (0 : Int32)), .val (.ref a_BOOKING), .val (.int (0 : Int32)), .val (.int (0 : Int32)), .unset] [(.ref s_BOOKING), (.ref a27)])) rfl (by rw [hml]; rfl) (Steps.refl _) (argsL := [(.ref s_BOOKING)]) (rest := []) (lenOf pd_4 rfl) rfl (by show 2 * 0 + _ ≤ _; exact Nat.le_of_eq rfl) (hb hby at_78) (fun _ _ => ⟨rfl, e30, (by decide : 3 + 0 ≤ _), (by decide : 38 + 0 ≤ _)⟩)
    dsimp only [Pt.U, Pt.locs, Pt.cells, Pt.slots] at X31 l31 y31 z31 st31 hQ31
    subst l31 y31 z31
    obtain ⟨rfl, rfl, e31⟩ := hQ31
    try rw [List.append_nil] at X31
    have k31 : Go p e below (s₁.setTop (entryFrame m #[(.int p1)] maxLocals)) (T31.setTop (mkF m 81 #[.val (.int p1), .val (.ref b2), .val (.int (0 : Int32)), .val (.ref a_BOOKING), .val (.int (0 : Int32)), .val (.int (0 : Int32)), .unset] [(.int (0 : Int32))])) := fun t kk => k30 t (st31.trans kk)
    have k32 : Go p e below (s₁.setTop (entryFrame m #[(.int p1)] maxLocals)) (T31.setTop (mkF m 114 #[.val (.int p1), .val (.ref b2), .val (.int (0 : Int32)), .val (.ref a_BOOKING), .val (.int (0 : Int32)), .val (.int (0 : Int32)), .val (.int (0 : Int32))] [(.int (1 : Int32))])) := fun t kk => k31 t (by
      show Steps p.tables e below (T31.setTop (mkF m 81 #[.val (.int p1), .val (.ref b2), .val (.int (0 : Int32)), .val (.ref a_BOOKING), .val (.int (0 : Int32)), .val (.int (0 : Int32)), .unset] [(.int (0 : Int32))])) _
      refine XS.istore X31.here hx rfl (hb hby at_81) rfl (l' := #[.val (.int p1), .val (.ref b2), .val (.int (0 : Int32)), .val (.ref a_BOOKING), .val (.int (0 : Int32)), .val (.int (0 : Int32)), .val (.int (0 : Int32))]) rfl ?_
      show Steps p.tables e below (T31.setTop (mkF m 83 #[.val (.int p1), .val (.ref b2), .val (.int (0 : Int32)), .val (.ref a_BOOKING), .val (.int (0 : Int32)), .val (.int (0 : Int32)), .val (.int (0 : Int32))] [])) _
      refine XS.iload X31.here hx rfl (hb hby at_83) rfl ?_
      show Steps p.tables e below (T31.setTop (mkF m 85 #[.val (.int p1), .val (.ref b2), .val (.int (0 : Int32)), .val (.ref a_BOOKING), .val (.int (0 : Int32)), .val (.int (0 : Int32)), .val (.int (0 : Int32))] [(.int (0 : Int32))])) _
      refine XS.iload X31.here hx rfl (hb hby at_85) rfl ?_
      show Steps p.tables e below (T31.setTop (mkF m 87 #[.val (.int p1), .val (.ref b2), .val (.int (0 : Int32)), .val (.ref a_BOOKING), .val (.int (0 : Int32)), .val (.int (0 : Int32)), .val (.int (0 : Int32))] [(.int (0 : Int32)), (.int (0 : Int32))])) _
      refine XS.icmpNo X31.here hx rfl (hb hby at_87) rfl (teq (by decide : (0 : Int32) = (0 : Int32))).2 ?_
      show Steps p.tables e below (T31.setTop (mkF m 90 #[.val (.int p1), .val (.ref b2), .val (.int (0 : Int32)), .val (.ref a_BOOKING), .val (.int (0 : Int32)), .val (.int (0 : Int32)), .val (.int (0 : Int32))] [])) _
      refine XS.iload X31.here hx rfl (hb hby at_90) rfl ?_
      show Steps p.tables e below (T31.setTop (mkF m 92 #[.val (.int p1), .val (.ref b2), .val (.int (0 : Int32)), .val (.ref a_BOOKING), .val (.int (0 : Int32)), .val (.int (0 : Int32)), .val (.int (0 : Int32))] [(.int (0 : Int32))])) _
      refine XS.iload X31.here hx rfl (hb hby at_92) rfl ?_
      show Steps p.tables e below (T31.setTop (mkF m 94 #[.val (.int p1), .val (.ref b2), .val (.int (0 : Int32)), .val (.ref a_BOOKING), .val (.int (0 : Int32)), .val (.int (0 : Int32)), .val (.int (0 : Int32))] [(.int (0 : Int32)), (.int (0 : Int32))])) _
      refine XS.icmpNo X31.here hx rfl (hb hby at_94) rfl (teq (by decide : (0 : Int32) = (0 : Int32))).2 ?_
      show Steps p.tables e below (T31.setTop (mkF m 97 #[.val (.int p1), .val (.ref b2), .val (.int (0 : Int32)), .val (.ref a_BOOKING), .val (.int (0 : Int32)), .val (.int (0 : Int32)), .val (.int (0 : Int32))] [])) _
      refine XS.iload X31.here hx rfl (hb hby at_97) rfl ?_
      show Steps p.tables e below (T31.setTop (mkF m 99 #[.val (.int p1), .val (.ref b2), .val (.int (0 : Int32)), .val (.ref a_BOOKING), .val (.int (0 : Int32)), .val (.int (0 : Int32)), .val (.int (0 : Int32))] [(.int (0 : Int32))])) _
      refine XS.ifYes X31.here hx rfl (pc0 := 99) (pc' := 109) rfl (hb hby at_99) rfl ((if0 _ _).trans (teq (by decide : (0 : Int32) = (0 : Int32))).1) (by decide) (by decide) ?_
      show Steps p.tables e below (T31.setTop (mkF m 109 #[.val (.int p1), .val (.ref b2), .val (.int (0 : Int32)), .val (.ref a_BOOKING), .val (.int (0 : Int32)), .val (.int (0 : Int32)), .val (.int (0 : Int32))] [])) _
      refine XS.iconst X31.here hx rfl (hb hby at_109) ?_
      show Steps p.tables e below (T31.setTop (mkF m 110 #[.val (.int p1), .val (.ref b2), .val (.int (0 : Int32)), .val (.ref a_BOOKING), .val (.int (0 : Int32)), .val (.int (0 : Int32)), .val (.int (0 : Int32))] [(.int (1 : Int32))])) _
      refine XS.goto X31.here hx rfl (pc0 := 110) (pc' := 114) rfl (hb hby at_110) (by decide) (by decide) ?_
      exact kk)
    obtain ⟨fs, hr, hrun, hended, hW⟩ := leaveW X31 hS27 (by rw [e31]; exact hk27) (v := some (.int (1 : Int32))) (fun h => by rw [Bd.returns] at h; cases h)
    refine ⟨_, _, k32 _ ?_, hrun, hended, _, _, rfl, ?_, hW.1, hW.2.1, hW.2.2.1, hW.2.2.2.mono (by decide) (by decide)⟩
    · show Steps p.tables e below (T31.setTop (mkF m 114 #[.val (.int p1), .val (.ref b2), .val (.int (0 : Int32)), .val (.ref a_BOOKING), .val (.int (0 : Int32)), .val (.int (0 : Int32)), .val (.int (0 : Int32))] [(.int (1 : Int32))])) _
      exact retN X31 hx (t := .boolean) Bd.returns (by simp) (hb hby at_114) hr
    · show Q0 Z p1 a_BOOKING a_RESCHEDULING a_MODIFICATION a_CANCELLATION a_DISCONTINUATION a_DELETION s_BOOKING t_BOOKING k_BOOKING s_CANCELLATION t_CANCELLATION k_CANCELLATION s_DELETION t_DELETION k_DELETION s_DISCONTINUATION t_DISCONTINUATION k_DISCONTINUATION cs h0 n0 _ T31.heap _
      rw [e31]
      exact ⟨rfl, N20⟩
  · obtain ⟨cl34, Ar34, -, S34, G34, H34, -⟩ := id V20
    have hin34 : ¬ ((1 : Int32) < 0 ∨ cl34.slots.size ≤ ((1 : Int32)).toNatClampNeg) := inb_of S34 ⟨by decide, by decide⟩
    have hat34 : cl34.slots[((1 : Int32)).toNatClampNeg]? = some (.ref a_RESCHEDULING) := H34.at hin34 rfl
    have k35 : Go p e below (s₁.setTop (entryFrame m #[(.int p1)] maxLocals)) (T20.setTop (mkF m 55 #[.val (.int p1), .val (.ref b2), .val (.int (1 : Int32)), .val (.ref a_RESCHEDULING), .unset, .unset, .unset] [(.ref a_RESCHEDULING)])) := fun t kk => k21 t (by
      show Steps p.tables e below (T20.setTop (mkF m 50 #[.val (.int p1), .val (.ref b2), .val (.int (1 : Int32)), .unset, .unset, .unset, .unset] [])) _
      refine XS.aloadN X20.here hx rfl (hb hby at_50) rfl rfl ?_
      show Steps p.tables e below (T20.setTop (mkF m 51 #[.val (.int p1), .val (.ref b2), .val (.int (1 : Int32)), .unset, .unset, .unset, .unset] [(.ref b2)])) _
      refine XS.iloadN X20.here hx rfl (hb hby at_51) rfl ?_
      show Steps p.tables e below (T20.setTop (mkF m 52 #[.val (.int p1), .val (.ref b2), .val (.int (1 : Int32)), .unset, .unset, .unset, .unset] [(.int (1 : Int32)), (.ref b2)])) _
      refine X20.aaload hx (j := (1 : Int32)) (v := (.ref a_RESCHEDULING)) (by rw [e20]; exact Ar34.1) (State.isArrayOf_alike hZ.alike Ar34.2.1) rfl Ar34.2.2 hin34 hat34 (g := (mkF m 52 #[.val (.int p1), .val (.ref b2), .val (.int (1 : Int32)), .unset, .unset, .unset, .unset] [(.int (1 : Int32)), (.ref b2)])) rfl rfl (hb hby at_52) _ ?_
      show Steps p.tables e below (T20.setTop (mkF m 53 #[.val (.int p1), .val (.ref b2), .val (.int (1 : Int32)), .unset, .unset, .unset, .unset] [(.ref a_RESCHEDULING)])) _
      refine XS.astoreN X20.here hx rfl (hb hby at_53) rfl rfl (l' := #[.val (.int p1), .val (.ref b2), .val (.int (1 : Int32)), .val (.ref a_RESCHEDULING), .unset, .unset, .unset]) rfl ?_
      show Steps p.tables e below (T20.setTop (mkF m 54 #[.val (.int p1), .val (.ref b2), .val (.int (1 : Int32)), .val (.ref a_RESCHEDULING), .unset, .unset, .unset] [])) _
      refine XS.aloadN X20.here hx rfl (hb hby at_54) rfl rfl ?_
      exact kk)
    obtain ⟨cq36, kq36, q36a, q36b, q36c⟩ := isOf hZ e20 (E_RESCHEDULING.keep K20)
    obtain ⟨_, _, ⟨T36, L36, kx36, nx36⟩, -, X36, ⟨Lc36, hQ36, l36, y36, z36⟩, st36⟩ := X20.virtualBack hx (y := (⟨"com/example/slotwire/slotwire/RequestEvent", "deletes", "()Z"⟩ : MethodName)) (z := (⟨"com/example/slotwire/slotwire/RequestEvent", "deletes", "()Z"⟩ : MethodName)) hown (mvT hZ (hw _ (List.mem_of_getElem? (i := 17) rfl))) (mvT hZ (hw _ (List.mem_of_getElem? (i := 18) rfl))) (notFace_of_selects (args := #[]) (mvT hZ (hw _ (List.mem_of_getElem? (i := 20) rfl)))) (mvT hZ (hw _ (List.mem_of_getElem? (i := 20) rfl))) (mvT hZ (hw _ (List.mem_of_getElem? (i := 19) rfl))) (by decide) (backOf (W := 0) (rmD l Z a0 hw [] a_RESCHEDULING (1 : Int32) h20 n0 Zs20 (o_RESCHEDULING.keep K20 nin0) (E_RESCHEDULING.keep K20) (by decide)) hZ (hw _ (List.mem_of_getElem? (i := 21) rfl)) (hw _ (List.mem_of_getElem? (i := 3) rfl)) (by decide) (by decide)) q36a q36c (g := (mkF m 55 #[.val (.int p1), .val (.ref b2), .val (.int (1 : Int32)), .val (.ref a_RESCHEDULING), .unset, .unset, .unset] [(.ref a_RESCHEDULING)])) rfl (by rw [hml]; rfl) (Steps.refl _) (argsL := []) (rest := []) (lenOf pd_2 rfl) rfl (by show 2 * 0 + _ ≤ _; exact Nat.le_of_eq rfl) (hb hby at_55) (fun _ _ => ⟨rfl, e20, (by decide : 1 + 0 ≤ _), (by decide : 6 + 0 ≤ _)⟩)
    dsimp only [Pt.U, Pt.locs, Pt.cells, Pt.slots] at X36 l36 y36 z36 st36 hQ36
    subst l36 y36 z36
    obtain ⟨rfl, rfl, e36⟩ := hQ36
    try rw [List.append_nil] at X36
    have k36 : Go p e below (s₁.setTop (entryFrame m #[(.int p1)] maxLocals)) (T36.setTop (mkF m 58 #[.val (.int p1), .val (.ref b2), .val (.int (1 : Int32)), .val (.ref a_RESCHEDULING), .unset, .unset, .unset] [(.int (own_del (1 : Int32)))])) := fun t kk => k35 t (st36.trans kk)
    have k37 : Go p e below (s₁.setTop (entryFrame m #[(.int p1)] maxLocals)) (T36.setTop (mkF m 58 #[.val (.int p1), .val (.ref b2), .val (.int (1 : Int32)), .val (.ref a_RESCHEDULING), .unset, .unset, .unset] [(.int (0 : Int32))])) := k36
    have k38 : Go p e below (s₁.setTop (entryFrame m #[(.int p1)] maxLocals)) (T36.setTop (mkF m 72 #[.val (.int p1), .val (.ref b2), .val (.int (1 : Int32)), .val (.ref a_RESCHEDULING), .val (.int (0 : Int32)), .val (.int (0 : Int32)), .unset] [])) := fun t kk => k37 t (by
      show Steps p.tables e below (T36.setTop (mkF m 58 #[.val (.int p1), .val (.ref b2), .val (.int (1 : Int32)), .val (.ref a_RESCHEDULING), .unset, .unset, .unset] [(.int (0 : Int32))])) _
      refine XS.istore X36.here hx rfl (hb hby at_58) rfl (l' := #[.val (.int p1), .val (.ref b2), .val (.int (1 : Int32)), .val (.ref a_RESCHEDULING), .val (.int (0 : Int32)), .unset, .unset]) rfl ?_
      show Steps p.tables e below (T36.setTop (mkF m 60 #[.val (.int p1), .val (.ref b2), .val (.int (1 : Int32)), .val (.ref a_RESCHEDULING), .val (.int (0 : Int32)), .unset, .unset] [])) _
      refine XS.iloadN X36.here hx rfl (hb hby at_60) rfl ?_
      show Steps p.tables e below (T36.setTop (mkF m 61 #[.val (.int p1), .val (.ref b2), .val (.int (1 : Int32)), .val (.ref a_RESCHEDULING), .val (.int (0 : Int32)), .unset, .unset] [(.int (1 : Int32))])) _
      refine XS.iconst X36.here hx rfl (hb hby at_61) ?_
      show Steps p.tables e below (T36.setTop (mkF m 62 #[.val (.int p1), .val (.ref b2), .val (.int (1 : Int32)), .val (.ref a_RESCHEDULING), .val (.int (0 : Int32)), .unset, .unset] [(.int (5 : Int32)), (.int (1 : Int32))])) _
      refine XS.icmpYes X36.here hx rfl (pc0 := 62) (pc' := 69) rfl (hb hby at_62) rfl (feq (by decide : ¬ ((1 : Int32) = (5 : Int32)))).2 (by decide) (by decide) ?_
      show Steps p.tables e below (T36.setTop (mkF m 69 #[.val (.int p1), .val (.ref b2), .val (.int (1 : Int32)), .val (.ref a_RESCHEDULING), .val (.int (0 : Int32)), .unset, .unset] [])) _
      refine XS.iconst X36.here hx rfl (hb hby at_69) ?_
      show Steps p.tables e below (T36.setTop (mkF m 70 #[.val (.int p1), .val (.ref b2), .val (.int (1 : Int32)), .val (.ref a_RESCHEDULING), .val (.int (0 : Int32)), .unset, .unset] [(.int (0 : Int32))])) _
      refine XS.istore X36.here hx rfl (hb hby at_70) rfl (l' := #[.val (.int p1), .val (.ref b2), .val (.int (1 : Int32)), .val (.ref a_RESCHEDULING), .val (.int (0 : Int32)), .val (.int (0 : Int32)), .unset]) rfl ?_
      exact kk)
    have hS0 : s.Since s.vm 0 := State.WarmedH.since (State.WarmedH.refl s) 0
    have hkeep0 : ∀ (b : Addr) (cl : Cell), Z.heap[b]? = some cl → s.heap[b]? = some cl := fun b cl q => by rw [hs0]; exact q
    have IB0 : IB Z s.vm [] := by rw [hs0]; exact IB.start
    have hh0 : s.heap.size = n0 := by rw [hh]; exact hn0.symm
    have wS0 : ∀ d ∈ Bundle.stringAtoms, d.before a0 Z = true := fun d hd => by
      simp only [Bundle.stringAtoms, Bundle.sN, List.mem_cons, List.not_mem_nil, or_false] at hd
      rcases hd with rfl | rfl | rfl | rfl | rfl | rfl | rfl
      · exact (hw _ (List.mem_of_getElem? (i := 32) rfl))
      · exact (hw _ (List.mem_of_getElem? (i := 33) rfl))
      · exact (hw _ (List.mem_of_getElem? (i := 34) rfl))
      · exact (hw _ (List.mem_of_getElem? (i := 35) rfl))
      · exact (hw _ (List.mem_of_getElem? (i := 36) rfl))
      · exact (hw _ (List.mem_of_getElem? (i := 37) rfl))
      · exact (hw _ (List.mem_of_getElem? (i := 38) rfl))
    have Xb39 : Stand p l e room_1 (s.setVm s.vm) m #[(.int p1)] below meth c T36 (((((([] ++ [⟨b2, ((0 : Int32)).toNatClampNeg⟩]) ++ [⟨b2, ((1 : Int32)).toNatClampNeg⟩]) ++ [⟨b2, ((2 : Int32)).toNatClampNeg⟩]) ++ [⟨b2, ((3 : Int32)).toNatClampNeg⟩]) ++ [⟨b2, ((4 : Int32)).toNatClampNeg⟩]) ++ [⟨b2, ((5 : Int32)).toNatClampNeg⟩]) 1 6 := X36
    obtain ⟨a39, T39, h39, kn39, b39, kc39, X39, e39, E39, hS39, hk39, hZ39, hown39, xe39, xc39, xv39, V39, -, -, IB39, -, -, st39⟩ := ldcSVd (s := s) (vm0 := s.vm) Xb39 hx hZ hown (hw _ (List.mem_of_getElem? (i := 31) rfl)) wS0 e36 hS0 (Nat.zero_le _) (by rw [hh0]; exact N20) hkeep0 IB0 (by decide) (hheld) (hz _ (List.mem_of_getElem? (i := 2) rfl)) (vs := [(.int (68 : Int32)), (.int (101 : Int32)), (.int (108 : Int32)), (.int (101 : Int32)), (.int (116 : Int32)), (.int (101 : Int32)), (.int (100 : Int32))]) (z := 7) ⟨by decide, by decide⟩ (by decide) rfl (g := (mkF m 72 #[.val (.int p1), .val (.ref b2), .val (.int (1 : Int32)), .val (.ref a_RESCHEDULING), .val (.int (0 : Int32)), .val (.int (0 : Int32)), .unset] [])) rfl (hb hby at_72) (n := 28) (by decide) (by decide) (by decide) (by decide)
    have f40 := V20.ext E39
    have K39 := (K20).ext E39
    have Zs39 : n0 ≤ h39.size := Nat.le_trans Zs20 E39.1
    have k39 : Go p e below (s₁.setTop (entryFrame m #[(.int p1)] maxLocals)) (T39.setTop (mkF m 74 #[.val (.int p1), .val (.ref b2), .val (.int (1 : Int32)), .val (.ref a_RESCHEDULING), .val (.int (0 : Int32)), .val (.int (0 : Int32)), .unset] [(.ref a39)])) := fun t kk => k38 t (st39 t kk)
    have k41 : Go p e below (s₁.setTop (entryFrame m #[(.int p1)] maxLocals)) (T39.setTop (mkF m 75 #[.val (.int p1), .val (.ref b2), .val (.int (1 : Int32)), .val (.ref a_RESCHEDULING), .val (.int (0 : Int32)), .val (.int (0 : Int32)), .unset] [(.ref a_RESCHEDULING), (.ref a39)])) := fun t kk => k39 t (by
      show Steps p.tables e below (T39.setTop (mkF m 74 #[.val (.int p1), .val (.ref b2), .val (.int (1 : Int32)), .val (.ref a_RESCHEDULING), .val (.int (0 : Int32)), .val (.int (0 : Int32)), .unset] [(.ref a39)])) _
      refine XS.aloadN X39.here hx rfl (hb hby at_74) rfl rfl ?_
      exact kk)
    obtain ⟨cq42, kq42, q42a, q42b, q42c⟩ := isOf hZ39 e39 (E_RESCHEDULING.keep K39)
    obtain ⟨_, _, ⟨T42, L42, kx42, nx42⟩, -, X42, ⟨Lc42, hQ42, l42, y42, z42⟩, st42⟩ := X39.virtualBack hx (y := (⟨"com/example/slotwire/slotwire/RequestEvent", "fillerStatus", "()Ljava/lang/String;"⟩ : MethodName)) (z := (⟨"com/example/slotwire/slotwire/RequestEvent", "fillerStatus", "()Ljava/lang/String;"⟩ : MethodName)) hown39 (mvT hZ39 (hw _ (List.mem_of_getElem? (i := 39) rfl))) (mvT hZ39 (hw _ (List.mem_of_getElem? (i := 40) rfl))) (notFace_of_selects (args := #[]) (mvT hZ39 (hw _ (List.mem_of_getElem? (i := 42) rfl)))) (mvT hZ39 (hw _ (List.mem_of_getElem? (i := 42) rfl))) (mvT hZ39 (hw _ (List.mem_of_getElem? (i := 41) rfl))) (by decide) (backOf (W := 1) (rmF l Z a0 hw [] a_RESCHEDULING s_BOOKING h39 n0 Zs39 (f_RESCHEDULING.keep K39 nin0)) hZ39 (hw _ (List.mem_of_getElem? (i := 43) rfl)) (hw _ (List.mem_of_getElem? (i := 3) rfl)) (by decide) (by decide)) q42a q42c (g := (mkF m 75 #[.val (.int p1), .val (.ref b2), .val (.int (1 : Int32)), .val (.ref a_RESCHEDULING), .val (.int (0 : Int32)), .val (.int (0 : Int32)), .unset] [(.ref a_RESCHEDULING), (.ref a39)])) rfl (by rw [hml]; rfl) (Steps.refl _) (argsL := []) (rest := [(.ref a39)]) (lenOf pd_3 rfl) rfl (by show 2 * 0 + _ ≤ _; exact Nat.le_of_eq rfl) (hb hby at_75) (fun _ _ => ⟨rfl, e39, (by decide : 3 + 0 ≤ _), (by decide : 38 + 0 ≤ _)⟩)
    dsimp only [Pt.U, Pt.locs, Pt.cells, Pt.slots] at X42 l42 y42 z42 st42 hQ42
    subst l42 y42 z42
    obtain ⟨rfl, rfl, e42⟩ := hQ42
    try rw [List.append_nil] at X42
    have k42 : Go p e below (s₁.setTop (entryFrame m #[(.int p1)] maxLocals)) (T42.setTop (mkF m 78 #[.val (.int p1), .val (.ref b2), .val (.int (1 : Int32)), .val (.ref a_RESCHEDULING), .val (.int (0 : Int32)), .val (.int (0 : Int32)), .unset] [(.ref s_BOOKING), (.ref a39)])) := fun t kk => k41 t (st42.trans kk)
    obtain ⟨cq43, kq43, q43a, q43b, q43c⟩ := isOf hZ39 e42 xe39
    obtain ⟨_, _, ⟨T43, L43, kx43, nx43⟩, -, X43, ⟨Lc43, hQ43, l43, y43, z43⟩, st43⟩ := X42.virtualBack hx (y := (⟨"java/lang/String", "equals", "(Ljava/lang/Object;)Z"⟩ : MethodName)) (z := (⟨"java/lang/String", "equals", "(Ljava/lang/Object;)Z"⟩ : MethodName)) hown39 (mvT hZ39 (hw _ (List.mem_of_getElem? (i := 46) rfl))) (mvT hZ39 (hw _ (List.mem_of_getElem? (i := 47) rfl))) (notFace_of_selects (args := #[]) (mvT hZ39 (hw _ (List.mem_of_getElem? (i := 49) rfl)))) (mvT hZ39 (hw _ (List.mem_of_getElem? (i := 49) rfl))) (mvT hZ39 (hw _ (List.mem_of_getElem? (i := 48) rfl))) (by decide) (backOf (W := 0) (rmEN l Z a0 hw [] a39 s_BOOKING b39 t_BOOKING kc39 k_BOOKING (7 : Int32) (6 : Int32) _ _ cs h39 n0 Zs39 (es_BOOKING.keep K39) xc39 (cs_BOOKING.keep K39 nin0) xv39 (vs_BOOKING.keep K39 nin0) V39 (as_BOOKING.keep K39 nin0) (own_stakeep S_C K39) hs1 (by decide) (by decide)) hZ39 (hw _ (List.mem_of_getElem? (i := 50) rfl)) (hw _ (List.mem_of_getElem? (i := 32) rfl)) (by decide) (by decide)) q43a q43c (g := (mkF m 78 #[.val (.int p1), .val (.ref b2), .val (.int (1 : Int32)), .val (.ref a_RESCHEDULING), .val (.int (0 : Int32)), .val (.int (0 : Int32)), .unset] [(.ref s_BOOKING), (.ref a39)])) rfl (by rw [hml]; rfl) (Steps.refl _) (argsL := [(.ref s_BOOKING)]) (rest := []) (lenOf pd_4 rfl) rfl (by show 2 * 0 + _ ≤ _; exact Nat.le_of_eq rfl) (hb hby at_78) (fun _ _ => ⟨rfl, e42, (by decide : 3 + 0 ≤ _), (by decide : 38 + 0 ≤ _)⟩)
    dsimp only [Pt.U, Pt.locs, Pt.cells, Pt.slots] at X43 l43 y43 z43 st43 hQ43
    subst l43 y43 z43
    obtain ⟨rfl, rfl, e43⟩ := hQ43
    try rw [List.append_nil] at X43
    have k43 : Go p e below (s₁.setTop (entryFrame m #[(.int p1)] maxLocals)) (T43.setTop (mkF m 81 #[.val (.int p1), .val (.ref b2), .val (.int (1 : Int32)), .val (.ref a_RESCHEDULING), .val (.int (0 : Int32)), .val (.int (0 : Int32)), .unset] [(.int (0 : Int32))])) := fun t kk => k42 t (st43.trans kk)
    have k44 : Go p e below (s₁.setTop (entryFrame m #[(.int p1)] maxLocals)) (T43.setTop (mkF m 114 #[.val (.int p1), .val (.ref b2), .val (.int (1 : Int32)), .val (.ref a_RESCHEDULING), .val (.int (0 : Int32)), .val (.int (0 : Int32)), .val (.int (0 : Int32))] [(.int (1 : Int32))])) := fun t kk => k43 t (by
      show Steps p.tables e below (T43.setTop (mkF m 81 #[.val (.int p1), .val (.ref b2), .val (.int (1 : Int32)), .val (.ref a_RESCHEDULING), .val (.int (0 : Int32)), .val (.int (0 : Int32)), .unset] [(.int (0 : Int32))])) _
      refine XS.istore X43.here hx rfl (hb hby at_81) rfl (l' := #[.val (.int p1), .val (.ref b2), .val (.int (1 : Int32)), .val (.ref a_RESCHEDULING), .val (.int (0 : Int32)), .val (.int (0 : Int32)), .val (.int (0 : Int32))]) rfl ?_
      show Steps p.tables e below (T43.setTop (mkF m 83 #[.val (.int p1), .val (.ref b2), .val (.int (1 : Int32)), .val (.ref a_RESCHEDULING), .val (.int (0 : Int32)), .val (.int (0 : Int32)), .val (.int (0 : Int32))] [])) _
      refine XS.iload X43.here hx rfl (hb hby at_83) rfl ?_
      show Steps p.tables e below (T43.setTop (mkF m 85 #[.val (.int p1), .val (.ref b2), .val (.int (1 : Int32)), .val (.ref a_RESCHEDULING), .val (.int (0 : Int32)), .val (.int (0 : Int32)), .val (.int (0 : Int32))] [(.int (0 : Int32))])) _
      refine XS.iload X43.here hx rfl (hb hby at_85) rfl ?_
      show Steps p.tables e below (T43.setTop (mkF m 87 #[.val (.int p1), .val (.ref b2), .val (.int (1 : Int32)), .val (.ref a_RESCHEDULING), .val (.int (0 : Int32)), .val (.int (0 : Int32)), .val (.int (0 : Int32))] [(.int (0 : Int32)), (.int (0 : Int32))])) _
      refine XS.icmpNo X43.here hx rfl (hb hby at_87) rfl (teq (by decide : (0 : Int32) = (0 : Int32))).2 ?_
      show Steps p.tables e below (T43.setTop (mkF m 90 #[.val (.int p1), .val (.ref b2), .val (.int (1 : Int32)), .val (.ref a_RESCHEDULING), .val (.int (0 : Int32)), .val (.int (0 : Int32)), .val (.int (0 : Int32))] [])) _
      refine XS.iload X43.here hx rfl (hb hby at_90) rfl ?_
      show Steps p.tables e below (T43.setTop (mkF m 92 #[.val (.int p1), .val (.ref b2), .val (.int (1 : Int32)), .val (.ref a_RESCHEDULING), .val (.int (0 : Int32)), .val (.int (0 : Int32)), .val (.int (0 : Int32))] [(.int (0 : Int32))])) _
      refine XS.iload X43.here hx rfl (hb hby at_92) rfl ?_
      show Steps p.tables e below (T43.setTop (mkF m 94 #[.val (.int p1), .val (.ref b2), .val (.int (1 : Int32)), .val (.ref a_RESCHEDULING), .val (.int (0 : Int32)), .val (.int (0 : Int32)), .val (.int (0 : Int32))] [(.int (0 : Int32)), (.int (0 : Int32))])) _
      refine XS.icmpNo X43.here hx rfl (hb hby at_94) rfl (teq (by decide : (0 : Int32) = (0 : Int32))).2 ?_
      show Steps p.tables e below (T43.setTop (mkF m 97 #[.val (.int p1), .val (.ref b2), .val (.int (1 : Int32)), .val (.ref a_RESCHEDULING), .val (.int (0 : Int32)), .val (.int (0 : Int32)), .val (.int (0 : Int32))] [])) _
      refine XS.iload X43.here hx rfl (hb hby at_97) rfl ?_
      show Steps p.tables e below (T43.setTop (mkF m 99 #[.val (.int p1), .val (.ref b2), .val (.int (1 : Int32)), .val (.ref a_RESCHEDULING), .val (.int (0 : Int32)), .val (.int (0 : Int32)), .val (.int (0 : Int32))] [(.int (0 : Int32))])) _
      refine XS.ifYes X43.here hx rfl (pc0 := 99) (pc' := 109) rfl (hb hby at_99) rfl ((if0 _ _).trans (teq (by decide : (0 : Int32) = (0 : Int32))).1) (by decide) (by decide) ?_
      show Steps p.tables e below (T43.setTop (mkF m 109 #[.val (.int p1), .val (.ref b2), .val (.int (1 : Int32)), .val (.ref a_RESCHEDULING), .val (.int (0 : Int32)), .val (.int (0 : Int32)), .val (.int (0 : Int32))] [])) _
      refine XS.iconst X43.here hx rfl (hb hby at_109) ?_
      show Steps p.tables e below (T43.setTop (mkF m 110 #[.val (.int p1), .val (.ref b2), .val (.int (1 : Int32)), .val (.ref a_RESCHEDULING), .val (.int (0 : Int32)), .val (.int (0 : Int32)), .val (.int (0 : Int32))] [(.int (1 : Int32))])) _
      refine XS.goto X43.here hx rfl (pc0 := 110) (pc' := 114) rfl (hb hby at_110) (by decide) (by decide) ?_
      exact kk)
    obtain ⟨fs, hr, hrun, hended, hW⟩ := leaveW X43 hS39 (by rw [e43]; exact hk39) (v := some (.int (1 : Int32))) (fun h => by rw [Bd.returns] at h; cases h)
    refine ⟨_, _, k44 _ ?_, hrun, hended, _, _, rfl, ?_, hW.1, hW.2.1, hW.2.2.1, hW.2.2.2.mono (by decide) (by decide)⟩
    · show Steps p.tables e below (T43.setTop (mkF m 114 #[.val (.int p1), .val (.ref b2), .val (.int (1 : Int32)), .val (.ref a_RESCHEDULING), .val (.int (0 : Int32)), .val (.int (0 : Int32)), .val (.int (0 : Int32))] [(.int (1 : Int32))])) _
      exact retN X43 hx (t := .boolean) Bd.returns (by simp) (hb hby at_114) hr
    · show Q0 Z p1 a_BOOKING a_RESCHEDULING a_MODIFICATION a_CANCELLATION a_DISCONTINUATION a_DELETION s_BOOKING t_BOOKING k_BOOKING s_CANCELLATION t_CANCELLATION k_CANCELLATION s_DELETION t_DELETION k_DELETION s_DISCONTINUATION t_DISCONTINUATION k_DISCONTINUATION cs h0 n0 _ T43.heap _
      rw [e43]
      exact ⟨rfl, N20⟩
  · obtain ⟨cl46, Ar46, -, S46, G46, H46, -⟩ := id V20
    have hin46 : ¬ ((2 : Int32) < 0 ∨ cl46.slots.size ≤ ((2 : Int32)).toNatClampNeg) := inb_of S46 ⟨by decide, by decide⟩
    have hat46 : cl46.slots[((2 : Int32)).toNatClampNeg]? = some (.ref a_MODIFICATION) := H46.at hin46 rfl
    have k47 : Go p e below (s₁.setTop (entryFrame m #[(.int p1)] maxLocals)) (T20.setTop (mkF m 55 #[.val (.int p1), .val (.ref b2), .val (.int (2 : Int32)), .val (.ref a_MODIFICATION), .unset, .unset, .unset] [(.ref a_MODIFICATION)])) := fun t kk => k21 t (by
      show Steps p.tables e below (T20.setTop (mkF m 50 #[.val (.int p1), .val (.ref b2), .val (.int (2 : Int32)), .unset, .unset, .unset, .unset] [])) _
      refine XS.aloadN X20.here hx rfl (hb hby at_50) rfl rfl ?_
      show Steps p.tables e below (T20.setTop (mkF m 51 #[.val (.int p1), .val (.ref b2), .val (.int (2 : Int32)), .unset, .unset, .unset, .unset] [(.ref b2)])) _
      refine XS.iloadN X20.here hx rfl (hb hby at_51) rfl ?_
      show Steps p.tables e below (T20.setTop (mkF m 52 #[.val (.int p1), .val (.ref b2), .val (.int (2 : Int32)), .unset, .unset, .unset, .unset] [(.int (2 : Int32)), (.ref b2)])) _
      refine X20.aaload hx (j := (2 : Int32)) (v := (.ref a_MODIFICATION)) (by rw [e20]; exact Ar46.1) (State.isArrayOf_alike hZ.alike Ar46.2.1) rfl Ar46.2.2 hin46 hat46 (g := (mkF m 52 #[.val (.int p1), .val (.ref b2), .val (.int (2 : Int32)), .unset, .unset, .unset, .unset] [(.int (2 : Int32)), (.ref b2)])) rfl rfl (hb hby at_52) _ ?_
      show Steps p.tables e below (T20.setTop (mkF m 53 #[.val (.int p1), .val (.ref b2), .val (.int (2 : Int32)), .unset, .unset, .unset, .unset] [(.ref a_MODIFICATION)])) _
      refine XS.astoreN X20.here hx rfl (hb hby at_53) rfl rfl (l' := #[.val (.int p1), .val (.ref b2), .val (.int (2 : Int32)), .val (.ref a_MODIFICATION), .unset, .unset, .unset]) rfl ?_
      show Steps p.tables e below (T20.setTop (mkF m 54 #[.val (.int p1), .val (.ref b2), .val (.int (2 : Int32)), .val (.ref a_MODIFICATION), .unset, .unset, .unset] [])) _
      refine XS.aloadN X20.here hx rfl (hb hby at_54) rfl rfl ?_
      exact kk)
    obtain ⟨cq48, kq48, q48a, q48b, q48c⟩ := isOf hZ e20 (E_MODIFICATION.keep K20)
    obtain ⟨_, _, ⟨T48, L48, kx48, nx48⟩, -, X48, ⟨Lc48, hQ48, l48, y48, z48⟩, st48⟩ := X20.virtualBack hx (y := (⟨"com/example/slotwire/slotwire/RequestEvent", "deletes", "()Z"⟩ : MethodName)) (z := (⟨"com/example/slotwire/slotwire/RequestEvent", "deletes", "()Z"⟩ : MethodName)) hown (mvT hZ (hw _ (List.mem_of_getElem? (i := 17) rfl))) (mvT hZ (hw _ (List.mem_of_getElem? (i := 18) rfl))) (notFace_of_selects (args := #[]) (mvT hZ (hw _ (List.mem_of_getElem? (i := 20) rfl)))) (mvT hZ (hw _ (List.mem_of_getElem? (i := 20) rfl))) (mvT hZ (hw _ (List.mem_of_getElem? (i := 19) rfl))) (by decide) (backOf (W := 0) (rmD l Z a0 hw [] a_MODIFICATION (2 : Int32) h20 n0 Zs20 (o_MODIFICATION.keep K20 nin0) (E_MODIFICATION.keep K20) (by decide)) hZ (hw _ (List.mem_of_getElem? (i := 21) rfl)) (hw _ (List.mem_of_getElem? (i := 3) rfl)) (by decide) (by decide)) q48a q48c (g := (mkF m 55 #[.val (.int p1), .val (.ref b2), .val (.int (2 : Int32)), .val (.ref a_MODIFICATION), .unset, .unset, .unset] [(.ref a_MODIFICATION)])) rfl (by rw [hml]; rfl) (Steps.refl _) (argsL := []) (rest := []) (lenOf pd_2 rfl) rfl (by show 2 * 0 + _ ≤ _; exact Nat.le_of_eq rfl) (hb hby at_55) (fun _ _ => ⟨rfl, e20, (by decide : 1 + 0 ≤ _), (by decide : 6 + 0 ≤ _)⟩)
    dsimp only [Pt.U, Pt.locs, Pt.cells, Pt.slots] at X48 l48 y48 z48 st48 hQ48
    subst l48 y48 z48
    obtain ⟨rfl, rfl, e48⟩ := hQ48
    try rw [List.append_nil] at X48
    have k48 : Go p e below (s₁.setTop (entryFrame m #[(.int p1)] maxLocals)) (T48.setTop (mkF m 58 #[.val (.int p1), .val (.ref b2), .val (.int (2 : Int32)), .val (.ref a_MODIFICATION), .unset, .unset, .unset] [(.int (own_del (2 : Int32)))])) := fun t kk => k47 t (st48.trans kk)
    have k49 : Go p e below (s₁.setTop (entryFrame m #[(.int p1)] maxLocals)) (T48.setTop (mkF m 58 #[.val (.int p1), .val (.ref b2), .val (.int (2 : Int32)), .val (.ref a_MODIFICATION), .unset, .unset, .unset] [(.int (0 : Int32))])) := k48
    have k50 : Go p e below (s₁.setTop (entryFrame m #[(.int p1)] maxLocals)) (T48.setTop (mkF m 72 #[.val (.int p1), .val (.ref b2), .val (.int (2 : Int32)), .val (.ref a_MODIFICATION), .val (.int (0 : Int32)), .val (.int (0 : Int32)), .unset] [])) := fun t kk => k49 t (by
      show Steps p.tables e below (T48.setTop (mkF m 58 #[.val (.int p1), .val (.ref b2), .val (.int (2 : Int32)), .val (.ref a_MODIFICATION), .unset, .unset, .unset] [(.int (0 : Int32))])) _
      refine XS.istore X48.here hx rfl (hb hby at_58) rfl (l' := #[.val (.int p1), .val (.ref b2), .val (.int (2 : Int32)), .val (.ref a_MODIFICATION), .val (.int (0 : Int32)), .unset, .unset]) rfl ?_
      show Steps p.tables e below (T48.setTop (mkF m 60 #[.val (.int p1), .val (.ref b2), .val (.int (2 : Int32)), .val (.ref a_MODIFICATION), .val (.int (0 : Int32)), .unset, .unset] [])) _
      refine XS.iloadN X48.here hx rfl (hb hby at_60) rfl ?_
      show Steps p.tables e below (T48.setTop (mkF m 61 #[.val (.int p1), .val (.ref b2), .val (.int (2 : Int32)), .val (.ref a_MODIFICATION), .val (.int (0 : Int32)), .unset, .unset] [(.int (2 : Int32))])) _
      refine XS.iconst X48.here hx rfl (hb hby at_61) ?_
      show Steps p.tables e below (T48.setTop (mkF m 62 #[.val (.int p1), .val (.ref b2), .val (.int (2 : Int32)), .val (.ref a_MODIFICATION), .val (.int (0 : Int32)), .unset, .unset] [(.int (5 : Int32)), (.int (2 : Int32))])) _
      refine XS.icmpYes X48.here hx rfl (pc0 := 62) (pc' := 69) rfl (hb hby at_62) rfl (feq (by decide : ¬ ((2 : Int32) = (5 : Int32)))).2 (by decide) (by decide) ?_
      show Steps p.tables e below (T48.setTop (mkF m 69 #[.val (.int p1), .val (.ref b2), .val (.int (2 : Int32)), .val (.ref a_MODIFICATION), .val (.int (0 : Int32)), .unset, .unset] [])) _
      refine XS.iconst X48.here hx rfl (hb hby at_69) ?_
      show Steps p.tables e below (T48.setTop (mkF m 70 #[.val (.int p1), .val (.ref b2), .val (.int (2 : Int32)), .val (.ref a_MODIFICATION), .val (.int (0 : Int32)), .unset, .unset] [(.int (0 : Int32))])) _
      refine XS.istore X48.here hx rfl (hb hby at_70) rfl (l' := #[.val (.int p1), .val (.ref b2), .val (.int (2 : Int32)), .val (.ref a_MODIFICATION), .val (.int (0 : Int32)), .val (.int (0 : Int32)), .unset]) rfl ?_
      exact kk)
    have hS0 : s.Since s.vm 0 := State.WarmedH.since (State.WarmedH.refl s) 0
    have hkeep0 : ∀ (b : Addr) (cl : Cell), Z.heap[b]? = some cl → s.heap[b]? = some cl := fun b cl q => by rw [hs0]; exact q
    have IB0 : IB Z s.vm [] := by rw [hs0]; exact IB.start
    have hh0 : s.heap.size = n0 := by rw [hh]; exact hn0.symm
    have wS0 : ∀ d ∈ Bundle.stringAtoms, d.before a0 Z = true := fun d hd => by
      simp only [Bundle.stringAtoms, Bundle.sN, List.mem_cons, List.not_mem_nil, or_false] at hd
      rcases hd with rfl | rfl | rfl | rfl | rfl | rfl | rfl
      · exact (hw _ (List.mem_of_getElem? (i := 32) rfl))
      · exact (hw _ (List.mem_of_getElem? (i := 33) rfl))
      · exact (hw _ (List.mem_of_getElem? (i := 34) rfl))
      · exact (hw _ (List.mem_of_getElem? (i := 35) rfl))
      · exact (hw _ (List.mem_of_getElem? (i := 36) rfl))
      · exact (hw _ (List.mem_of_getElem? (i := 37) rfl))
      · exact (hw _ (List.mem_of_getElem? (i := 38) rfl))
    have Xb51 : Stand p l e room_1 (s.setVm s.vm) m #[(.int p1)] below meth c T48 (((((([] ++ [⟨b2, ((0 : Int32)).toNatClampNeg⟩]) ++ [⟨b2, ((1 : Int32)).toNatClampNeg⟩]) ++ [⟨b2, ((2 : Int32)).toNatClampNeg⟩]) ++ [⟨b2, ((3 : Int32)).toNatClampNeg⟩]) ++ [⟨b2, ((4 : Int32)).toNatClampNeg⟩]) ++ [⟨b2, ((5 : Int32)).toNatClampNeg⟩]) 1 6 := X48
    obtain ⟨a51, T51, h51, kn51, b51, kc51, X51, e51, E51, hS51, hk51, hZ51, hown51, xe51, xc51, xv51, V51, -, -, IB51, -, -, st51⟩ := ldcSVd (s := s) (vm0 := s.vm) Xb51 hx hZ hown (hw _ (List.mem_of_getElem? (i := 31) rfl)) wS0 e48 hS0 (Nat.zero_le _) (by rw [hh0]; exact N20) hkeep0 IB0 (by decide) (hheld) (hz _ (List.mem_of_getElem? (i := 2) rfl)) (vs := [(.int (68 : Int32)), (.int (101 : Int32)), (.int (108 : Int32)), (.int (101 : Int32)), (.int (116 : Int32)), (.int (101 : Int32)), (.int (100 : Int32))]) (z := 7) ⟨by decide, by decide⟩ (by decide) rfl (g := (mkF m 72 #[.val (.int p1), .val (.ref b2), .val (.int (2 : Int32)), .val (.ref a_MODIFICATION), .val (.int (0 : Int32)), .val (.int (0 : Int32)), .unset] [])) rfl (hb hby at_72) (n := 28) (by decide) (by decide) (by decide) (by decide)
    have f52 := V20.ext E51
    have K51 := (K20).ext E51
    have Zs51 : n0 ≤ h51.size := Nat.le_trans Zs20 E51.1
    have k51 : Go p e below (s₁.setTop (entryFrame m #[(.int p1)] maxLocals)) (T51.setTop (mkF m 74 #[.val (.int p1), .val (.ref b2), .val (.int (2 : Int32)), .val (.ref a_MODIFICATION), .val (.int (0 : Int32)), .val (.int (0 : Int32)), .unset] [(.ref a51)])) := fun t kk => k50 t (st51 t kk)
    have k53 : Go p e below (s₁.setTop (entryFrame m #[(.int p1)] maxLocals)) (T51.setTop (mkF m 75 #[.val (.int p1), .val (.ref b2), .val (.int (2 : Int32)), .val (.ref a_MODIFICATION), .val (.int (0 : Int32)), .val (.int (0 : Int32)), .unset] [(.ref a_MODIFICATION), (.ref a51)])) := fun t kk => k51 t (by
      show Steps p.tables e below (T51.setTop (mkF m 74 #[.val (.int p1), .val (.ref b2), .val (.int (2 : Int32)), .val (.ref a_MODIFICATION), .val (.int (0 : Int32)), .val (.int (0 : Int32)), .unset] [(.ref a51)])) _
      refine XS.aloadN X51.here hx rfl (hb hby at_74) rfl rfl ?_
      exact kk)
    obtain ⟨cq54, kq54, q54a, q54b, q54c⟩ := isOf hZ51 e51 (E_MODIFICATION.keep K51)
    obtain ⟨_, _, ⟨T54, L54, kx54, nx54⟩, -, X54, ⟨Lc54, hQ54, l54, y54, z54⟩, st54⟩ := X51.virtualBack hx (y := (⟨"com/example/slotwire/slotwire/RequestEvent", "fillerStatus", "()Ljava/lang/String;"⟩ : MethodName)) (z := (⟨"com/example/slotwire/slotwire/RequestEvent", "fillerStatus", "()Ljava/lang/String;"⟩ : MethodName)) hown51 (mvT hZ51 (hw _ (List.mem_of_getElem? (i := 39) rfl))) (mvT hZ51 (hw _ (List.mem_of_getElem? (i := 40) rfl))) (notFace_of_selects (args := #[]) (mvT hZ51 (hw _ (List.mem_of_getElem? (i := 42) rfl)))) (mvT hZ51 (hw _ (List.mem_of_getElem? (i := 42) rfl))) (mvT hZ51 (hw _ (List.mem_of_getElem? (i := 41) rfl))) (by decide) (backOf (W := 1) (rmF l Z a0 hw [] a_MODIFICATION s_BOOKING h51 n0 Zs51 (f_MODIFICATION.keep K51 nin0)) hZ51 (hw _ (List.mem_of_getElem? (i := 43) rfl)) (hw _ (List.mem_of_getElem? (i := 3) rfl)) (by decide) (by decide)) q54a q54c (g := (mkF m 75 #[.val (.int p1), .val (.ref b2), .val (.int (2 : Int32)), .val (.ref a_MODIFICATION), .val (.int (0 : Int32)), .val (.int (0 : Int32)), .unset] [(.ref a_MODIFICATION), (.ref a51)])) rfl (by rw [hml]; rfl) (Steps.refl _) (argsL := []) (rest := [(.ref a51)]) (lenOf pd_3 rfl) rfl (by show 2 * 0 + _ ≤ _; exact Nat.le_of_eq rfl) (hb hby at_75) (fun _ _ => ⟨rfl, e51, (by decide : 3 + 0 ≤ _), (by decide : 38 + 0 ≤ _)⟩)
    dsimp only [Pt.U, Pt.locs, Pt.cells, Pt.slots] at X54 l54 y54 z54 st54 hQ54
    subst l54 y54 z54
    obtain ⟨rfl, rfl, e54⟩ := hQ54
    try rw [List.append_nil] at X54
    have k54 : Go p e below (s₁.setTop (entryFrame m #[(.int p1)] maxLocals)) (T54.setTop (mkF m 78 #[.val (.int p1), .val (.ref b2), .val (.int (2 : Int32)), .val (.ref a_MODIFICATION), .val (.int (0 : Int32)), .val (.int (0 : Int32)), .unset] [(.ref s_BOOKING), (.ref a51)])) := fun t kk => k53 t (st54.trans kk)
    obtain ⟨cq55, kq55, q55a, q55b, q55c⟩ := isOf hZ51 e54 xe51
    obtain ⟨_, _, ⟨T55, L55, kx55, nx55⟩, -, X55, ⟨Lc55, hQ55, l55, y55, z55⟩, st55⟩ := X54.virtualBack hx (y := (⟨"java/lang/String", "equals", "(Ljava/lang/Object;)Z"⟩ : MethodName)) (z := (⟨"java/lang/String", "equals", "(Ljava/lang/Object;)Z"⟩ : MethodName)) hown51 (mvT hZ51 (hw _ (List.mem_of_getElem? (i := 46) rfl))) (mvT hZ51 (hw _ (List.mem_of_getElem? (i := 47) rfl))) (notFace_of_selects (args := #[]) (mvT hZ51 (hw _ (List.mem_of_getElem? (i := 49) rfl)))) (mvT hZ51 (hw _ (List.mem_of_getElem? (i := 49) rfl))) (mvT hZ51 (hw _ (List.mem_of_getElem? (i := 48) rfl))) (by decide) (backOf (W := 0) (rmEN l Z a0 hw [] a51 s_BOOKING b51 t_BOOKING kc51 k_BOOKING (7 : Int32) (6 : Int32) _ _ cs h51 n0 Zs51 (es_BOOKING.keep K51) xc51 (cs_BOOKING.keep K51 nin0) xv51 (vs_BOOKING.keep K51 nin0) V51 (as_BOOKING.keep K51 nin0) (own_stakeep S_C K51) hs1 (by decide) (by decide)) hZ51 (hw _ (List.mem_of_getElem? (i := 50) rfl)) (hw _ (List.mem_of_getElem? (i := 32) rfl)) (by decide) (by decide)) q55a q55c (g := (mkF m 78 #[.val (.int p1), .val (.ref b2), .val (.int (2 : Int32)), .val (.ref a_MODIFICATION), .val (.int (0 : Int32)), .val (.int (0 : Int32)), .unset] [(.ref s_BOOKING), (.ref a51)])) rfl (by rw [hml]; rfl) (Steps.refl _) (argsL := [(.ref s_BOOKING)]) (rest := []) (lenOf pd_4 rfl) rfl (by show 2 * 0 + _ ≤ _; exact Nat.le_of_eq rfl) (hb hby at_78) (fun _ _ => ⟨rfl, e54, (by decide : 3 + 0 ≤ _), (by decide : 38 + 0 ≤ _)⟩)
    dsimp only [Pt.U, Pt.locs, Pt.cells, Pt.slots] at X55 l55 y55 z55 st55 hQ55
    subst l55 y55 z55
    obtain ⟨rfl, rfl, e55⟩ := hQ55
    try rw [List.append_nil] at X55
    have k55 : Go p e below (s₁.setTop (entryFrame m #[(.int p1)] maxLocals)) (T55.setTop (mkF m 81 #[.val (.int p1), .val (.ref b2), .val (.int (2 : Int32)), .val (.ref a_MODIFICATION), .val (.int (0 : Int32)), .val (.int (0 : Int32)), .unset] [(.int (0 : Int32))])) := fun t kk => k54 t (st55.trans kk)
    have k56 : Go p e below (s₁.setTop (entryFrame m #[(.int p1)] maxLocals)) (T55.setTop (mkF m 114 #[.val (.int p1), .val (.ref b2), .val (.int (2 : Int32)), .val (.ref a_MODIFICATION), .val (.int (0 : Int32)), .val (.int (0 : Int32)), .val (.int (0 : Int32))] [(.int (1 : Int32))])) := fun t kk => k55 t (by
      show Steps p.tables e below (T55.setTop (mkF m 81 #[.val (.int p1), .val (.ref b2), .val (.int (2 : Int32)), .val (.ref a_MODIFICATION), .val (.int (0 : Int32)), .val (.int (0 : Int32)), .unset] [(.int (0 : Int32))])) _
      refine XS.istore X55.here hx rfl (hb hby at_81) rfl (l' := #[.val (.int p1), .val (.ref b2), .val (.int (2 : Int32)), .val (.ref a_MODIFICATION), .val (.int (0 : Int32)), .val (.int (0 : Int32)), .val (.int (0 : Int32))]) rfl ?_
      show Steps p.tables e below (T55.setTop (mkF m 83 #[.val (.int p1), .val (.ref b2), .val (.int (2 : Int32)), .val (.ref a_MODIFICATION), .val (.int (0 : Int32)), .val (.int (0 : Int32)), .val (.int (0 : Int32))] [])) _
      refine XS.iload X55.here hx rfl (hb hby at_83) rfl ?_
      show Steps p.tables e below (T55.setTop (mkF m 85 #[.val (.int p1), .val (.ref b2), .val (.int (2 : Int32)), .val (.ref a_MODIFICATION), .val (.int (0 : Int32)), .val (.int (0 : Int32)), .val (.int (0 : Int32))] [(.int (0 : Int32))])) _
      refine XS.iload X55.here hx rfl (hb hby at_85) rfl ?_
      show Steps p.tables e below (T55.setTop (mkF m 87 #[.val (.int p1), .val (.ref b2), .val (.int (2 : Int32)), .val (.ref a_MODIFICATION), .val (.int (0 : Int32)), .val (.int (0 : Int32)), .val (.int (0 : Int32))] [(.int (0 : Int32)), (.int (0 : Int32))])) _
      refine XS.icmpNo X55.here hx rfl (hb hby at_87) rfl (teq (by decide : (0 : Int32) = (0 : Int32))).2 ?_
      show Steps p.tables e below (T55.setTop (mkF m 90 #[.val (.int p1), .val (.ref b2), .val (.int (2 : Int32)), .val (.ref a_MODIFICATION), .val (.int (0 : Int32)), .val (.int (0 : Int32)), .val (.int (0 : Int32))] [])) _
      refine XS.iload X55.here hx rfl (hb hby at_90) rfl ?_
      show Steps p.tables e below (T55.setTop (mkF m 92 #[.val (.int p1), .val (.ref b2), .val (.int (2 : Int32)), .val (.ref a_MODIFICATION), .val (.int (0 : Int32)), .val (.int (0 : Int32)), .val (.int (0 : Int32))] [(.int (0 : Int32))])) _
      refine XS.iload X55.here hx rfl (hb hby at_92) rfl ?_
      show Steps p.tables e below (T55.setTop (mkF m 94 #[.val (.int p1), .val (.ref b2), .val (.int (2 : Int32)), .val (.ref a_MODIFICATION), .val (.int (0 : Int32)), .val (.int (0 : Int32)), .val (.int (0 : Int32))] [(.int (0 : Int32)), (.int (0 : Int32))])) _
      refine XS.icmpNo X55.here hx rfl (hb hby at_94) rfl (teq (by decide : (0 : Int32) = (0 : Int32))).2 ?_
      show Steps p.tables e below (T55.setTop (mkF m 97 #[.val (.int p1), .val (.ref b2), .val (.int (2 : Int32)), .val (.ref a_MODIFICATION), .val (.int (0 : Int32)), .val (.int (0 : Int32)), .val (.int (0 : Int32))] [])) _
      refine XS.iload X55.here hx rfl (hb hby at_97) rfl ?_
      show Steps p.tables e below (T55.setTop (mkF m 99 #[.val (.int p1), .val (.ref b2), .val (.int (2 : Int32)), .val (.ref a_MODIFICATION), .val (.int (0 : Int32)), .val (.int (0 : Int32)), .val (.int (0 : Int32))] [(.int (0 : Int32))])) _
      refine XS.ifYes X55.here hx rfl (pc0 := 99) (pc' := 109) rfl (hb hby at_99) rfl ((if0 _ _).trans (teq (by decide : (0 : Int32) = (0 : Int32))).1) (by decide) (by decide) ?_
      show Steps p.tables e below (T55.setTop (mkF m 109 #[.val (.int p1), .val (.ref b2), .val (.int (2 : Int32)), .val (.ref a_MODIFICATION), .val (.int (0 : Int32)), .val (.int (0 : Int32)), .val (.int (0 : Int32))] [])) _
      refine XS.iconst X55.here hx rfl (hb hby at_109) ?_
      show Steps p.tables e below (T55.setTop (mkF m 110 #[.val (.int p1), .val (.ref b2), .val (.int (2 : Int32)), .val (.ref a_MODIFICATION), .val (.int (0 : Int32)), .val (.int (0 : Int32)), .val (.int (0 : Int32))] [(.int (1 : Int32))])) _
      refine XS.goto X55.here hx rfl (pc0 := 110) (pc' := 114) rfl (hb hby at_110) (by decide) (by decide) ?_
      exact kk)
    obtain ⟨fs, hr, hrun, hended, hW⟩ := leaveW X55 hS51 (by rw [e55]; exact hk51) (v := some (.int (1 : Int32))) (fun h => by rw [Bd.returns] at h; cases h)
    refine ⟨_, _, k56 _ ?_, hrun, hended, _, _, rfl, ?_, hW.1, hW.2.1, hW.2.2.1, hW.2.2.2.mono (by decide) (by decide)⟩
    · show Steps p.tables e below (T55.setTop (mkF m 114 #[.val (.int p1), .val (.ref b2), .val (.int (2 : Int32)), .val (.ref a_MODIFICATION), .val (.int (0 : Int32)), .val (.int (0 : Int32)), .val (.int (0 : Int32))] [(.int (1 : Int32))])) _
      exact retN X55 hx (t := .boolean) Bd.returns (by simp) (hb hby at_114) hr
    · show Q0 Z p1 a_BOOKING a_RESCHEDULING a_MODIFICATION a_CANCELLATION a_DISCONTINUATION a_DELETION s_BOOKING t_BOOKING k_BOOKING s_CANCELLATION t_CANCELLATION k_CANCELLATION s_DELETION t_DELETION k_DELETION s_DISCONTINUATION t_DISCONTINUATION k_DISCONTINUATION cs h0 n0 _ T55.heap _
      rw [e55]
      exact ⟨rfl, N20⟩
  · obtain ⟨cl58, Ar58, -, S58, G58, H58, -⟩ := id V20
    have hin58 : ¬ ((3 : Int32) < 0 ∨ cl58.slots.size ≤ ((3 : Int32)).toNatClampNeg) := inb_of S58 ⟨by decide, by decide⟩
    have hat58 : cl58.slots[((3 : Int32)).toNatClampNeg]? = some (.ref a_CANCELLATION) := H58.at hin58 rfl
    have k59 : Go p e below (s₁.setTop (entryFrame m #[(.int p1)] maxLocals)) (T20.setTop (mkF m 55 #[.val (.int p1), .val (.ref b2), .val (.int (3 : Int32)), .val (.ref a_CANCELLATION), .unset, .unset, .unset] [(.ref a_CANCELLATION)])) := fun t kk => k21 t (by
      show Steps p.tables e below (T20.setTop (mkF m 50 #[.val (.int p1), .val (.ref b2), .val (.int (3 : Int32)), .unset, .unset, .unset, .unset] [])) _
      refine XS.aloadN X20.here hx rfl (hb hby at_50) rfl rfl ?_
      show Steps p.tables e below (T20.setTop (mkF m 51 #[.val (.int p1), .val (.ref b2), .val (.int (3 : Int32)), .unset, .unset, .unset, .unset] [(.ref b2)])) _
      refine XS.iloadN X20.here hx rfl (hb hby at_51) rfl ?_
      show Steps p.tables e below (T20.setTop (mkF m 52 #[.val (.int p1), .val (.ref b2), .val (.int (3 : Int32)), .unset, .unset, .unset, .unset] [(.int (3 : Int32)), (.ref b2)])) _
      refine X20.aaload hx (j := (3 : Int32)) (v := (.ref a_CANCELLATION)) (by rw [e20]; exact Ar58.1) (State.isArrayOf_alike hZ.alike Ar58.2.1) rfl Ar58.2.2 hin58 hat58 (g := (mkF m 52 #[.val (.int p1), .val (.ref b2), .val (.int (3 : Int32)), .unset, .unset, .unset, .unset] [(.int (3 : Int32)), (.ref b2)])) rfl rfl (hb hby at_52) _ ?_
      show Steps p.tables e below (T20.setTop (mkF m 53 #[.val (.int p1), .val (.ref b2), .val (.int (3 : Int32)), .unset, .unset, .unset, .unset] [(.ref a_CANCELLATION)])) _
      refine XS.astoreN X20.here hx rfl (hb hby at_53) rfl rfl (l' := #[.val (.int p1), .val (.ref b2), .val (.int (3 : Int32)), .val (.ref a_CANCELLATION), .unset, .unset, .unset]) rfl ?_
      show Steps p.tables e below (T20.setTop (mkF m 54 #[.val (.int p1), .val (.ref b2), .val (.int (3 : Int32)), .val (.ref a_CANCELLATION), .unset, .unset, .unset] [])) _
      refine XS.aloadN X20.here hx rfl (hb hby at_54) rfl rfl ?_
      exact kk)
    obtain ⟨cq60, kq60, q60a, q60b, q60c⟩ := isOf hZ e20 (E_CANCELLATION.keep K20)
    obtain ⟨_, _, ⟨T60, L60, kx60, nx60⟩, -, X60, ⟨Lc60, hQ60, l60, y60, z60⟩, st60⟩ := X20.virtualBack hx (y := (⟨"com/example/slotwire/slotwire/RequestEvent", "deletes", "()Z"⟩ : MethodName)) (z := (⟨"com/example/slotwire/slotwire/RequestEvent", "deletes", "()Z"⟩ : MethodName)) hown (mvT hZ (hw _ (List.mem_of_getElem? (i := 17) rfl))) (mvT hZ (hw _ (List.mem_of_getElem? (i := 18) rfl))) (notFace_of_selects (args := #[]) (mvT hZ (hw _ (List.mem_of_getElem? (i := 20) rfl)))) (mvT hZ (hw _ (List.mem_of_getElem? (i := 20) rfl))) (mvT hZ (hw _ (List.mem_of_getElem? (i := 19) rfl))) (by decide) (backOf (W := 0) (rmD l Z a0 hw [] a_CANCELLATION (3 : Int32) h20 n0 Zs20 (o_CANCELLATION.keep K20 nin0) (E_CANCELLATION.keep K20) (by decide)) hZ (hw _ (List.mem_of_getElem? (i := 21) rfl)) (hw _ (List.mem_of_getElem? (i := 3) rfl)) (by decide) (by decide)) q60a q60c (g := (mkF m 55 #[.val (.int p1), .val (.ref b2), .val (.int (3 : Int32)), .val (.ref a_CANCELLATION), .unset, .unset, .unset] [(.ref a_CANCELLATION)])) rfl (by rw [hml]; rfl) (Steps.refl _) (argsL := []) (rest := []) (lenOf pd_2 rfl) rfl (by show 2 * 0 + _ ≤ _; exact Nat.le_of_eq rfl) (hb hby at_55) (fun _ _ => ⟨rfl, e20, (by decide : 1 + 0 ≤ _), (by decide : 6 + 0 ≤ _)⟩)
    dsimp only [Pt.U, Pt.locs, Pt.cells, Pt.slots] at X60 l60 y60 z60 st60 hQ60
    subst l60 y60 z60
    obtain ⟨rfl, rfl, e60⟩ := hQ60
    try rw [List.append_nil] at X60
    have k60 : Go p e below (s₁.setTop (entryFrame m #[(.int p1)] maxLocals)) (T60.setTop (mkF m 58 #[.val (.int p1), .val (.ref b2), .val (.int (3 : Int32)), .val (.ref a_CANCELLATION), .unset, .unset, .unset] [(.int (own_del (3 : Int32)))])) := fun t kk => k59 t (st60.trans kk)
    have k61 : Go p e below (s₁.setTop (entryFrame m #[(.int p1)] maxLocals)) (T60.setTop (mkF m 58 #[.val (.int p1), .val (.ref b2), .val (.int (3 : Int32)), .val (.ref a_CANCELLATION), .unset, .unset, .unset] [(.int (0 : Int32))])) := k60
    have k62 : Go p e below (s₁.setTop (entryFrame m #[(.int p1)] maxLocals)) (T60.setTop (mkF m 72 #[.val (.int p1), .val (.ref b2), .val (.int (3 : Int32)), .val (.ref a_CANCELLATION), .val (.int (0 : Int32)), .val (.int (0 : Int32)), .unset] [])) := fun t kk => k61 t (by
      show Steps p.tables e below (T60.setTop (mkF m 58 #[.val (.int p1), .val (.ref b2), .val (.int (3 : Int32)), .val (.ref a_CANCELLATION), .unset, .unset, .unset] [(.int (0 : Int32))])) _
      refine XS.istore X60.here hx rfl (hb hby at_58) rfl (l' := #[.val (.int p1), .val (.ref b2), .val (.int (3 : Int32)), .val (.ref a_CANCELLATION), .val (.int (0 : Int32)), .unset, .unset]) rfl ?_
      show Steps p.tables e below (T60.setTop (mkF m 60 #[.val (.int p1), .val (.ref b2), .val (.int (3 : Int32)), .val (.ref a_CANCELLATION), .val (.int (0 : Int32)), .unset, .unset] [])) _
      refine XS.iloadN X60.here hx rfl (hb hby at_60) rfl ?_
      show Steps p.tables e below (T60.setTop (mkF m 61 #[.val (.int p1), .val (.ref b2), .val (.int (3 : Int32)), .val (.ref a_CANCELLATION), .val (.int (0 : Int32)), .unset, .unset] [(.int (3 : Int32))])) _
      refine XS.iconst X60.here hx rfl (hb hby at_61) ?_
      show Steps p.tables e below (T60.setTop (mkF m 62 #[.val (.int p1), .val (.ref b2), .val (.int (3 : Int32)), .val (.ref a_CANCELLATION), .val (.int (0 : Int32)), .unset, .unset] [(.int (5 : Int32)), (.int (3 : Int32))])) _
      refine XS.icmpYes X60.here hx rfl (pc0 := 62) (pc' := 69) rfl (hb hby at_62) rfl (feq (by decide : ¬ ((3 : Int32) = (5 : Int32)))).2 (by decide) (by decide) ?_
      show Steps p.tables e below (T60.setTop (mkF m 69 #[.val (.int p1), .val (.ref b2), .val (.int (3 : Int32)), .val (.ref a_CANCELLATION), .val (.int (0 : Int32)), .unset, .unset] [])) _
      refine XS.iconst X60.here hx rfl (hb hby at_69) ?_
      show Steps p.tables e below (T60.setTop (mkF m 70 #[.val (.int p1), .val (.ref b2), .val (.int (3 : Int32)), .val (.ref a_CANCELLATION), .val (.int (0 : Int32)), .unset, .unset] [(.int (0 : Int32))])) _
      refine XS.istore X60.here hx rfl (hb hby at_70) rfl (l' := #[.val (.int p1), .val (.ref b2), .val (.int (3 : Int32)), .val (.ref a_CANCELLATION), .val (.int (0 : Int32)), .val (.int (0 : Int32)), .unset]) rfl ?_
      exact kk)
    have hS0 : s.Since s.vm 0 := State.WarmedH.since (State.WarmedH.refl s) 0
    have hkeep0 : ∀ (b : Addr) (cl : Cell), Z.heap[b]? = some cl → s.heap[b]? = some cl := fun b cl q => by rw [hs0]; exact q
    have IB0 : IB Z s.vm [] := by rw [hs0]; exact IB.start
    have hh0 : s.heap.size = n0 := by rw [hh]; exact hn0.symm
    have wS0 : ∀ d ∈ Bundle.stringAtoms, d.before a0 Z = true := fun d hd => by
      simp only [Bundle.stringAtoms, Bundle.sN, List.mem_cons, List.not_mem_nil, or_false] at hd
      rcases hd with rfl | rfl | rfl | rfl | rfl | rfl | rfl
      · exact (hw _ (List.mem_of_getElem? (i := 32) rfl))
      · exact (hw _ (List.mem_of_getElem? (i := 33) rfl))
      · exact (hw _ (List.mem_of_getElem? (i := 34) rfl))
      · exact (hw _ (List.mem_of_getElem? (i := 35) rfl))
      · exact (hw _ (List.mem_of_getElem? (i := 36) rfl))
      · exact (hw _ (List.mem_of_getElem? (i := 37) rfl))
      · exact (hw _ (List.mem_of_getElem? (i := 38) rfl))
    have Xb63 : Stand p l e room_1 (s.setVm s.vm) m #[(.int p1)] below meth c T60 (((((([] ++ [⟨b2, ((0 : Int32)).toNatClampNeg⟩]) ++ [⟨b2, ((1 : Int32)).toNatClampNeg⟩]) ++ [⟨b2, ((2 : Int32)).toNatClampNeg⟩]) ++ [⟨b2, ((3 : Int32)).toNatClampNeg⟩]) ++ [⟨b2, ((4 : Int32)).toNatClampNeg⟩]) ++ [⟨b2, ((5 : Int32)).toNatClampNeg⟩]) 1 6 := X60
    obtain ⟨a63, T63, h63, kn63, b63, kc63, X63, e63, E63, hS63, hk63, hZ63, hown63, xe63, xc63, xv63, V63, -, -, IB63, -, -, st63⟩ := ldcSVd (s := s) (vm0 := s.vm) Xb63 hx hZ hown (hw _ (List.mem_of_getElem? (i := 31) rfl)) wS0 e60 hS0 (Nat.zero_le _) (by rw [hh0]; exact N20) hkeep0 IB0 (by decide) (hheld) (hz _ (List.mem_of_getElem? (i := 2) rfl)) (vs := [(.int (68 : Int32)), (.int (101 : Int32)), (.int (108 : Int32)), (.int (101 : Int32)), (.int (116 : Int32)), (.int (101 : Int32)), (.int (100 : Int32))]) (z := 7) ⟨by decide, by decide⟩ (by decide) rfl (g := (mkF m 72 #[.val (.int p1), .val (.ref b2), .val (.int (3 : Int32)), .val (.ref a_CANCELLATION), .val (.int (0 : Int32)), .val (.int (0 : Int32)), .unset] [])) rfl (hb hby at_72) (n := 28) (by decide) (by decide) (by decide) (by decide)
    have f64 := V20.ext E63
    have K63 := (K20).ext E63
    have Zs63 : n0 ≤ h63.size := Nat.le_trans Zs20 E63.1
    have k63 : Go p e below (s₁.setTop (entryFrame m #[(.int p1)] maxLocals)) (T63.setTop (mkF m 74 #[.val (.int p1), .val (.ref b2), .val (.int (3 : Int32)), .val (.ref a_CANCELLATION), .val (.int (0 : Int32)), .val (.int (0 : Int32)), .unset] [(.ref a63)])) := fun t kk => k62 t (st63 t kk)
    have k65 : Go p e below (s₁.setTop (entryFrame m #[(.int p1)] maxLocals)) (T63.setTop (mkF m 75 #[.val (.int p1), .val (.ref b2), .val (.int (3 : Int32)), .val (.ref a_CANCELLATION), .val (.int (0 : Int32)), .val (.int (0 : Int32)), .unset] [(.ref a_CANCELLATION), (.ref a63)])) := fun t kk => k63 t (by
      show Steps p.tables e below (T63.setTop (mkF m 74 #[.val (.int p1), .val (.ref b2), .val (.int (3 : Int32)), .val (.ref a_CANCELLATION), .val (.int (0 : Int32)), .val (.int (0 : Int32)), .unset] [(.ref a63)])) _
      refine XS.aloadN X63.here hx rfl (hb hby at_74) rfl rfl ?_
      exact kk)
    obtain ⟨cq66, kq66, q66a, q66b, q66c⟩ := isOf hZ63 e63 (E_CANCELLATION.keep K63)
    obtain ⟨_, _, ⟨T66, L66, kx66, nx66⟩, -, X66, ⟨Lc66, hQ66, l66, y66, z66⟩, st66⟩ := X63.virtualBack hx (y := (⟨"com/example/slotwire/slotwire/RequestEvent", "fillerStatus", "()Ljava/lang/String;"⟩ : MethodName)) (z := (⟨"com/example/slotwire/slotwire/RequestEvent", "fillerStatus", "()Ljava/lang/String;"⟩ : MethodName)) hown63 (mvT hZ63 (hw _ (List.mem_of_getElem? (i := 39) rfl))) (mvT hZ63 (hw _ (List.mem_of_getElem? (i := 40) rfl))) (notFace_of_selects (args := #[]) (mvT hZ63 (hw _ (List.mem_of_getElem? (i := 42) rfl)))) (mvT hZ63 (hw _ (List.mem_of_getElem? (i := 42) rfl))) (mvT hZ63 (hw _ (List.mem_of_getElem? (i := 41) rfl))) (by decide) (backOf (W := 1) (rmF l Z a0 hw [] a_CANCELLATION s_CANCELLATION h63 n0 Zs63 (f_CANCELLATION.keep K63 nin0)) hZ63 (hw _ (List.mem_of_getElem? (i := 43) rfl)) (hw _ (List.mem_of_getElem? (i := 3) rfl)) (by decide) (by decide)) q66a q66c (g := (mkF m 75 #[.val (.int p1), .val (.ref b2), .val (.int (3 : Int32)), .val (.ref a_CANCELLATION), .val (.int (0 : Int32)), .val (.int (0 : Int32)), .unset] [(.ref a_CANCELLATION), (.ref a63)])) rfl (by rw [hml]; rfl) (Steps.refl _) (argsL := []) (rest := [(.ref a63)]) (lenOf pd_3 rfl) rfl (by show 2 * 0 + _ ≤ _; exact Nat.le_of_eq rfl) (hb hby at_75) (fun _ _ => ⟨rfl, e63, (by decide : 3 + 0 ≤ _), (by decide : 38 + 0 ≤ _)⟩)
    dsimp only [Pt.U, Pt.locs, Pt.cells, Pt.slots] at X66 l66 y66 z66 st66 hQ66
    subst l66 y66 z66
    obtain ⟨rfl, rfl, e66⟩ := hQ66
    try rw [List.append_nil] at X66
    have k66 : Go p e below (s₁.setTop (entryFrame m #[(.int p1)] maxLocals)) (T66.setTop (mkF m 78 #[.val (.int p1), .val (.ref b2), .val (.int (3 : Int32)), .val (.ref a_CANCELLATION), .val (.int (0 : Int32)), .val (.int (0 : Int32)), .unset] [(.ref s_CANCELLATION), (.ref a63)])) := fun t kk => k65 t (st66.trans kk)
    obtain ⟨cq67, kq67, q67a, q67b, q67c⟩ := isOf hZ63 e66 xe63
    obtain ⟨_, _, ⟨T67, L67, kx67, nx67⟩, -, X67, ⟨Lc67, hQ67, l67, y67, z67⟩, st67⟩ := X66.virtualBack hx (y := (⟨"java/lang/String", "equals", "(Ljava/lang/Object;)Z"⟩ : MethodName)) (z := (⟨"java/lang/String", "equals", "(Ljava/lang/Object;)Z"⟩ : MethodName)) hown63 (mvT hZ63 (hw _ (List.mem_of_getElem? (i := 46) rfl))) (mvT hZ63 (hw _ (List.mem_of_getElem? (i := 47) rfl))) (notFace_of_selects (args := #[]) (mvT hZ63 (hw _ (List.mem_of_getElem? (i := 49) rfl)))) (mvT hZ63 (hw _ (List.mem_of_getElem? (i := 49) rfl))) (mvT hZ63 (hw _ (List.mem_of_getElem? (i := 48) rfl))) (by decide) (backOf (W := 0) (rmEN l Z a0 hw [] a63 s_CANCELLATION b63 t_CANCELLATION kc63 k_CANCELLATION (7 : Int32) (9 : Int32) _ _ cs h63 n0 Zs63 (es_CANCELLATION.keep K63) xc63 (cs_CANCELLATION.keep K63 nin0) xv63 (vs_CANCELLATION.keep K63 nin0) V63 (as_CANCELLATION.keep K63 nin0) (own_stakeep S_C K63) hs1 (by decide) (by decide)) hZ63 (hw _ (List.mem_of_getElem? (i := 50) rfl)) (hw _ (List.mem_of_getElem? (i := 32) rfl)) (by decide) (by decide)) q67a q67c (g := (mkF m 78 #[.val (.int p1), .val (.ref b2), .val (.int (3 : Int32)), .val (.ref a_CANCELLATION), .val (.int (0 : Int32)), .val (.int (0 : Int32)), .unset] [(.ref s_CANCELLATION), (.ref a63)])) rfl (by rw [hml]; rfl) (Steps.refl _) (argsL := [(.ref s_CANCELLATION)]) (rest := []) (lenOf pd_4 rfl) rfl (by show 2 * 0 + _ ≤ _; exact Nat.le_of_eq rfl) (hb hby at_78) (fun _ _ => ⟨rfl, e66, (by decide : 3 + 0 ≤ _), (by decide : 38 + 0 ≤ _)⟩)
    dsimp only [Pt.U, Pt.locs, Pt.cells, Pt.slots] at X67 l67 y67 z67 st67 hQ67
    subst l67 y67 z67
    obtain ⟨rfl, rfl, e67⟩ := hQ67
    try rw [List.append_nil] at X67
    have k67 : Go p e below (s₁.setTop (entryFrame m #[(.int p1)] maxLocals)) (T67.setTop (mkF m 81 #[.val (.int p1), .val (.ref b2), .val (.int (3 : Int32)), .val (.ref a_CANCELLATION), .val (.int (0 : Int32)), .val (.int (0 : Int32)), .unset] [(.int (0 : Int32))])) := fun t kk => k66 t (st67.trans kk)
    have k68 : Go p e below (s₁.setTop (entryFrame m #[(.int p1)] maxLocals)) (T67.setTop (mkF m 114 #[.val (.int p1), .val (.ref b2), .val (.int (3 : Int32)), .val (.ref a_CANCELLATION), .val (.int (0 : Int32)), .val (.int (0 : Int32)), .val (.int (0 : Int32))] [(.int (1 : Int32))])) := fun t kk => k67 t (by
      show Steps p.tables e below (T67.setTop (mkF m 81 #[.val (.int p1), .val (.ref b2), .val (.int (3 : Int32)), .val (.ref a_CANCELLATION), .val (.int (0 : Int32)), .val (.int (0 : Int32)), .unset] [(.int (0 : Int32))])) _
      refine XS.istore X67.here hx rfl (hb hby at_81) rfl (l' := #[.val (.int p1), .val (.ref b2), .val (.int (3 : Int32)), .val (.ref a_CANCELLATION), .val (.int (0 : Int32)), .val (.int (0 : Int32)), .val (.int (0 : Int32))]) rfl ?_
      show Steps p.tables e below (T67.setTop (mkF m 83 #[.val (.int p1), .val (.ref b2), .val (.int (3 : Int32)), .val (.ref a_CANCELLATION), .val (.int (0 : Int32)), .val (.int (0 : Int32)), .val (.int (0 : Int32))] [])) _
      refine XS.iload X67.here hx rfl (hb hby at_83) rfl ?_
      show Steps p.tables e below (T67.setTop (mkF m 85 #[.val (.int p1), .val (.ref b2), .val (.int (3 : Int32)), .val (.ref a_CANCELLATION), .val (.int (0 : Int32)), .val (.int (0 : Int32)), .val (.int (0 : Int32))] [(.int (0 : Int32))])) _
      refine XS.iload X67.here hx rfl (hb hby at_85) rfl ?_
      show Steps p.tables e below (T67.setTop (mkF m 87 #[.val (.int p1), .val (.ref b2), .val (.int (3 : Int32)), .val (.ref a_CANCELLATION), .val (.int (0 : Int32)), .val (.int (0 : Int32)), .val (.int (0 : Int32))] [(.int (0 : Int32)), (.int (0 : Int32))])) _
      refine XS.icmpNo X67.here hx rfl (hb hby at_87) rfl (teq (by decide : (0 : Int32) = (0 : Int32))).2 ?_
      show Steps p.tables e below (T67.setTop (mkF m 90 #[.val (.int p1), .val (.ref b2), .val (.int (3 : Int32)), .val (.ref a_CANCELLATION), .val (.int (0 : Int32)), .val (.int (0 : Int32)), .val (.int (0 : Int32))] [])) _
      refine XS.iload X67.here hx rfl (hb hby at_90) rfl ?_
      show Steps p.tables e below (T67.setTop (mkF m 92 #[.val (.int p1), .val (.ref b2), .val (.int (3 : Int32)), .val (.ref a_CANCELLATION), .val (.int (0 : Int32)), .val (.int (0 : Int32)), .val (.int (0 : Int32))] [(.int (0 : Int32))])) _
      refine XS.iload X67.here hx rfl (hb hby at_92) rfl ?_
      show Steps p.tables e below (T67.setTop (mkF m 94 #[.val (.int p1), .val (.ref b2), .val (.int (3 : Int32)), .val (.ref a_CANCELLATION), .val (.int (0 : Int32)), .val (.int (0 : Int32)), .val (.int (0 : Int32))] [(.int (0 : Int32)), (.int (0 : Int32))])) _
      refine XS.icmpNo X67.here hx rfl (hb hby at_94) rfl (teq (by decide : (0 : Int32) = (0 : Int32))).2 ?_
      show Steps p.tables e below (T67.setTop (mkF m 97 #[.val (.int p1), .val (.ref b2), .val (.int (3 : Int32)), .val (.ref a_CANCELLATION), .val (.int (0 : Int32)), .val (.int (0 : Int32)), .val (.int (0 : Int32))] [])) _
      refine XS.iload X67.here hx rfl (hb hby at_97) rfl ?_
      show Steps p.tables e below (T67.setTop (mkF m 99 #[.val (.int p1), .val (.ref b2), .val (.int (3 : Int32)), .val (.ref a_CANCELLATION), .val (.int (0 : Int32)), .val (.int (0 : Int32)), .val (.int (0 : Int32))] [(.int (0 : Int32))])) _
      refine XS.ifYes X67.here hx rfl (pc0 := 99) (pc' := 109) rfl (hb hby at_99) rfl ((if0 _ _).trans (teq (by decide : (0 : Int32) = (0 : Int32))).1) (by decide) (by decide) ?_
      show Steps p.tables e below (T67.setTop (mkF m 109 #[.val (.int p1), .val (.ref b2), .val (.int (3 : Int32)), .val (.ref a_CANCELLATION), .val (.int (0 : Int32)), .val (.int (0 : Int32)), .val (.int (0 : Int32))] [])) _
      refine XS.iconst X67.here hx rfl (hb hby at_109) ?_
      show Steps p.tables e below (T67.setTop (mkF m 110 #[.val (.int p1), .val (.ref b2), .val (.int (3 : Int32)), .val (.ref a_CANCELLATION), .val (.int (0 : Int32)), .val (.int (0 : Int32)), .val (.int (0 : Int32))] [(.int (1 : Int32))])) _
      refine XS.goto X67.here hx rfl (pc0 := 110) (pc' := 114) rfl (hb hby at_110) (by decide) (by decide) ?_
      exact kk)
    obtain ⟨fs, hr, hrun, hended, hW⟩ := leaveW X67 hS63 (by rw [e67]; exact hk63) (v := some (.int (1 : Int32))) (fun h => by rw [Bd.returns] at h; cases h)
    refine ⟨_, _, k68 _ ?_, hrun, hended, _, _, rfl, ?_, hW.1, hW.2.1, hW.2.2.1, hW.2.2.2.mono (by decide) (by decide)⟩
    · show Steps p.tables e below (T67.setTop (mkF m 114 #[.val (.int p1), .val (.ref b2), .val (.int (3 : Int32)), .val (.ref a_CANCELLATION), .val (.int (0 : Int32)), .val (.int (0 : Int32)), .val (.int (0 : Int32))] [(.int (1 : Int32))])) _
      exact retN X67 hx (t := .boolean) Bd.returns (by simp) (hb hby at_114) hr
    · show Q0 Z p1 a_BOOKING a_RESCHEDULING a_MODIFICATION a_CANCELLATION a_DISCONTINUATION a_DELETION s_BOOKING t_BOOKING k_BOOKING s_CANCELLATION t_CANCELLATION k_CANCELLATION s_DELETION t_DELETION k_DELETION s_DISCONTINUATION t_DISCONTINUATION k_DISCONTINUATION cs h0 n0 _ T67.heap _
      rw [e67]
      exact ⟨rfl, N20⟩
  · obtain ⟨cl70, Ar70, -, S70, G70, H70, -⟩ := id V20
    have hin70 : ¬ ((4 : Int32) < 0 ∨ cl70.slots.size ≤ ((4 : Int32)).toNatClampNeg) := inb_of S70 ⟨by decide, by decide⟩
    have hat70 : cl70.slots[((4 : Int32)).toNatClampNeg]? = some (.ref a_DISCONTINUATION) := H70.at hin70 rfl
    have k71 : Go p e below (s₁.setTop (entryFrame m #[(.int p1)] maxLocals)) (T20.setTop (mkF m 55 #[.val (.int p1), .val (.ref b2), .val (.int (4 : Int32)), .val (.ref a_DISCONTINUATION), .unset, .unset, .unset] [(.ref a_DISCONTINUATION)])) := fun t kk => k21 t (by
      show Steps p.tables e below (T20.setTop (mkF m 50 #[.val (.int p1), .val (.ref b2), .val (.int (4 : Int32)), .unset, .unset, .unset, .unset] [])) _
      refine XS.aloadN X20.here hx rfl (hb hby at_50) rfl rfl ?_
      show Steps p.tables e below (T20.setTop (mkF m 51 #[.val (.int p1), .val (.ref b2), .val (.int (4 : Int32)), .unset, .unset, .unset, .unset] [(.ref b2)])) _
      refine XS.iloadN X20.here hx rfl (hb hby at_51) rfl ?_
      show Steps p.tables e below (T20.setTop (mkF m 52 #[.val (.int p1), .val (.ref b2), .val (.int (4 : Int32)), .unset, .unset, .unset, .unset] [(.int (4 : Int32)), (.ref b2)])) _
      refine X20.aaload hx (j := (4 : Int32)) (v := (.ref a_DISCONTINUATION)) (by rw [e20]; exact Ar70.1) (State.isArrayOf_alike hZ.alike Ar70.2.1) rfl Ar70.2.2 hin70 hat70 (g := (mkF m 52 #[.val (.int p1), .val (.ref b2), .val (.int (4 : Int32)), .unset, .unset, .unset, .unset] [(.int (4 : Int32)), (.ref b2)])) rfl rfl (hb hby at_52) _ ?_
      show Steps p.tables e below (T20.setTop (mkF m 53 #[.val (.int p1), .val (.ref b2), .val (.int (4 : Int32)), .unset, .unset, .unset, .unset] [(.ref a_DISCONTINUATION)])) _
      refine XS.astoreN X20.here hx rfl (hb hby at_53) rfl rfl (l' := #[.val (.int p1), .val (.ref b2), .val (.int (4 : Int32)), .val (.ref a_DISCONTINUATION), .unset, .unset, .unset]) rfl ?_
      show Steps p.tables e below (T20.setTop (mkF m 54 #[.val (.int p1), .val (.ref b2), .val (.int (4 : Int32)), .val (.ref a_DISCONTINUATION), .unset, .unset, .unset] [])) _
      refine XS.aloadN X20.here hx rfl (hb hby at_54) rfl rfl ?_
      exact kk)
    obtain ⟨cq72, kq72, q72a, q72b, q72c⟩ := isOf hZ e20 (E_DISCONTINUATION.keep K20)
    obtain ⟨_, _, ⟨T72, L72, kx72, nx72⟩, -, X72, ⟨Lc72, hQ72, l72, y72, z72⟩, st72⟩ := X20.virtualBack hx (y := (⟨"com/example/slotwire/slotwire/RequestEvent", "deletes", "()Z"⟩ : MethodName)) (z := (⟨"com/example/slotwire/slotwire/RequestEvent", "deletes", "()Z"⟩ : MethodName)) hown (mvT hZ (hw _ (List.mem_of_getElem? (i := 17) rfl))) (mvT hZ (hw _ (List.mem_of_getElem? (i := 18) rfl))) (notFace_of_selects (args := #[]) (mvT hZ (hw _ (List.mem_of_getElem? (i := 20) rfl)))) (mvT hZ (hw _ (List.mem_of_getElem? (i := 20) rfl))) (mvT hZ (hw _ (List.mem_of_getElem? (i := 19) rfl))) (by decide) (backOf (W := 0) (rmD l Z a0 hw [] a_DISCONTINUATION (4 : Int32) h20 n0 Zs20 (o_DISCONTINUATION.keep K20 nin0) (E_DISCONTINUATION.keep K20) (by decide)) hZ (hw _ (List.mem_of_getElem? (i := 21) rfl)) (hw _ (List.mem_of_getElem? (i := 3) rfl)) (by decide) (by decide)) q72a q72c (g := (mkF m 55 #[.val (.int p1), .val (.ref b2), .val (.int (4 : Int32)), .val (.ref a_DISCONTINUATION), .unset, .unset, .unset] [(.ref a_DISCONTINUATION)])) rfl (by rw [hml]; rfl) (Steps.refl _) (argsL := []) (rest := []) (lenOf pd_2 rfl) rfl (by show 2 * 0 + _ ≤ _; exact Nat.le_of_eq rfl) (hb hby at_55) (fun _ _ => ⟨rfl, e20, (by decide : 1 + 0 ≤ _), (by decide : 6 + 0 ≤ _)⟩)
    dsimp only [Pt.U, Pt.locs, Pt.cells, Pt.slots] at X72 l72 y72 z72 st72 hQ72
    subst l72 y72 z72
    obtain ⟨rfl, rfl, e72⟩ := hQ72
    try rw [List.append_nil] at X72
    have k72 : Go p e below (s₁.setTop (entryFrame m #[(.int p1)] maxLocals)) (T72.setTop (mkF m 58 #[.val (.int p1), .val (.ref b2), .val (.int (4 : Int32)), .val (.ref a_DISCONTINUATION), .unset, .unset, .unset] [(.int (own_del (4 : Int32)))])) := fun t kk => k71 t (st72.trans kk)
    have k73 : Go p e below (s₁.setTop (entryFrame m #[(.int p1)] maxLocals)) (T72.setTop (mkF m 58 #[.val (.int p1), .val (.ref b2), .val (.int (4 : Int32)), .val (.ref a_DISCONTINUATION), .unset, .unset, .unset] [(.int (0 : Int32))])) := k72
    have k74 : Go p e below (s₁.setTop (entryFrame m #[(.int p1)] maxLocals)) (T72.setTop (mkF m 72 #[.val (.int p1), .val (.ref b2), .val (.int (4 : Int32)), .val (.ref a_DISCONTINUATION), .val (.int (0 : Int32)), .val (.int (0 : Int32)), .unset] [])) := fun t kk => k73 t (by
      show Steps p.tables e below (T72.setTop (mkF m 58 #[.val (.int p1), .val (.ref b2), .val (.int (4 : Int32)), .val (.ref a_DISCONTINUATION), .unset, .unset, .unset] [(.int (0 : Int32))])) _
      refine XS.istore X72.here hx rfl (hb hby at_58) rfl (l' := #[.val (.int p1), .val (.ref b2), .val (.int (4 : Int32)), .val (.ref a_DISCONTINUATION), .val (.int (0 : Int32)), .unset, .unset]) rfl ?_
      show Steps p.tables e below (T72.setTop (mkF m 60 #[.val (.int p1), .val (.ref b2), .val (.int (4 : Int32)), .val (.ref a_DISCONTINUATION), .val (.int (0 : Int32)), .unset, .unset] [])) _
      refine XS.iloadN X72.here hx rfl (hb hby at_60) rfl ?_
      show Steps p.tables e below (T72.setTop (mkF m 61 #[.val (.int p1), .val (.ref b2), .val (.int (4 : Int32)), .val (.ref a_DISCONTINUATION), .val (.int (0 : Int32)), .unset, .unset] [(.int (4 : Int32))])) _
      refine XS.iconst X72.here hx rfl (hb hby at_61) ?_
      show Steps p.tables e below (T72.setTop (mkF m 62 #[.val (.int p1), .val (.ref b2), .val (.int (4 : Int32)), .val (.ref a_DISCONTINUATION), .val (.int (0 : Int32)), .unset, .unset] [(.int (5 : Int32)), (.int (4 : Int32))])) _
      refine XS.icmpYes X72.here hx rfl (pc0 := 62) (pc' := 69) rfl (hb hby at_62) rfl (feq (by decide : ¬ ((4 : Int32) = (5 : Int32)))).2 (by decide) (by decide) ?_
      show Steps p.tables e below (T72.setTop (mkF m 69 #[.val (.int p1), .val (.ref b2), .val (.int (4 : Int32)), .val (.ref a_DISCONTINUATION), .val (.int (0 : Int32)), .unset, .unset] [])) _
      refine XS.iconst X72.here hx rfl (hb hby at_69) ?_
      show Steps p.tables e below (T72.setTop (mkF m 70 #[.val (.int p1), .val (.ref b2), .val (.int (4 : Int32)), .val (.ref a_DISCONTINUATION), .val (.int (0 : Int32)), .unset, .unset] [(.int (0 : Int32))])) _
      refine XS.istore X72.here hx rfl (hb hby at_70) rfl (l' := #[.val (.int p1), .val (.ref b2), .val (.int (4 : Int32)), .val (.ref a_DISCONTINUATION), .val (.int (0 : Int32)), .val (.int (0 : Int32)), .unset]) rfl ?_
      exact kk)
    have hS0 : s.Since s.vm 0 := State.WarmedH.since (State.WarmedH.refl s) 0
    have hkeep0 : ∀ (b : Addr) (cl : Cell), Z.heap[b]? = some cl → s.heap[b]? = some cl := fun b cl q => by rw [hs0]; exact q
    have IB0 : IB Z s.vm [] := by rw [hs0]; exact IB.start
    have hh0 : s.heap.size = n0 := by rw [hh]; exact hn0.symm
    have wS0 : ∀ d ∈ Bundle.stringAtoms, d.before a0 Z = true := fun d hd => by
      simp only [Bundle.stringAtoms, Bundle.sN, List.mem_cons, List.not_mem_nil, or_false] at hd
      rcases hd with rfl | rfl | rfl | rfl | rfl | rfl | rfl
      · exact (hw _ (List.mem_of_getElem? (i := 32) rfl))
      · exact (hw _ (List.mem_of_getElem? (i := 33) rfl))
      · exact (hw _ (List.mem_of_getElem? (i := 34) rfl))
      · exact (hw _ (List.mem_of_getElem? (i := 35) rfl))
      · exact (hw _ (List.mem_of_getElem? (i := 36) rfl))
      · exact (hw _ (List.mem_of_getElem? (i := 37) rfl))
      · exact (hw _ (List.mem_of_getElem? (i := 38) rfl))
    have Xb75 : Stand p l e room_1 (s.setVm s.vm) m #[(.int p1)] below meth c T72 (((((([] ++ [⟨b2, ((0 : Int32)).toNatClampNeg⟩]) ++ [⟨b2, ((1 : Int32)).toNatClampNeg⟩]) ++ [⟨b2, ((2 : Int32)).toNatClampNeg⟩]) ++ [⟨b2, ((3 : Int32)).toNatClampNeg⟩]) ++ [⟨b2, ((4 : Int32)).toNatClampNeg⟩]) ++ [⟨b2, ((5 : Int32)).toNatClampNeg⟩]) 1 6 := X72
    obtain ⟨a75, T75, h75, kn75, b75, kc75, X75, e75, E75, hS75, hk75, hZ75, hown75, xe75, xc75, xv75, V75, -, -, IB75, -, -, st75⟩ := ldcSVd (s := s) (vm0 := s.vm) Xb75 hx hZ hown (hw _ (List.mem_of_getElem? (i := 31) rfl)) wS0 e72 hS0 (Nat.zero_le _) (by rw [hh0]; exact N20) hkeep0 IB0 (by decide) (hheld) (hz _ (List.mem_of_getElem? (i := 2) rfl)) (vs := [(.int (68 : Int32)), (.int (101 : Int32)), (.int (108 : Int32)), (.int (101 : Int32)), (.int (116 : Int32)), (.int (101 : Int32)), (.int (100 : Int32))]) (z := 7) ⟨by decide, by decide⟩ (by decide) rfl (g := (mkF m 72 #[.val (.int p1), .val (.ref b2), .val (.int (4 : Int32)), .val (.ref a_DISCONTINUATION), .val (.int (0 : Int32)), .val (.int (0 : Int32)), .unset] [])) rfl (hb hby at_72) (n := 28) (by decide) (by decide) (by decide) (by decide)
    have f76 := V20.ext E75
    have K75 := (K20).ext E75
    have Zs75 : n0 ≤ h75.size := Nat.le_trans Zs20 E75.1
    have k75 : Go p e below (s₁.setTop (entryFrame m #[(.int p1)] maxLocals)) (T75.setTop (mkF m 74 #[.val (.int p1), .val (.ref b2), .val (.int (4 : Int32)), .val (.ref a_DISCONTINUATION), .val (.int (0 : Int32)), .val (.int (0 : Int32)), .unset] [(.ref a75)])) := fun t kk => k74 t (st75 t kk)
    have k77 : Go p e below (s₁.setTop (entryFrame m #[(.int p1)] maxLocals)) (T75.setTop (mkF m 75 #[.val (.int p1), .val (.ref b2), .val (.int (4 : Int32)), .val (.ref a_DISCONTINUATION), .val (.int (0 : Int32)), .val (.int (0 : Int32)), .unset] [(.ref a_DISCONTINUATION), (.ref a75)])) := fun t kk => k75 t (by
      show Steps p.tables e below (T75.setTop (mkF m 74 #[.val (.int p1), .val (.ref b2), .val (.int (4 : Int32)), .val (.ref a_DISCONTINUATION), .val (.int (0 : Int32)), .val (.int (0 : Int32)), .unset] [(.ref a75)])) _
      refine XS.aloadN X75.here hx rfl (hb hby at_74) rfl rfl ?_
      exact kk)
    obtain ⟨cq78, kq78, q78a, q78b, q78c⟩ := isOf hZ75 e75 (E_DISCONTINUATION.keep K75)
    obtain ⟨_, _, ⟨T78, L78, kx78, nx78⟩, -, X78, ⟨Lc78, hQ78, l78, y78, z78⟩, st78⟩ := X75.virtualBack hx (y := (⟨"com/example/slotwire/slotwire/RequestEvent", "fillerStatus", "()Ljava/lang/String;"⟩ : MethodName)) (z := (⟨"com/example/slotwire/slotwire/RequestEvent", "fillerStatus", "()Ljava/lang/String;"⟩ : MethodName)) hown75 (mvT hZ75 (hw _ (List.mem_of_getElem? (i := 39) rfl))) (mvT hZ75 (hw _ (List.mem_of_getElem? (i := 40) rfl))) (notFace_of_selects (args := #[]) (mvT hZ75 (hw _ (List.mem_of_getElem? (i := 42) rfl)))) (mvT hZ75 (hw _ (List.mem_of_getElem? (i := 42) rfl))) (mvT hZ75 (hw _ (List.mem_of_getElem? (i := 41) rfl))) (by decide) (backOf (W := 1) (rmF l Z a0 hw [] a_DISCONTINUATION s_DISCONTINUATION h75 n0 Zs75 (f_DISCONTINUATION.keep K75 nin0)) hZ75 (hw _ (List.mem_of_getElem? (i := 43) rfl)) (hw _ (List.mem_of_getElem? (i := 3) rfl)) (by decide) (by decide)) q78a q78c (g := (mkF m 75 #[.val (.int p1), .val (.ref b2), .val (.int (4 : Int32)), .val (.ref a_DISCONTINUATION), .val (.int (0 : Int32)), .val (.int (0 : Int32)), .unset] [(.ref a_DISCONTINUATION), (.ref a75)])) rfl (by rw [hml]; rfl) (Steps.refl _) (argsL := []) (rest := [(.ref a75)]) (lenOf pd_3 rfl) rfl (by show 2 * 0 + _ ≤ _; exact Nat.le_of_eq rfl) (hb hby at_75) (fun _ _ => ⟨rfl, e75, (by decide : 3 + 0 ≤ _), (by decide : 38 + 0 ≤ _)⟩)
    dsimp only [Pt.U, Pt.locs, Pt.cells, Pt.slots] at X78 l78 y78 z78 st78 hQ78
    subst l78 y78 z78
    obtain ⟨rfl, rfl, e78⟩ := hQ78
    try rw [List.append_nil] at X78
    have k78 : Go p e below (s₁.setTop (entryFrame m #[(.int p1)] maxLocals)) (T78.setTop (mkF m 78 #[.val (.int p1), .val (.ref b2), .val (.int (4 : Int32)), .val (.ref a_DISCONTINUATION), .val (.int (0 : Int32)), .val (.int (0 : Int32)), .unset] [(.ref s_DISCONTINUATION), (.ref a75)])) := fun t kk => k77 t (st78.trans kk)
    obtain ⟨cq79, kq79, q79a, q79b, q79c⟩ := isOf hZ75 e78 xe75
    obtain ⟨_, _, ⟨T79, L79, kx79, nx79⟩, -, X79, ⟨Lc79, hQ79, l79, y79, z79⟩, st79⟩ := X78.virtualBack hx (y := (⟨"java/lang/String", "equals", "(Ljava/lang/Object;)Z"⟩ : MethodName)) (z := (⟨"java/lang/String", "equals", "(Ljava/lang/Object;)Z"⟩ : MethodName)) hown75 (mvT hZ75 (hw _ (List.mem_of_getElem? (i := 46) rfl))) (mvT hZ75 (hw _ (List.mem_of_getElem? (i := 47) rfl))) (notFace_of_selects (args := #[]) (mvT hZ75 (hw _ (List.mem_of_getElem? (i := 49) rfl)))) (mvT hZ75 (hw _ (List.mem_of_getElem? (i := 49) rfl))) (mvT hZ75 (hw _ (List.mem_of_getElem? (i := 48) rfl))) (by decide) (backOf (W := 0) (rmEN l Z a0 hw [] a75 s_DISCONTINUATION b75 t_DISCONTINUATION kc75 k_DISCONTINUATION (7 : Int32) (2 : Int32) _ _ cs h75 n0 Zs75 (es_DISCONTINUATION.keep K75) xc75 (cs_DISCONTINUATION.keep K75 nin0) xv75 (vs_DISCONTINUATION.keep K75 nin0) V75 (as_DISCONTINUATION.keep K75 nin0) (own_stakeep S_C K75) hs1 (by decide) (by decide)) hZ75 (hw _ (List.mem_of_getElem? (i := 50) rfl)) (hw _ (List.mem_of_getElem? (i := 32) rfl)) (by decide) (by decide)) q79a q79c (g := (mkF m 78 #[.val (.int p1), .val (.ref b2), .val (.int (4 : Int32)), .val (.ref a_DISCONTINUATION), .val (.int (0 : Int32)), .val (.int (0 : Int32)), .unset] [(.ref s_DISCONTINUATION), (.ref a75)])) rfl (by rw [hml]; rfl) (Steps.refl _) (argsL := [(.ref s_DISCONTINUATION)]) (rest := []) (lenOf pd_4 rfl) rfl (by show 2 * 0 + _ ≤ _; exact Nat.le_of_eq rfl) (hb hby at_78) (fun _ _ => ⟨rfl, e78, (by decide : 3 + 0 ≤ _), (by decide : 38 + 0 ≤ _)⟩)
    dsimp only [Pt.U, Pt.locs, Pt.cells, Pt.slots] at X79 l79 y79 z79 st79 hQ79
    subst l79 y79 z79
    obtain ⟨rfl, rfl, e79⟩ := hQ79
    try rw [List.append_nil] at X79
    have k79 : Go p e below (s₁.setTop (entryFrame m #[(.int p1)] maxLocals)) (T79.setTop (mkF m 81 #[.val (.int p1), .val (.ref b2), .val (.int (4 : Int32)), .val (.ref a_DISCONTINUATION), .val (.int (0 : Int32)), .val (.int (0 : Int32)), .unset] [(.int (0 : Int32))])) := fun t kk => k78 t (st79.trans kk)
    have k80 : Go p e below (s₁.setTop (entryFrame m #[(.int p1)] maxLocals)) (T79.setTop (mkF m 114 #[.val (.int p1), .val (.ref b2), .val (.int (4 : Int32)), .val (.ref a_DISCONTINUATION), .val (.int (0 : Int32)), .val (.int (0 : Int32)), .val (.int (0 : Int32))] [(.int (1 : Int32))])) := fun t kk => k79 t (by
      show Steps p.tables e below (T79.setTop (mkF m 81 #[.val (.int p1), .val (.ref b2), .val (.int (4 : Int32)), .val (.ref a_DISCONTINUATION), .val (.int (0 : Int32)), .val (.int (0 : Int32)), .unset] [(.int (0 : Int32))])) _
      refine XS.istore X79.here hx rfl (hb hby at_81) rfl (l' := #[.val (.int p1), .val (.ref b2), .val (.int (4 : Int32)), .val (.ref a_DISCONTINUATION), .val (.int (0 : Int32)), .val (.int (0 : Int32)), .val (.int (0 : Int32))]) rfl ?_
      show Steps p.tables e below (T79.setTop (mkF m 83 #[.val (.int p1), .val (.ref b2), .val (.int (4 : Int32)), .val (.ref a_DISCONTINUATION), .val (.int (0 : Int32)), .val (.int (0 : Int32)), .val (.int (0 : Int32))] [])) _
      refine XS.iload X79.here hx rfl (hb hby at_83) rfl ?_
      show Steps p.tables e below (T79.setTop (mkF m 85 #[.val (.int p1), .val (.ref b2), .val (.int (4 : Int32)), .val (.ref a_DISCONTINUATION), .val (.int (0 : Int32)), .val (.int (0 : Int32)), .val (.int (0 : Int32))] [(.int (0 : Int32))])) _
      refine XS.iload X79.here hx rfl (hb hby at_85) rfl ?_
      show Steps p.tables e below (T79.setTop (mkF m 87 #[.val (.int p1), .val (.ref b2), .val (.int (4 : Int32)), .val (.ref a_DISCONTINUATION), .val (.int (0 : Int32)), .val (.int (0 : Int32)), .val (.int (0 : Int32))] [(.int (0 : Int32)), (.int (0 : Int32))])) _
      refine XS.icmpNo X79.here hx rfl (hb hby at_87) rfl (teq (by decide : (0 : Int32) = (0 : Int32))).2 ?_
      show Steps p.tables e below (T79.setTop (mkF m 90 #[.val (.int p1), .val (.ref b2), .val (.int (4 : Int32)), .val (.ref a_DISCONTINUATION), .val (.int (0 : Int32)), .val (.int (0 : Int32)), .val (.int (0 : Int32))] [])) _
      refine XS.iload X79.here hx rfl (hb hby at_90) rfl ?_
      show Steps p.tables e below (T79.setTop (mkF m 92 #[.val (.int p1), .val (.ref b2), .val (.int (4 : Int32)), .val (.ref a_DISCONTINUATION), .val (.int (0 : Int32)), .val (.int (0 : Int32)), .val (.int (0 : Int32))] [(.int (0 : Int32))])) _
      refine XS.iload X79.here hx rfl (hb hby at_92) rfl ?_
      show Steps p.tables e below (T79.setTop (mkF m 94 #[.val (.int p1), .val (.ref b2), .val (.int (4 : Int32)), .val (.ref a_DISCONTINUATION), .val (.int (0 : Int32)), .val (.int (0 : Int32)), .val (.int (0 : Int32))] [(.int (0 : Int32)), (.int (0 : Int32))])) _
      refine XS.icmpNo X79.here hx rfl (hb hby at_94) rfl (teq (by decide : (0 : Int32) = (0 : Int32))).2 ?_
      show Steps p.tables e below (T79.setTop (mkF m 97 #[.val (.int p1), .val (.ref b2), .val (.int (4 : Int32)), .val (.ref a_DISCONTINUATION), .val (.int (0 : Int32)), .val (.int (0 : Int32)), .val (.int (0 : Int32))] [])) _
      refine XS.iload X79.here hx rfl (hb hby at_97) rfl ?_
      show Steps p.tables e below (T79.setTop (mkF m 99 #[.val (.int p1), .val (.ref b2), .val (.int (4 : Int32)), .val (.ref a_DISCONTINUATION), .val (.int (0 : Int32)), .val (.int (0 : Int32)), .val (.int (0 : Int32))] [(.int (0 : Int32))])) _
      refine XS.ifYes X79.here hx rfl (pc0 := 99) (pc' := 109) rfl (hb hby at_99) rfl ((if0 _ _).trans (teq (by decide : (0 : Int32) = (0 : Int32))).1) (by decide) (by decide) ?_
      show Steps p.tables e below (T79.setTop (mkF m 109 #[.val (.int p1), .val (.ref b2), .val (.int (4 : Int32)), .val (.ref a_DISCONTINUATION), .val (.int (0 : Int32)), .val (.int (0 : Int32)), .val (.int (0 : Int32))] [])) _
      refine XS.iconst X79.here hx rfl (hb hby at_109) ?_
      show Steps p.tables e below (T79.setTop (mkF m 110 #[.val (.int p1), .val (.ref b2), .val (.int (4 : Int32)), .val (.ref a_DISCONTINUATION), .val (.int (0 : Int32)), .val (.int (0 : Int32)), .val (.int (0 : Int32))] [(.int (1 : Int32))])) _
      refine XS.goto X79.here hx rfl (pc0 := 110) (pc' := 114) rfl (hb hby at_110) (by decide) (by decide) ?_
      exact kk)
    obtain ⟨fs, hr, hrun, hended, hW⟩ := leaveW X79 hS75 (by rw [e79]; exact hk75) (v := some (.int (1 : Int32))) (fun h => by rw [Bd.returns] at h; cases h)
    refine ⟨_, _, k80 _ ?_, hrun, hended, _, _, rfl, ?_, hW.1, hW.2.1, hW.2.2.1, hW.2.2.2.mono (by decide) (by decide)⟩
    · show Steps p.tables e below (T79.setTop (mkF m 114 #[.val (.int p1), .val (.ref b2), .val (.int (4 : Int32)), .val (.ref a_DISCONTINUATION), .val (.int (0 : Int32)), .val (.int (0 : Int32)), .val (.int (0 : Int32))] [(.int (1 : Int32))])) _
      exact retN X79 hx (t := .boolean) Bd.returns (by simp) (hb hby at_114) hr
    · show Q0 Z p1 a_BOOKING a_RESCHEDULING a_MODIFICATION a_CANCELLATION a_DISCONTINUATION a_DELETION s_BOOKING t_BOOKING k_BOOKING s_CANCELLATION t_CANCELLATION k_CANCELLATION s_DELETION t_DELETION k_DELETION s_DISCONTINUATION t_DISCONTINUATION k_DISCONTINUATION cs h0 n0 _ T79.heap _
      rw [e79]
      exact ⟨rfl, N20⟩
  · obtain ⟨cl82, Ar82, -, S82, G82, H82, -⟩ := id V20
    have hin82 : ¬ ((5 : Int32) < 0 ∨ cl82.slots.size ≤ ((5 : Int32)).toNatClampNeg) := inb_of S82 ⟨by decide, by decide⟩
    have hat82 : cl82.slots[((5 : Int32)).toNatClampNeg]? = some (.ref a_DELETION) := H82.at hin82 rfl
    have k83 : Go p e below (s₁.setTop (entryFrame m #[(.int p1)] maxLocals)) (T20.setTop (mkF m 55 #[.val (.int p1), .val (.ref b2), .val (.int (5 : Int32)), .val (.ref a_DELETION), .unset, .unset, .unset] [(.ref a_DELETION)])) := fun t kk => k21 t (by
      show Steps p.tables e below (T20.setTop (mkF m 50 #[.val (.int p1), .val (.ref b2), .val (.int (5 : Int32)), .unset, .unset, .unset, .unset] [])) _
      refine XS.aloadN X20.here hx rfl (hb hby at_50) rfl rfl ?_
      show Steps p.tables e below (T20.setTop (mkF m 51 #[.val (.int p1), .val (.ref b2), .val (.int (5 : Int32)), .unset, .unset, .unset, .unset] [(.ref b2)])) _
      refine XS.iloadN X20.here hx rfl (hb hby at_51) rfl ?_
      show Steps p.tables e below (T20.setTop (mkF m 52 #[.val (.int p1), .val (.ref b2), .val (.int (5 : Int32)), .unset, .unset, .unset, .unset] [(.int (5 : Int32)), (.ref b2)])) _
      refine X20.aaload hx (j := (5 : Int32)) (v := (.ref a_DELETION)) (by rw [e20]; exact Ar82.1) (State.isArrayOf_alike hZ.alike Ar82.2.1) rfl Ar82.2.2 hin82 hat82 (g := (mkF m 52 #[.val (.int p1), .val (.ref b2), .val (.int (5 : Int32)), .unset, .unset, .unset, .unset] [(.int (5 : Int32)), (.ref b2)])) rfl rfl (hb hby at_52) _ ?_
      show Steps p.tables e below (T20.setTop (mkF m 53 #[.val (.int p1), .val (.ref b2), .val (.int (5 : Int32)), .unset, .unset, .unset, .unset] [(.ref a_DELETION)])) _
      refine XS.astoreN X20.here hx rfl (hb hby at_53) rfl rfl (l' := #[.val (.int p1), .val (.ref b2), .val (.int (5 : Int32)), .val (.ref a_DELETION), .unset, .unset, .unset]) rfl ?_
      show Steps p.tables e below (T20.setTop (mkF m 54 #[.val (.int p1), .val (.ref b2), .val (.int (5 : Int32)), .val (.ref a_DELETION), .unset, .unset, .unset] [])) _
      refine XS.aloadN X20.here hx rfl (hb hby at_54) rfl rfl ?_
      exact kk)
    obtain ⟨cq84, kq84, q84a, q84b, q84c⟩ := isOf hZ e20 (E_DELETION.keep K20)
    obtain ⟨_, _, ⟨T84, L84, kx84, nx84⟩, -, X84, ⟨Lc84, hQ84, l84, y84, z84⟩, st84⟩ := X20.virtualBack hx (y := (⟨"com/example/slotwire/slotwire/RequestEvent", "deletes", "()Z"⟩ : MethodName)) (z := (⟨"com/example/slotwire/slotwire/RequestEvent", "deletes", "()Z"⟩ : MethodName)) hown (mvT hZ (hw _ (List.mem_of_getElem? (i := 17) rfl))) (mvT hZ (hw _ (List.mem_of_getElem? (i := 18) rfl))) (notFace_of_selects (args := #[]) (mvT hZ (hw _ (List.mem_of_getElem? (i := 20) rfl)))) (mvT hZ (hw _ (List.mem_of_getElem? (i := 20) rfl))) (mvT hZ (hw _ (List.mem_of_getElem? (i := 19) rfl))) (by decide) (backOf (W := 0) (rmD l Z a0 hw [] a_DELETION (5 : Int32) h20 n0 Zs20 (o_DELETION.keep K20 nin0) (E_DELETION.keep K20) (by decide)) hZ (hw _ (List.mem_of_getElem? (i := 21) rfl)) (hw _ (List.mem_of_getElem? (i := 3) rfl)) (by decide) (by decide)) q84a q84c (g := (mkF m 55 #[.val (.int p1), .val (.ref b2), .val (.int (5 : Int32)), .val (.ref a_DELETION), .unset, .unset, .unset] [(.ref a_DELETION)])) rfl (by rw [hml]; rfl) (Steps.refl _) (argsL := []) (rest := []) (lenOf pd_2 rfl) rfl (by show 2 * 0 + _ ≤ _; exact Nat.le_of_eq rfl) (hb hby at_55) (fun _ _ => ⟨rfl, e20, (by decide : 1 + 0 ≤ _), (by decide : 6 + 0 ≤ _)⟩)
    dsimp only [Pt.U, Pt.locs, Pt.cells, Pt.slots] at X84 l84 y84 z84 st84 hQ84
    subst l84 y84 z84
    obtain ⟨rfl, rfl, e84⟩ := hQ84
    try rw [List.append_nil] at X84
    have k84 : Go p e below (s₁.setTop (entryFrame m #[(.int p1)] maxLocals)) (T84.setTop (mkF m 58 #[.val (.int p1), .val (.ref b2), .val (.int (5 : Int32)), .val (.ref a_DELETION), .unset, .unset, .unset] [(.int (own_del (5 : Int32)))])) := fun t kk => k83 t (st84.trans kk)
    have k85 : Go p e below (s₁.setTop (entryFrame m #[(.int p1)] maxLocals)) (T84.setTop (mkF m 58 #[.val (.int p1), .val (.ref b2), .val (.int (5 : Int32)), .val (.ref a_DELETION), .unset, .unset, .unset] [(.int (1 : Int32))])) := k84
    have k86 : Go p e below (s₁.setTop (entryFrame m #[(.int p1)] maxLocals)) (T84.setTop (mkF m 72 #[.val (.int p1), .val (.ref b2), .val (.int (5 : Int32)), .val (.ref a_DELETION), .val (.int (1 : Int32)), .val (.int (1 : Int32)), .unset] [])) := fun t kk => k85 t (by
      show Steps p.tables e below (T84.setTop (mkF m 58 #[.val (.int p1), .val (.ref b2), .val (.int (5 : Int32)), .val (.ref a_DELETION), .unset, .unset, .unset] [(.int (1 : Int32))])) _
      refine XS.istore X84.here hx rfl (hb hby at_58) rfl (l' := #[.val (.int p1), .val (.ref b2), .val (.int (5 : Int32)), .val (.ref a_DELETION), .val (.int (1 : Int32)), .unset, .unset]) rfl ?_
      show Steps p.tables e below (T84.setTop (mkF m 60 #[.val (.int p1), .val (.ref b2), .val (.int (5 : Int32)), .val (.ref a_DELETION), .val (.int (1 : Int32)), .unset, .unset] [])) _
      refine XS.iloadN X84.here hx rfl (hb hby at_60) rfl ?_
      show Steps p.tables e below (T84.setTop (mkF m 61 #[.val (.int p1), .val (.ref b2), .val (.int (5 : Int32)), .val (.ref a_DELETION), .val (.int (1 : Int32)), .unset, .unset] [(.int (5 : Int32))])) _
      refine XS.iconst X84.here hx rfl (hb hby at_61) ?_
      show Steps p.tables e below (T84.setTop (mkF m 62 #[.val (.int p1), .val (.ref b2), .val (.int (5 : Int32)), .val (.ref a_DELETION), .val (.int (1 : Int32)), .unset, .unset] [(.int (5 : Int32)), (.int (5 : Int32))])) _
      refine XS.icmpNo X84.here hx rfl (hb hby at_62) rfl (teq (by decide : (5 : Int32) = (5 : Int32))).2 ?_
      show Steps p.tables e below (T84.setTop (mkF m 65 #[.val (.int p1), .val (.ref b2), .val (.int (5 : Int32)), .val (.ref a_DELETION), .val (.int (1 : Int32)), .unset, .unset] [])) _
      refine XS.iconst X84.here hx rfl (hb hby at_65) ?_
      show Steps p.tables e below (T84.setTop (mkF m 66 #[.val (.int p1), .val (.ref b2), .val (.int (5 : Int32)), .val (.ref a_DELETION), .val (.int (1 : Int32)), .unset, .unset] [(.int (1 : Int32))])) _
      refine XS.goto X84.here hx rfl (pc0 := 66) (pc' := 70) rfl (hb hby at_66) (by decide) (by decide) ?_
      show Steps p.tables e below (T84.setTop (mkF m 70 #[.val (.int p1), .val (.ref b2), .val (.int (5 : Int32)), .val (.ref a_DELETION), .val (.int (1 : Int32)), .unset, .unset] [(.int (1 : Int32))])) _
      refine XS.istore X84.here hx rfl (hb hby at_70) rfl (l' := #[.val (.int p1), .val (.ref b2), .val (.int (5 : Int32)), .val (.ref a_DELETION), .val (.int (1 : Int32)), .val (.int (1 : Int32)), .unset]) rfl ?_
      exact kk)
    have hS0 : s.Since s.vm 0 := State.WarmedH.since (State.WarmedH.refl s) 0
    have hkeep0 : ∀ (b : Addr) (cl : Cell), Z.heap[b]? = some cl → s.heap[b]? = some cl := fun b cl q => by rw [hs0]; exact q
    have IB0 : IB Z s.vm [] := by rw [hs0]; exact IB.start
    have hh0 : s.heap.size = n0 := by rw [hh]; exact hn0.symm
    have wS0 : ∀ d ∈ Bundle.stringAtoms, d.before a0 Z = true := fun d hd => by
      simp only [Bundle.stringAtoms, Bundle.sN, List.mem_cons, List.not_mem_nil, or_false] at hd
      rcases hd with rfl | rfl | rfl | rfl | rfl | rfl | rfl
      · exact (hw _ (List.mem_of_getElem? (i := 32) rfl))
      · exact (hw _ (List.mem_of_getElem? (i := 33) rfl))
      · exact (hw _ (List.mem_of_getElem? (i := 34) rfl))
      · exact (hw _ (List.mem_of_getElem? (i := 35) rfl))
      · exact (hw _ (List.mem_of_getElem? (i := 36) rfl))
      · exact (hw _ (List.mem_of_getElem? (i := 37) rfl))
      · exact (hw _ (List.mem_of_getElem? (i := 38) rfl))
    have Xb87 : Stand p l e room_1 (s.setVm s.vm) m #[(.int p1)] below meth c T84 (((((([] ++ [⟨b2, ((0 : Int32)).toNatClampNeg⟩]) ++ [⟨b2, ((1 : Int32)).toNatClampNeg⟩]) ++ [⟨b2, ((2 : Int32)).toNatClampNeg⟩]) ++ [⟨b2, ((3 : Int32)).toNatClampNeg⟩]) ++ [⟨b2, ((4 : Int32)).toNatClampNeg⟩]) ++ [⟨b2, ((5 : Int32)).toNatClampNeg⟩]) 1 6 := X84
    obtain ⟨a87, T87, h87, kn87, b87, kc87, X87, e87, E87, hS87, hk87, hZ87, hown87, xe87, xc87, xv87, V87, -, -, IB87, -, -, st87⟩ := ldcSVd (s := s) (vm0 := s.vm) Xb87 hx hZ hown (hw _ (List.mem_of_getElem? (i := 31) rfl)) wS0 e84 hS0 (Nat.zero_le _) (by rw [hh0]; exact N20) hkeep0 IB0 (by decide) (hheld) (hz _ (List.mem_of_getElem? (i := 2) rfl)) (vs := [(.int (68 : Int32)), (.int (101 : Int32)), (.int (108 : Int32)), (.int (101 : Int32)), (.int (116 : Int32)), (.int (101 : Int32)), (.int (100 : Int32))]) (z := 7) ⟨by decide, by decide⟩ (by decide) rfl (g := (mkF m 72 #[.val (.int p1), .val (.ref b2), .val (.int (5 : Int32)), .val (.ref a_DELETION), .val (.int (1 : Int32)), .val (.int (1 : Int32)), .unset] [])) rfl (hb hby at_72) (n := 28) (by decide) (by decide) (by decide) (by decide)
    have f88 := V20.ext E87
    have K87 := (K20).ext E87
    have Zs87 : n0 ≤ h87.size := Nat.le_trans Zs20 E87.1
    have k87 : Go p e below (s₁.setTop (entryFrame m #[(.int p1)] maxLocals)) (T87.setTop (mkF m 74 #[.val (.int p1), .val (.ref b2), .val (.int (5 : Int32)), .val (.ref a_DELETION), .val (.int (1 : Int32)), .val (.int (1 : Int32)), .unset] [(.ref a87)])) := fun t kk => k86 t (st87 t kk)
    have k89 : Go p e below (s₁.setTop (entryFrame m #[(.int p1)] maxLocals)) (T87.setTop (mkF m 75 #[.val (.int p1), .val (.ref b2), .val (.int (5 : Int32)), .val (.ref a_DELETION), .val (.int (1 : Int32)), .val (.int (1 : Int32)), .unset] [(.ref a_DELETION), (.ref a87)])) := fun t kk => k87 t (by
      show Steps p.tables e below (T87.setTop (mkF m 74 #[.val (.int p1), .val (.ref b2), .val (.int (5 : Int32)), .val (.ref a_DELETION), .val (.int (1 : Int32)), .val (.int (1 : Int32)), .unset] [(.ref a87)])) _
      refine XS.aloadN X87.here hx rfl (hb hby at_74) rfl rfl ?_
      exact kk)
    obtain ⟨cq90, kq90, q90a, q90b, q90c⟩ := isOf hZ87 e87 (E_DELETION.keep K87)
    obtain ⟨_, _, ⟨T90, L90, kx90, nx90⟩, -, X90, ⟨Lc90, hQ90, l90, y90, z90⟩, st90⟩ := X87.virtualBack hx (y := (⟨"com/example/slotwire/slotwire/RequestEvent", "fillerStatus", "()Ljava/lang/String;"⟩ : MethodName)) (z := (⟨"com/example/slotwire/slotwire/RequestEvent", "fillerStatus", "()Ljava/lang/String;"⟩ : MethodName)) hown87 (mvT hZ87 (hw _ (List.mem_of_getElem? (i := 39) rfl))) (mvT hZ87 (hw _ (List.mem_of_getElem? (i := 40) rfl))) (notFace_of_selects (args := #[]) (mvT hZ87 (hw _ (List.mem_of_getElem? (i := 42) rfl)))) (mvT hZ87 (hw _ (List.mem_of_getElem? (i := 42) rfl))) (mvT hZ87 (hw _ (List.mem_of_getElem? (i := 41) rfl))) (by decide) (backOf (W := 1) (rmF l Z a0 hw [] a_DELETION s_DELETION h87 n0 Zs87 (f_DELETION.keep K87 nin0)) hZ87 (hw _ (List.mem_of_getElem? (i := 43) rfl)) (hw _ (List.mem_of_getElem? (i := 3) rfl)) (by decide) (by decide)) q90a q90c (g := (mkF m 75 #[.val (.int p1), .val (.ref b2), .val (.int (5 : Int32)), .val (.ref a_DELETION), .val (.int (1 : Int32)), .val (.int (1 : Int32)), .unset] [(.ref a_DELETION), (.ref a87)])) rfl (by rw [hml]; rfl) (Steps.refl _) (argsL := []) (rest := [(.ref a87)]) (lenOf pd_3 rfl) rfl (by show 2 * 0 + _ ≤ _; exact Nat.le_of_eq rfl) (hb hby at_75) (fun _ _ => ⟨rfl, e87, (by decide : 3 + 0 ≤ _), (by decide : 38 + 0 ≤ _)⟩)
    dsimp only [Pt.U, Pt.locs, Pt.cells, Pt.slots] at X90 l90 y90 z90 st90 hQ90
    subst l90 y90 z90
    obtain ⟨rfl, rfl, e90⟩ := hQ90
    try rw [List.append_nil] at X90
    have k90 : Go p e below (s₁.setTop (entryFrame m #[(.int p1)] maxLocals)) (T90.setTop (mkF m 78 #[.val (.int p1), .val (.ref b2), .val (.int (5 : Int32)), .val (.ref a_DELETION), .val (.int (1 : Int32)), .val (.int (1 : Int32)), .unset] [(.ref s_DELETION), (.ref a87)])) := fun t kk => k89 t (st90.trans kk)
    obtain ⟨cq91, kq91, q91a, q91b, q91c⟩ := isOf hZ87 e90 xe87
    obtain ⟨_, _, ⟨T91, L91, kx91, nx91⟩, -, X91, ⟨Lc91, hQ91, l91, y91, z91⟩, st91⟩ := X90.virtualBack hx (y := (⟨"java/lang/String", "equals", "(Ljava/lang/Object;)Z"⟩ : MethodName)) (z := (⟨"java/lang/String", "equals", "(Ljava/lang/Object;)Z"⟩ : MethodName)) hown87 (mvT hZ87 (hw _ (List.mem_of_getElem? (i := 46) rfl))) (mvT hZ87 (hw _ (List.mem_of_getElem? (i := 47) rfl))) (notFace_of_selects (args := #[]) (mvT hZ87 (hw _ (List.mem_of_getElem? (i := 49) rfl)))) (mvT hZ87 (hw _ (List.mem_of_getElem? (i := 49) rfl))) (mvT hZ87 (hw _ (List.mem_of_getElem? (i := 48) rfl))) (by decide) (backOf (W := 0) (rmEY l Z a0 hw [] a87 s_DELETION b87 t_DELETION kc87 k_DELETION cs h87 n0 Zs87 (es_DELETION.keep K87) xc87 (cs_DELETION.keep K87 nin0) xv87 (vs_DELETION.keep K87 nin0) V87 (as_DELETION.keep K87 nin0) (own_stakeep S_C K87) hs1) hZ87 (hw _ (List.mem_of_getElem? (i := 50) rfl)) (hw _ (List.mem_of_getElem? (i := 32) rfl)) (by decide) (by decide)) q91a q91c (g := (mkF m 78 #[.val (.int p1), .val (.ref b2), .val (.int (5 : Int32)), .val (.ref a_DELETION), .val (.int (1 : Int32)), .val (.int (1 : Int32)), .unset] [(.ref s_DELETION), (.ref a87)])) rfl (by rw [hml]; rfl) (Steps.refl _) (argsL := [(.ref s_DELETION)]) (rest := []) (lenOf pd_4 rfl) rfl (by show 2 * 0 + _ ≤ _; exact Nat.le_of_eq rfl) (hb hby at_78) (fun _ _ => ⟨rfl, e90, (by decide : 3 + 0 ≤ _), (by decide : 38 + 0 ≤ _)⟩)
    dsimp only [Pt.U, Pt.locs, Pt.cells, Pt.slots] at X91 l91 y91 z91 st91 hQ91
    subst l91 y91 z91
    obtain ⟨rfl, rfl, e91⟩ := hQ91
    try rw [List.append_nil] at X91
    have k91 : Go p e below (s₁.setTop (entryFrame m #[(.int p1)] maxLocals)) (T91.setTop (mkF m 81 #[.val (.int p1), .val (.ref b2), .val (.int (5 : Int32)), .val (.ref a_DELETION), .val (.int (1 : Int32)), .val (.int (1 : Int32)), .unset] [(.int (1 : Int32))])) := fun t kk => k90 t (st91.trans kk)
    have k92 : Go p e below (s₁.setTop (entryFrame m #[(.int p1)] maxLocals)) (T91.setTop (mkF m 103 #[.val (.int p1), .val (.ref b2), .val (.int (5 : Int32)), .val (.ref a_DELETION), .val (.int (1 : Int32)), .val (.int (1 : Int32)), .val (.int (1 : Int32))] [(.ref a_DELETION)])) := fun t kk => k91 t (by
      show Steps p.tables e below (T91.setTop (mkF m 81 #[.val (.int p1), .val (.ref b2), .val (.int (5 : Int32)), .val (.ref a_DELETION), .val (.int (1 : Int32)), .val (.int (1 : Int32)), .unset] [(.int (1 : Int32))])) _
      refine XS.istore X91.here hx rfl (hb hby at_81) rfl (l' := #[.val (.int p1), .val (.ref b2), .val (.int (5 : Int32)), .val (.ref a_DELETION), .val (.int (1 : Int32)), .val (.int (1 : Int32)), .val (.int (1 : Int32))]) rfl ?_
      show Steps p.tables e below (T91.setTop (mkF m 83 #[.val (.int p1), .val (.ref b2), .val (.int (5 : Int32)), .val (.ref a_DELETION), .val (.int (1 : Int32)), .val (.int (1 : Int32)), .val (.int (1 : Int32))] [])) _
      refine XS.iload X91.here hx rfl (hb hby at_83) rfl ?_
      show Steps p.tables e below (T91.setTop (mkF m 85 #[.val (.int p1), .val (.ref b2), .val (.int (5 : Int32)), .val (.ref a_DELETION), .val (.int (1 : Int32)), .val (.int (1 : Int32)), .val (.int (1 : Int32))] [(.int (1 : Int32))])) _
      refine XS.iload X91.here hx rfl (hb hby at_85) rfl ?_
      show Steps p.tables e below (T91.setTop (mkF m 87 #[.val (.int p1), .val (.ref b2), .val (.int (5 : Int32)), .val (.ref a_DELETION), .val (.int (1 : Int32)), .val (.int (1 : Int32)), .val (.int (1 : Int32))] [(.int (1 : Int32)), (.int (1 : Int32))])) _
      refine XS.icmpNo X91.here hx rfl (hb hby at_87) rfl (teq (by decide : (1 : Int32) = (1 : Int32))).2 ?_
      show Steps p.tables e below (T91.setTop (mkF m 90 #[.val (.int p1), .val (.ref b2), .val (.int (5 : Int32)), .val (.ref a_DELETION), .val (.int (1 : Int32)), .val (.int (1 : Int32)), .val (.int (1 : Int32))] [])) _
      refine XS.iload X91.here hx rfl (hb hby at_90) rfl ?_
      show Steps p.tables e below (T91.setTop (mkF m 92 #[.val (.int p1), .val (.ref b2), .val (.int (5 : Int32)), .val (.ref a_DELETION), .val (.int (1 : Int32)), .val (.int (1 : Int32)), .val (.int (1 : Int32))] [(.int (1 : Int32))])) _
      refine XS.iload X91.here hx rfl (hb hby at_92) rfl ?_
      show Steps p.tables e below (T91.setTop (mkF m 94 #[.val (.int p1), .val (.ref b2), .val (.int (5 : Int32)), .val (.ref a_DELETION), .val (.int (1 : Int32)), .val (.int (1 : Int32)), .val (.int (1 : Int32))] [(.int (1 : Int32)), (.int (1 : Int32))])) _
      refine XS.icmpNo X91.here hx rfl (hb hby at_94) rfl (teq (by decide : (1 : Int32) = (1 : Int32))).2 ?_
      show Steps p.tables e below (T91.setTop (mkF m 97 #[.val (.int p1), .val (.ref b2), .val (.int (5 : Int32)), .val (.ref a_DELETION), .val (.int (1 : Int32)), .val (.int (1 : Int32)), .val (.int (1 : Int32))] [])) _
      refine XS.iload X91.here hx rfl (hb hby at_97) rfl ?_
      show Steps p.tables e below (T91.setTop (mkF m 99 #[.val (.int p1), .val (.ref b2), .val (.int (5 : Int32)), .val (.ref a_DELETION), .val (.int (1 : Int32)), .val (.int (1 : Int32)), .val (.int (1 : Int32))] [(.int (1 : Int32))])) _
      refine XS.ifNo X91.here hx rfl (hb hby at_99) rfl ((if0 _ _).trans (feq (by decide : ¬ ((1 : Int32) = (0 : Int32)))).1) ?_
      show Steps p.tables e below (T91.setTop (mkF m 102 #[.val (.int p1), .val (.ref b2), .val (.int (5 : Int32)), .val (.ref a_DELETION), .val (.int (1 : Int32)), .val (.int (1 : Int32)), .val (.int (1 : Int32))] [])) _
      refine XS.aloadN X91.here hx rfl (hb hby at_102) rfl rfl ?_
      exact kk)
    obtain ⟨cq93, kq93, q93a, q93b, q93c⟩ := isOf hZ87 e91 (E_DELETION.keep K87)
    obtain ⟨_, _, ⟨T93, L93, kx93, nx93⟩, -, X93, ⟨Lc93, hQ93, l93, y93, z93⟩, st93⟩ := X91.virtualBack hx (y := (⟨"com/example/slotwire/slotwire/RequestEvent", "releasesTime", "()Z"⟩ : MethodName)) (z := (⟨"com/example/slotwire/slotwire/RequestEvent", "releasesTime", "()Z"⟩ : MethodName)) hown87 (mvT hZ87 (hw _ (List.mem_of_getElem? (i := 60) rfl))) (mvT hZ87 (hw _ (List.mem_of_getElem? (i := 61) rfl))) (notFace_of_selects (args := #[]) (mvT hZ87 (hw _ (List.mem_of_getElem? (i := 63) rfl)))) (mvT hZ87 (hw _ (List.mem_of_getElem? (i := 63) rfl))) (mvT hZ87 (hw _ (List.mem_of_getElem? (i := 62) rfl))) (by decide) (backOf (W := 0) (rmT l Z a0 hw [] a_DELETION (5 : Int32) h87 n0 Zs87 (o_DELETION.keep K87 nin0) (E_DELETION.keep K87) (by decide)) hZ87 (hw _ (List.mem_of_getElem? (i := 64) rfl)) (hw _ (List.mem_of_getElem? (i := 3) rfl)) (by decide) (by decide)) q93a q93c (g := (mkF m 103 #[.val (.int p1), .val (.ref b2), .val (.int (5 : Int32)), .val (.ref a_DELETION), .val (.int (1 : Int32)), .val (.int (1 : Int32)), .val (.int (1 : Int32))] [(.ref a_DELETION)])) rfl (by rw [hml]; rfl) (Steps.refl _) (argsL := []) (rest := []) (lenOf pd_2 rfl) rfl (by show 2 * 0 + _ ≤ _; exact Nat.le_of_eq rfl) (hb hby at_103) (fun _ _ => ⟨rfl, e91, (by decide : 3 + 0 ≤ _), (by decide : 38 + 0 ≤ _)⟩)
    dsimp only [Pt.U, Pt.locs, Pt.cells, Pt.slots] at X93 l93 y93 z93 st93 hQ93
    subst l93 y93 z93
    obtain ⟨rfl, rfl, e93⟩ := hQ93
    try rw [List.append_nil] at X93
    have k93 : Go p e below (s₁.setTop (entryFrame m #[(.int p1)] maxLocals)) (T93.setTop (mkF m 106 #[.val (.int p1), .val (.ref b2), .val (.int (5 : Int32)), .val (.ref a_DELETION), .val (.int (1 : Int32)), .val (.int (1 : Int32)), .val (.int (1 : Int32))] [(.int (own_rel (5 : Int32)))])) := fun t kk => k92 t (st93.trans kk)
    have k94 : Go p e below (s₁.setTop (entryFrame m #[(.int p1)] maxLocals)) (T93.setTop (mkF m 106 #[.val (.int p1), .val (.ref b2), .val (.int (5 : Int32)), .val (.ref a_DELETION), .val (.int (1 : Int32)), .val (.int (1 : Int32)), .val (.int (1 : Int32))] [(.int (1 : Int32))])) := k93
    have k95 : Go p e below (s₁.setTop (entryFrame m #[(.int p1)] maxLocals)) (T93.setTop (mkF m 114 #[.val (.int p1), .val (.ref b2), .val (.int (5 : Int32)), .val (.ref a_DELETION), .val (.int (1 : Int32)), .val (.int (1 : Int32)), .val (.int (1 : Int32))] [(.int (1 : Int32))])) := fun t kk => k94 t (by
      show Steps p.tables e below (T93.setTop (mkF m 106 #[.val (.int p1), .val (.ref b2), .val (.int (5 : Int32)), .val (.ref a_DELETION), .val (.int (1 : Int32)), .val (.int (1 : Int32)), .val (.int (1 : Int32))] [(.int (1 : Int32))])) _
      refine XS.ifNo X93.here hx rfl (hb hby at_106) rfl ((if0 _ _).trans (feq (by decide : ¬ ((1 : Int32) = (0 : Int32)))).1) ?_
      show Steps p.tables e below (T93.setTop (mkF m 109 #[.val (.int p1), .val (.ref b2), .val (.int (5 : Int32)), .val (.ref a_DELETION), .val (.int (1 : Int32)), .val (.int (1 : Int32)), .val (.int (1 : Int32))] [])) _
      refine XS.iconst X93.here hx rfl (hb hby at_109) ?_
      show Steps p.tables e below (T93.setTop (mkF m 110 #[.val (.int p1), .val (.ref b2), .val (.int (5 : Int32)), .val (.ref a_DELETION), .val (.int (1 : Int32)), .val (.int (1 : Int32)), .val (.int (1 : Int32))] [(.int (1 : Int32))])) _
      refine XS.goto X93.here hx rfl (pc0 := 110) (pc' := 114) rfl (hb hby at_110) (by decide) (by decide) ?_
      exact kk)
    obtain ⟨fs, hr, hrun, hended, hW⟩ := leaveW X93 hS87 (by rw [e93]; exact hk87) (v := some (.int (1 : Int32))) (fun h => by rw [Bd.returns] at h; cases h)
    refine ⟨_, _, k95 _ ?_, hrun, hended, _, _, rfl, ?_, hW.1, hW.2.1, hW.2.2.1, hW.2.2.2.mono (by decide) (by decide)⟩
    · show Steps p.tables e below (T93.setTop (mkF m 114 #[.val (.int p1), .val (.ref b2), .val (.int (5 : Int32)), .val (.ref a_DELETION), .val (.int (1 : Int32)), .val (.int (1 : Int32)), .val (.int (1 : Int32))] [(.int (1 : Int32))])) _
      exact retN X93 hx (t := .boolean) Bd.returns (by simp) (hb hby at_114) hr
    · show Q0 Z p1 a_BOOKING a_RESCHEDULING a_MODIFICATION a_CANCELLATION a_DISCONTINUATION a_DELETION s_BOOKING t_BOOKING k_BOOKING s_CANCELLATION t_CANCELLATION k_CANCELLATION s_DELETION t_DELETION k_DELETION s_DISCONTINUATION t_DISCONTINUATION k_DISCONTINUATION cs h0 n0 _ T93.heap _
      rw [e93]
      exact ⟨rfl, N20⟩
set_option maxRecDepth 65536 in
set_option maxHeartbeats 40000000 in
theorem comes_1 {Post : Tables → Env → Array Value → State → Outcome → State → Prop} (hpost : ∀ tb e args s v u, (limb_1_1.after args s (.returned v) u = true ∧ limb_1_2.after args s (.returned v) u = true ∧ True) → ReturnedEndW s (.returned v) u (Jvm.fieldLocs frame_1_writes args s ++ Jvm.arrayLocs frame_1_arrays args s ++ Jvm.staticLocs frame_1_statics s) 16 1152 → Post tb e args s (.returned v) u) :
    ArmFor flags0 classFile x code maxLocals ret World_1 tables_1 room_1 Calls_1 rest_1 Pre_1 Post := by
  intro l hfl _ _ p e ha hc hk s m args below hf hA hF happ hP
  obtain ⟨hcalls, hrest, hpre⟩ := hP
  obtain ⟨-, -, -, hnamed, -, -, -, hat⟩ := (Spec.applies_iff hf).mp happ
  obtain ⟨hg, hn⟩ := and_e (Cond.before_iff.mp (show (Jvm.Cond.and given_1 narrow_1).before args s = true from hpre))
  obtain ⟨g1, g2⟩ := and_e hg
  obtain ⟨w0, rfl⟩ : ∃ w0 : Value, args = #[w0] := by
    have hs : args.size = 1 := by simpa [Cond.value, given_1] using g1
    obtain ⟨L⟩ := args
    match L, hs with
    | [w0], _ => exact ⟨w0, rfl⟩
  have hw := fun d (hd : d ∈ tables_1) => atoms_spec (ws := Jvm.Cond.code x code maxLocals ret :: tables_1) hat d (List.mem_cons_of_mem _ hd)
  have hfit : Fit s := fun {y c} hc i hi => by
    obtain ⟨ha, rfl⟩ := Array.getElem?_eq_some_iff.mp hc
    have q := List.all_eq_true.mp ((Array.all_eq_true_iff_forall_mem.mp hF) _ (Array.getElem_mem ha)) i (List.mem_range.mpr hi)
    simpa [Array.getElem?_eq_getElem hi] using q
  obtain ⟨hsets, hown0⟩ := atoms_of _ (rest_1_c_eq ▸ (show rest_1_c.before _ s = true from hrest))
  obtain ⟨i0, ei0⟩ := is_v g2
  obtain rfl : w0 = (.int i0) := Option.some.inj ei0
  obtain ⟨m1, m2⟩ := and_e hn
  obtain ⟨m3, m4⟩ := and_e m2
  obtain ⟨m5, m6⟩ := and_e m4
  obtain ⟨m7, m8⟩ := and_e m6
  obtain ⟨m9, m10⟩ := and_e m8
  obtain ⟨m11, m12⟩ := and_e m10
  obtain ⟨m13, m14⟩ := and_e m12
  obtain ⟨m15, m16⟩ := and_e m14
  obtain ⟨m17, m18⟩ := and_e m16
  obtain ⟨m19, m20⟩ := and_e m18
  obtain ⟨m21, m22⟩ := and_e m20
  obtain ⟨m23, m24⟩ := and_e m22
  obtain ⟨m25, m26⟩ := and_e m24
  obtain ⟨m27, m28⟩ := and_e m26
  obtain ⟨m29, m30⟩ := and_e m28
  obtain ⟨m31, m32⟩ := and_e m30
  obtain ⟨m33, m34⟩ := and_e m32
  obtain ⟨m35, m36⟩ := and_e m34
  obtain ⟨m37, m38⟩ := and_e m36
  obtain ⟨m39, m40⟩ := and_e m38
  obtain ⟨m41, m42⟩ := and_e m40
  obtain ⟨m43, m44⟩ := and_e m42
  obtain ⟨m45, m46⟩ := and_e m44
  obtain ⟨m47, m48⟩ := and_e m46
  obtain ⟨m49, m50⟩ := and_e m48
  obtain ⟨m51, m52⟩ := and_e m50
  obtain ⟨m53, m54⟩ := and_e m52
  obtain ⟨m55, m56⟩ := and_e m54
  obtain ⟨m57, m58⟩ := and_e m56
  obtain ⟨m59, m60⟩ := and_e m58
  obtain ⟨m61, m62⟩ := and_e m60
  obtain ⟨m63, m64⟩ := and_e m62
  obtain ⟨m65, m66⟩ := and_e m64
  obtain ⟨m67, m68⟩ := and_e m66
  obtain ⟨m69, m70⟩ := and_e m68
  obtain ⟨m71, m72⟩ := and_e m70
  obtain ⟨m73, m74⟩ := and_e m72
  obtain ⟨m75, m76⟩ := and_e m74
  obtain ⟨m77, m78⟩ := and_e m76
  obtain ⟨m79, m80⟩ := and_e m78
  obtain ⟨m81, m82⟩ := and_e m80
  obtain ⟨m83, m84⟩ := and_e m82
  obtain ⟨m85, m86⟩ := and_e m84
  obtain ⟨m87, m88⟩ := and_e m86
  obtain ⟨m89, m90⟩ := and_e m88
  obtain ⟨m91, m92⟩ := and_e m90
  obtain ⟨m93, m94⟩ := and_e m92
  obtain ⟨m95, m96⟩ := and_e m94
  obtain ⟨m97, m98⟩ := and_e m96
  obtain ⟨m99, m100⟩ := and_e m98
  obtain ⟨m101, m102⟩ := and_e m100
  obtain ⟨m103, m104⟩ := and_e m102
  obtain ⟨m105, m106⟩ := and_e m104
  obtain ⟨a_BOOKING, va_BOOKING⟩ := exa_v m1
  have Sa_BOOKING := Sta.start va_BOOKING (Or.inr ⟨(hw _ (List.mem_of_getElem? (i := 3) rfl)), (hw _ (List.mem_of_getElem? (i := 4) rfl))⟩)
  have Ea_BOOKING := Exa.start va_BOOKING m1
  obtain ⟨a_RESCHEDULING, va_RESCHEDULING⟩ := exa_v m3
  have Sa_RESCHEDULING := Sta.start va_RESCHEDULING (Or.inr ⟨(hw _ (List.mem_of_getElem? (i := 3) rfl)), (hw _ (List.mem_of_getElem? (i := 7) rfl))⟩)
  have Ea_RESCHEDULING := Exa.start va_RESCHEDULING m3
  obtain ⟨a_MODIFICATION, va_MODIFICATION⟩ := exa_v m5
  have Sa_MODIFICATION := Sta.start va_MODIFICATION (Or.inr ⟨(hw _ (List.mem_of_getElem? (i := 3) rfl)), (hw _ (List.mem_of_getElem? (i := 9) rfl))⟩)
  have Ea_MODIFICATION := Exa.start va_MODIFICATION m5
  obtain ⟨a_CANCELLATION, va_CANCELLATION⟩ := exa_v m7
  have Sa_CANCELLATION := Sta.start va_CANCELLATION (Or.inr ⟨(hw _ (List.mem_of_getElem? (i := 3) rfl)), (hw _ (List.mem_of_getElem? (i := 11) rfl))⟩)
  have Ea_CANCELLATION := Exa.start va_CANCELLATION m7
  obtain ⟨a_DISCONTINUATION, va_DISCONTINUATION⟩ := exa_v m9
  have Sa_DISCONTINUATION := Sta.start va_DISCONTINUATION (Or.inr ⟨(hw _ (List.mem_of_getElem? (i := 3) rfl)), (hw _ (List.mem_of_getElem? (i := 13) rfl))⟩)
  have Ea_DISCONTINUATION := Exa.start va_DISCONTINUATION m9
  obtain ⟨a_DELETION, va_DELETION⟩ := exa_v m11
  have Sa_DELETION := Sta.start va_DELETION (Or.inr ⟨(hw _ (List.mem_of_getElem? (i := 3) rfl)), (hw _ (List.mem_of_getElem? (i := 15) rfl))⟩)
  have Ea_DELETION := Exa.start va_DELETION m11
  have eFa_BOOKING_ordinal := own_eqI m13
  rw [fld_at va_BOOKING] at eFa_BOOKING_ordinal
  have Fa_BOOKING_ordinal := Fld.start eFa_BOOKING_ordinal
  have eFa_CANCELLATION_ordinal := own_eqI m23
  rw [fld_at va_CANCELLATION] at eFa_CANCELLATION_ordinal
  have Fa_CANCELLATION_ordinal := Fld.start eFa_CANCELLATION_ordinal
  have eFa_MODIFICATION_ordinal := own_eqI m33
  rw [fld_at va_MODIFICATION] at eFa_MODIFICATION_ordinal
  have Fa_MODIFICATION_ordinal := Fld.start eFa_MODIFICATION_ordinal
  have eFa_RESCHEDULING_ordinal := own_eqI m37
  rw [fld_at va_RESCHEDULING] at eFa_RESCHEDULING_ordinal
  have Fa_RESCHEDULING_ordinal := Fld.start eFa_RESCHEDULING_ordinal
  have eFa_DELETION_ordinal := own_eqI m41
  rw [fld_at va_DELETION] at eFa_DELETION_ordinal
  have Fa_DELETION_ordinal := Fld.start eFa_DELETION_ordinal
  have eFa_DISCONTINUATION_ordinal := own_eqI m51
  rw [fld_at va_DISCONTINUATION] at eFa_DISCONTINUATION_ordinal
  have Fa_DISCONTINUATION_ordinal := Fld.start eFa_DISCONTINUATION_ordinal
  obtain ⟨s_BOOKING, vs_BOOKING⟩ := exa_v m15
  have ws_BOOKING := vs_BOOKING
  rw [fld_at va_BOOKING] at ws_BOOKING
  have Fs_BOOKING := Fld.start ws_BOOKING
  have Es_BOOKING := Exa.start vs_BOOKING m15
  obtain ⟨s_CANCELLATION, vs_CANCELLATION⟩ := exa_v m25
  have ws_CANCELLATION := vs_CANCELLATION
  rw [fld_at va_CANCELLATION] at ws_CANCELLATION
  have Fs_CANCELLATION := Fld.start ws_CANCELLATION
  have Es_CANCELLATION := Exa.start vs_CANCELLATION m25
  obtain ⟨s_DELETION, vs_DELETION⟩ := exa_v m43
  have ws_DELETION := vs_DELETION
  rw [fld_at va_DELETION] at ws_DELETION
  have Fs_DELETION := Fld.start ws_DELETION
  have Es_DELETION := Exa.start vs_DELETION m43
  obtain ⟨s_DISCONTINUATION, vs_DISCONTINUATION⟩ := exa_v m53
  have ws_DISCONTINUATION := vs_DISCONTINUATION
  rw [fld_at va_DISCONTINUATION] at ws_DISCONTINUATION
  have Fs_DISCONTINUATION := Fld.start ws_DISCONTINUATION
  have Es_DISCONTINUATION := Exa.start vs_DISCONTINUATION m53
  have cs_BOOKING := own_eqI m17
  rw [fld_at vs_BOOKING] at cs_BOOKING
  have Cs_BOOKING := Fld.start cs_BOOKING
  obtain ⟨bs_BOOKING, vbs_BOOKING⟩ := arr_v m19
  have wbs_BOOKING := vbs_BOOKING
  rw [fld_at vs_BOOKING] at wbs_BOOKING
  have Vs_BOOKING := Fld.start wbs_BOOKING
  obtain ⟨cls_BOOKING, As_BOOKING⟩ := Arr.start vbs_BOOKING m19
  obtain ⟨qs_BOOKING, zs_BOOKING⟩ := own_len (own_eqI m21) vbs_BOOKING As_BOOKING
  have cs_CANCELLATION := own_eqI m27
  rw [fld_at vs_CANCELLATION] at cs_CANCELLATION
  have Cs_CANCELLATION := Fld.start cs_CANCELLATION
  obtain ⟨bs_CANCELLATION, vbs_CANCELLATION⟩ := arr_v m29
  have wbs_CANCELLATION := vbs_CANCELLATION
  rw [fld_at vs_CANCELLATION] at wbs_CANCELLATION
  have Vs_CANCELLATION := Fld.start wbs_CANCELLATION
  obtain ⟨cls_CANCELLATION, As_CANCELLATION⟩ := Arr.start vbs_CANCELLATION m29
  obtain ⟨qs_CANCELLATION, zs_CANCELLATION⟩ := own_len (own_eqI m31) vbs_CANCELLATION As_CANCELLATION
  have wMODIFICATION := own_eqT m35 vs_BOOKING
  rw [fld_at va_MODIFICATION] at wMODIFICATION
  have Fs_MODIFICATION := Fld.start wMODIFICATION
  have wRESCHEDULING := own_eqT m39 vs_BOOKING
  rw [fld_at va_RESCHEDULING] at wRESCHEDULING
  have Fs_RESCHEDULING := Fld.start wRESCHEDULING
  have cs_DELETION := own_eqI m45
  rw [fld_at vs_DELETION] at cs_DELETION
  have Cs_DELETION := Fld.start cs_DELETION
  obtain ⟨bs_DELETION, vbs_DELETION⟩ := arr_v m47
  have wbs_DELETION := vbs_DELETION
  rw [fld_at vs_DELETION] at wbs_DELETION
  have Vs_DELETION := Fld.start wbs_DELETION
  obtain ⟨cls_DELETION, As_DELETION⟩ := Arr.start vbs_DELETION m47
  obtain ⟨qs_DELETION, zs_DELETION⟩ := own_len (own_eqI m49) vbs_DELETION As_DELETION
  have cs_DISCONTINUATION := own_eqI m55
  rw [fld_at vs_DISCONTINUATION] at cs_DISCONTINUATION
  have Cs_DISCONTINUATION := Fld.start cs_DISCONTINUATION
  obtain ⟨bs_DISCONTINUATION, vbs_DISCONTINUATION⟩ := arr_v m57
  have wbs_DISCONTINUATION := vbs_DISCONTINUATION
  rw [fld_at vs_DISCONTINUATION] at wbs_DISCONTINUATION
  have Vs_DISCONTINUATION := Fld.start wbs_DISCONTINUATION
  obtain ⟨cls_DISCONTINUATION, As_DISCONTINUATION⟩ := Arr.start vbs_DISCONTINUATION m57
  obtain ⟨qs_DISCONTINUATION, zs_DISCONTINUATION⟩ := own_len (own_eqI m59) vbs_DISCONTINUATION As_DISCONTINUATION
  have ls_DISCONTINUATION_0 := (elem_in (own_eqI m61) vbs_DISCONTINUATION (Term.int_eval (0)) As_DISCONTINUATION.1).2
  have ls_DISCONTINUATION_1 := (elem_in (own_eqI m63) vbs_DISCONTINUATION (Term.int_eval (1)) As_DISCONTINUATION.1).2
  have ls_BOOKING_0 := (elem_in (own_eqI m65) vbs_BOOKING (Term.int_eval (0)) As_BOOKING.1).2
  have ls_BOOKING_1 := (elem_in (own_eqI m67) vbs_BOOKING (Term.int_eval (1)) As_BOOKING.1).2
  have ls_BOOKING_2 := (elem_in (own_eqI m69) vbs_BOOKING (Term.int_eval (2)) As_BOOKING.1).2
  have ls_BOOKING_3 := (elem_in (own_eqI m71) vbs_BOOKING (Term.int_eval (3)) As_BOOKING.1).2
  have ls_BOOKING_4 := (elem_in (own_eqI m73) vbs_BOOKING (Term.int_eval (4)) As_BOOKING.1).2
  have ls_BOOKING_5 := (elem_in (own_eqI m75) vbs_BOOKING (Term.int_eval (5)) As_BOOKING.1).2
  have ls_CANCELLATION_0 := (elem_in (own_eqI m77) vbs_CANCELLATION (Term.int_eval (0)) As_CANCELLATION.1).2
  have ls_CANCELLATION_1 := (elem_in (own_eqI m79) vbs_CANCELLATION (Term.int_eval (1)) As_CANCELLATION.1).2
  have ls_CANCELLATION_2 := (elem_in (own_eqI m81) vbs_CANCELLATION (Term.int_eval (2)) As_CANCELLATION.1).2
  have ls_CANCELLATION_3 := (elem_in (own_eqI m83) vbs_CANCELLATION (Term.int_eval (3)) As_CANCELLATION.1).2
  have ls_CANCELLATION_4 := (elem_in (own_eqI m85) vbs_CANCELLATION (Term.int_eval (4)) As_CANCELLATION.1).2
  have ls_CANCELLATION_5 := (elem_in (own_eqI m87) vbs_CANCELLATION (Term.int_eval (5)) As_CANCELLATION.1).2
  have ls_CANCELLATION_6 := (elem_in (own_eqI m89) vbs_CANCELLATION (Term.int_eval (6)) As_CANCELLATION.1).2
  have ls_CANCELLATION_7 := (elem_in (own_eqI m91) vbs_CANCELLATION (Term.int_eval (7)) As_CANCELLATION.1).2
  have ls_CANCELLATION_8 := (elem_in (own_eqI m93) vbs_CANCELLATION (Term.int_eval (8)) As_CANCELLATION.1).2
  have ls_DELETION_0 := (elem_in (own_eqI m95) vbs_DELETION (Term.int_eval (0)) As_DELETION.1).2
  have ls_DELETION_1 := (elem_in (own_eqI m97) vbs_DELETION (Term.int_eval (1)) As_DELETION.1).2
  have ls_DELETION_2 := (elem_in (own_eqI m99) vbs_DELETION (Term.int_eval (2)) As_DELETION.1).2
  have ls_DELETION_3 := (elem_in (own_eqI m101) vbs_DELETION (Term.int_eval (3)) As_DELETION.1).2
  have ls_DELETION_4 := (elem_in (own_eqI m103) vbs_DELETION (Term.int_eval (4)) As_DELETION.1).2
  have ls_DELETION_5 := (elem_in (own_eqI m105) vbs_DELETION (Term.int_eval (5)) As_DELETION.1).2
  have ls_DELETION_6 := (elem_in (own_eqI m106) vbs_DELETION (Term.int_eval (6)) As_DELETION.1).2
  have Ws_BOOKING : Arv s s.heap bs_BOOKING cls_BOOKING.cls .byte (6 : Int32) [(.int (66 : Int32)), (.int (111 : Int32)), (.int (111 : Int32)), (.int (107 : Int32)), (.int (101 : Int32)), (.int (100 : Int32))] (.int (0 : Int32)) := Arv.start hfit As_BOOKING qs_BOOKING zs_BOOKING (by decide) rfl ⟨ls_BOOKING_0, ls_BOOKING_1, ls_BOOKING_2, ls_BOOKING_3, ls_BOOKING_4, ls_BOOKING_5, trivial⟩
  have Ws_CANCELLATION : Arv s s.heap bs_CANCELLATION cls_CANCELLATION.cls .byte (9 : Int32) [(.int (67 : Int32)), (.int (97 : Int32)), (.int (110 : Int32)), (.int (99 : Int32)), (.int (101 : Int32)), (.int (108 : Int32)), (.int (108 : Int32)), (.int (101 : Int32)), (.int (100 : Int32))] (.int (0 : Int32)) := Arv.start hfit As_CANCELLATION qs_CANCELLATION zs_CANCELLATION (by decide) rfl ⟨ls_CANCELLATION_0, ls_CANCELLATION_1, ls_CANCELLATION_2, ls_CANCELLATION_3, ls_CANCELLATION_4, ls_CANCELLATION_5, ls_CANCELLATION_6, ls_CANCELLATION_7, ls_CANCELLATION_8, trivial⟩
  have Ws_DELETION : Arv s s.heap bs_DELETION cls_DELETION.cls .byte (7 : Int32) [(.int (68 : Int32)), (.int (101 : Int32)), (.int (108 : Int32)), (.int (101 : Int32)), (.int (116 : Int32)), (.int (101 : Int32)), (.int (100 : Int32))] (.int (0 : Int32)) := Arv.start hfit As_DELETION qs_DELETION zs_DELETION (by decide) rfl ⟨ls_DELETION_0, ls_DELETION_1, ls_DELETION_2, ls_DELETION_3, ls_DELETION_4, ls_DELETION_5, ls_DELETION_6, trivial⟩
  have Ws_DISCONTINUATION : Arv s s.heap bs_DISCONTINUATION cls_DISCONTINUATION.cls .byte (2 : Int32) [(.int (68 : Int32)), (.int (99 : Int32))] (.int (0 : Int32)) := Arv.start hfit As_DISCONTINUATION qs_DISCONTINUATION zs_DISCONTINUATION (by decide) rfl ⟨ls_DISCONTINUATION_0, ls_DISCONTINUATION_1, trivial⟩
  have r1 := hsets _ (List.mem_of_getElem? (i := 0) rfl)
  obtain ⟨cs, ecs⟩ := is_v (Cond.before_iff.mp (hsets _ (List.mem_of_getElem? (i := 1) rfl)))
  have S1 := Sta.start ecs (Or.inl r1)
  have hs1 : ¬ (cs = (0 : Int32)) := fun q => by
    have z := Cond.before_iff.mp (hsets _ (List.mem_of_getElem? (i := 2) rfl))
    subst q
    have y := not_v z
    rw [eq_i ecs (Term.int_eval (0)) rfl] at y
    cases y
  have hheld : Jvm.Lit.constHeld s "com/example/slotwire/slotwire/RequestEventDeletesPinLaw" 33 := hcalls.1 _ (List.mem_of_getElem? (i := 0) rfl)
  obtain ⟨n, o, h1, h2, h3, _, L, rfl, ⟨rfl, N⟩, hq⟩ := rm0 l s _ hw hsets tables_1 i0 a_BOOKING a_RESCHEDULING a_MODIFICATION a_CANCELLATION a_DISCONTINUATION a_DELETION s_BOOKING bs_BOOKING cls_BOOKING.cls s_CANCELLATION bs_CANCELLATION cls_CANCELLATION.cls s_DELETION bs_DELETION cls_DELETION.cls s_DISCONTINUATION bs_DISCONTINUATION cls_DISCONTINUATION.cls cs s.heap s.heap.size (Nat.le_refl _) rfl hheld Sa_BOOKING Ea_BOOKING Fa_BOOKING_ordinal Fs_BOOKING Sa_RESCHEDULING Ea_RESCHEDULING Fa_RESCHEDULING_ordinal Fs_RESCHEDULING Sa_MODIFICATION Ea_MODIFICATION Fa_MODIFICATION_ordinal Fs_MODIFICATION Sa_CANCELLATION Ea_CANCELLATION Fa_CANCELLATION_ordinal Fs_CANCELLATION Sa_DISCONTINUATION Ea_DISCONTINUATION Fa_DISCONTINUATION_ordinal Fs_DISCONTINUATION Sa_DELETION Ea_DELETION Fa_DELETION_ordinal Fs_DELETION Es_BOOKING Cs_BOOKING Vs_BOOKING Ws_BOOKING Es_CANCELLATION Cs_CANCELLATION Vs_CANCELLATION Ws_CANCELLATION Es_DELETION Cs_DELETION Vs_DELETION Ws_DELETION Es_DISCONTINUATION Cs_DISCONTINUATION Vs_DISCONTINUATION Ws_DISCONTINUATION S1 hs1 p e ha hc hk s m _ below hf ((Spec.applies_iff_loose hf).mp happ).1 ⟨rfl, rfl, rfl⟩ trivial
  refine ⟨n, _, h1, h2, h3, hpost _ _ _ _ _ _ ⟨Cond.after_iff.mpr rfl, Cond.after_iff.mpr (eq_i res_at (Term.int_eval (1)) rfl), trivial⟩ ⟨hq.1, hq.2.1, hq.2.2.1, (hq.2.2.2.sift fun y hy => Or.inr (N y hy)).mono (by decide) (by decide)⟩⟩
theorem main_1_1 : Claimed_1_1 := comes_1 fun _ _ _ _ _ _ h hF => ⟨h.1, hF⟩
theorem main_1_2 : Claimed_1_2 := comes_1 fun _ _ _ _ _ _ h hF => ⟨h.2.1, hF⟩
end Jvm.Pilot.@@N@@
namespace Jvm.Pilot.@@N@@
open Jvm Jvm.ClassFile Sem Op Lib Jvm.Free Jvm.Stand Jvm.Pilot.@@N@@.Jvm.D
/-! MADE BY PROGRAM (witnessworld.py) out of the Statement's table words and the real class files: 19 classes; the members and pool entries that the words name. The judged class is class 1, her method 1. -/
namespace start1
open Jvm.ClassFile
def u (s : String) : CpInfo := .utf8 (stringToUtf16 s)
/-- a pool by its gaps: so many unusable entries, then the entry; so many at the end -/
def gap : Nat → List CpInfo → List CpInfo
  | 0, r => r
  | n + 1, r => .unusable :: gap n r
def poolList (es : List (Nat × CpInfo)) (last : Nat) : List CpInfo := es.foldr (fun e r => gap e.1 (e.2 :: r)) (gap last [])
def pool (es : List (Nat × CpInfo)) (last : Nat) : Array CpInfo := ⟨poolList es last⟩
def fileOf (pool : Array CpInfo) (this : Nat) (attrs : Array Attribute := #[]) (ms : Array MethodInfo := #[]) (fl : Nat := 33) (sup : Nat := 0) (ifs : Array Nat := #[]) (fds : Array FieldInfo := #[]) : ClassFile where
  minorVersion := 0
  majorVersion := 65
  constantPool := pool
  accessFlags := fl
  thisClass := this
  superClass := sup
  interfaces := ifs
  fields := fds
  methods := ms
  attributes := attrs
def plain (name : String) (sup : Option ClassId) : Class where
  name := name
  kind := .ordinary
  loader := none
  accessFlags := 33
  super := sup
  interfaces := #[]
  cf := none
  fields := #[]
  methods := #[]
  instanceTypes := #[]
  staticTypes := #[]
  resolved := #[]
  callSites := []
  init := .initialized
  statics := none
  mirror := none

def pool0 : Array CpInfo := pool [(5, u "<init>"), (0, u "()V"), (1, .class_ 10), (1, u "java/lang/Object")] 113

def k0m0 : Method := { name := "<init>", desc := "()V", sig := { parameters := [], returnType := none }, accessFlags := 1, code := none }
/-- java/lang/Object -/
def k0 : Class := { plain "java/lang/Object" none with
  accessFlags := 33
  interfaces := #[]
  cf := some (fileOf pool0 8 #[] #[{ accessFlags := 1, nameIndex := 5, descriptorIndex := 6, attributes := #[] }] 33 0 #[] #[])
  fields := #[]
  methods := #[k0m0]
  instanceTypes := #[]
  staticTypes := #[]
  resolved := Array.replicate 124 none
  statics := none }

def pool1 : Array CpInfo := pool [(2, .class_ 4), (1, u "java/lang/Object"), (0, u "<init>"), (0, u "()V"), (0, .class_ 8), (0, u "com/example/slotwire/slotwire/RequestEvent"), (0, .fieldref 7 10), (0, .nameAndType 11 12), (0, u "BOOKING"), (0, u "Lcom/example/slotwire/slotwire/RequestEvent;"), (0, .fieldref 7 14), (0, .nameAndType 15 12), (0, u "RESCHEDULING"), (0, .fieldref 7 17), (0, .nameAndType 18 12), (0, u "MODIFICATION"), (0, .fieldref 7 20), (0, .nameAndType 21 12), (0, u "CANCELLATION"), (0, .fieldref 7 23), (0, .nameAndType 24 12), (0, u "DISCONTINUATION"), (0, .fieldref 7 26), (0, .nameAndType 27 12), (0, u "DELETION"), (0, .integer 2147483647), (0, .methodref 7 30), (0, .nameAndType 31 32), (0, u "deletes"), (0, u "()Z"), (0, .string 34), (0, u "Deleted"), (0, .methodref 7 36), (0, .nameAndType 37 38), (0, u "fillerStatus"), (0, u "()Ljava/lang/String;"), (0, .methodref 40 41), (0, .class_ 42), (0, .nameAndType 43 44), (0, u "java/lang/String"), (0, u "equals"), (0, u "(Ljava/lang/Object;)Z"), (0, .methodref 7 46), (0, .nameAndType 47 32), (0, u "releasesTime"), (0, .class_ 49), (0, u "com/example/slotwire/slotwire/RequestEventDeletesPinLaw"), (2, u "law"), (0, u "(I)Z")] 5

def k1m0 : Method := { name := "<init>", desc := "()V", sig := { parameters := [], returnType := none }, accessFlags := 1, code := none }
def k1c1 : Code := { maxStack := 4, maxLocals := 7, code := code, exceptionTable := #[], attributes := #[] }
def k1m1 : Method := { name := "law", desc := "(I)Z", sig := { parameters := [.int], returnType := some .boolean }, accessFlags := 9, code := some k1c1 }
/-- com/example/slotwire/slotwire/RequestEventDeletesPinLaw -/
def k1 : Class := { plain "com/example/slotwire/slotwire/RequestEventDeletesPinLaw" (some 0) with
  accessFlags := 49
  interfaces := #[]
  cf := some (fileOf pool1 48 #[] #[{ accessFlags := 1, nameIndex := 5, descriptorIndex := 6, attributes := #[] }, { accessFlags := 9, nameIndex := 52, descriptorIndex := 53, attributes := #[] }] 49 2 #[] #[])
  fields := #[]
  methods := #[k1m0, k1m1]
  instanceTypes := #[]
  staticTypes := #[]
  resolved := Array.replicate 59 none
  statics := none }

def pool2 : Array CpInfo := pool [(1, .class_ 2), (0, u "java/lang/constant/Constable"), (0, .class_ 4), (0, u "java/lang/Object")] 6

/-- java/lang/constant/Constable -/
def k2 : Class := { plain "java/lang/constant/Constable" (some 0) with
  accessFlags := 1537
  interfaces := #[]
  cf := some (fileOf pool2 1 #[] #[] 1537 3 #[] #[])
  fields := #[]
  methods := #[]
  instanceTypes := #[]
  staticTypes := #[]
  resolved := Array.replicate 11 none
  statics := none }

def pool3 : Array CpInfo := pool [(1, .class_ 2), (0, u "java/lang/Comparable"), (0, .class_ 4), (0, u "java/lang/Object")] 7

/-- java/lang/Comparable -/
def k3 : Class := { plain "java/lang/Comparable" (some 0) with
  accessFlags := 1537
  interfaces := #[]
  cf := some (fileOf pool3 1 #[] #[] 1537 3 #[] #[])
  fields := #[]
  methods := #[]
  instanceTypes := #[]
  staticTypes := #[]
  resolved := Array.replicate 12 none
  statics := none }

def pool4 : Array CpInfo := pool [(1, .class_ 2), (0, u "java/io/Serializable"), (0, .class_ 4), (0, u "java/lang/Object")] 2

/-- java/io/Serializable -/
def k4 : Class := { plain "java/io/Serializable" (some 0) with
  accessFlags := 1537
  interfaces := #[]
  cf := some (fileOf pool4 1 #[] #[] 1537 3 #[] #[])
  fields := #[]
  methods := #[]
  instanceTypes := #[]
  staticTypes := #[]
  resolved := Array.replicate 7 none
  statics := none }

def pool5 : Array CpInfo := pool [(2, .class_ 4), (1, u "java/lang/Enum"), (0, u "name"), (0, u "Ljava/lang/String;"), (0, .fieldref 2 8), (0, .nameAndType 9 10), (0, u "ordinal"), (0, u "I"), (1, .class_ 14), (1, u "java/lang/Object"), (4, u "hash"), (86, .class_ 108), (1, u "java/lang/Enum$EnumDesc"), (2, .class_ 112), (0, u "java/lang/constant/Constable"), (0, .class_ 114), (0, u "java/lang/Comparable"), (0, .class_ 116), (0, u "java/io/Serializable"), (9, u "()I")] 77

def k5c0 : Code := { maxStack := 1, maxLocals := 1, code := jdk_37_method_2_code, exceptionTable := #[], attributes := #[] }
def k5m0 : Method := { name := "ordinal", desc := "()I", sig := { parameters := [], returnType := some .int }, accessFlags := 17, code := some k5c0 }
/-- java/lang/Enum -/
def k5 : Class := { plain "java/lang/Enum" (some 0) with
  accessFlags := 1057
  interfaces := #[2, 3, 4]
  cf := some (fileOf pool5 2 #[.nestMembers #[106]] #[{ accessFlags := 17, nameIndex := 9, descriptorIndex := 126, attributes := #[] }] 1057 12 #[111, 113, 115] #[{ accessFlags := 18, nameIndex := 5, descriptorIndex := 6, attributes := #[] }, { accessFlags := 18, nameIndex := 9, descriptorIndex := 10, attributes := #[] }, { accessFlags := 2, nameIndex := 19, descriptorIndex := 10, attributes := #[] }])
  fields := #[{ name := "name", type := (.object "java/lang/String"), accessFlags := 18, slot := 0, constantValue := 0 }, { name := "ordinal", type := .int, accessFlags := 18, slot := 1, constantValue := 0 }, { name := "hash", type := .int, accessFlags := 2, slot := 2, constantValue := 0 }]
  methods := #[k5m0]
  instanceTypes := #[(.object "java/lang/String"), .int, .int]
  staticTypes := #[]
  resolved := Array.replicate 204 none
  statics := none }

def pool6 : Array CpInfo := pool [(1, .class_ 2), (0, u "com/example/slotwire/slotwire/RequestEvent"), (2, u "BOOKING"), (0, u "Lcom/example/slotwire/slotwire/RequestEvent;"), (2, u "RESCHEDULING"), (2, u "MODIFICATION"), (2, u "CANCELLATION"), (2, u "DISCONTINUATION"), (2, u "DELETION"), (2, u "$VALUES"), (0, u "[Lcom/example/slotwire/slotwire/RequestEvent;"), (6, .class_ 34), (1, u "java/lang/Enum"), (8, u "triggerEvent"), (0, u "Ljava/lang/String;"), (0, .fieldref 1 46), (0, .nameAndType 47 44), (0, u "fillerStatus"), (2, u "notificationEvent"), (0, .methodref 1 52), (0, .nameAndType 53 54), (0, u "ordinal"), (0, u "()I"), (75, u "()Ljava/lang/String;"), (1, u "()Z"), (1, u "releasesTime"), (1, u "deletes")] 8

def k6c0 : Code := { maxStack := 1, maxLocals := 1, code := prog_80_method_4_code, exceptionTable := #[], attributes := #[] }
def k6m0 : Method := { name := "fillerStatus", desc := "()Ljava/lang/String;", sig := { parameters := [], returnType := some (.object "java/lang/String") }, accessFlags := 0, code := some k6c0 }
def k6c1 : Code := { maxStack := 4, maxLocals := 1, code := prog_80_method_7_code, exceptionTable := #[], attributes := #[] }
def k6m1 : Method := { name := "releasesTime", desc := "()Z", sig := { parameters := [], returnType := some .boolean }, accessFlags := 0, code := some k6c1 }
def k6c2 : Code := { maxStack := 4, maxLocals := 1, code := prog_80_method_9_code, exceptionTable := #[], attributes := #[] }
def k6m2 : Method := { name := "deletes", desc := "()Z", sig := { parameters := [], returnType := some .boolean }, accessFlags := 0, code := some k6c2 }
/-- com/example/slotwire/slotwire/RequestEvent -/
def k6 : Class := { plain "com/example/slotwire/slotwire/RequestEvent" (some 5) with
  accessFlags := 16432
  interfaces := #[]
  cf := some (fileOf pool6 1 #[] #[{ accessFlags := 0, nameIndex := 47, descriptorIndex := 130, attributes := #[] }, { accessFlags := 0, nameIndex := 134, descriptorIndex := 132, attributes := #[] }, { accessFlags := 0, nameIndex := 136, descriptorIndex := 132, attributes := #[] }] 16432 32 #[] #[{ accessFlags := 16409, nameIndex := 5, descriptorIndex := 6, attributes := #[] }, { accessFlags := 16409, nameIndex := 9, descriptorIndex := 6, attributes := #[] }, { accessFlags := 16409, nameIndex := 12, descriptorIndex := 6, attributes := #[] }, { accessFlags := 16409, nameIndex := 15, descriptorIndex := 6, attributes := #[] }, { accessFlags := 16409, nameIndex := 18, descriptorIndex := 6, attributes := #[] }, { accessFlags := 16409, nameIndex := 21, descriptorIndex := 6, attributes := #[] }, { accessFlags := 18, nameIndex := 43, descriptorIndex := 44, attributes := #[] }, { accessFlags := 18, nameIndex := 47, descriptorIndex := 44, attributes := #[] }, { accessFlags := 18, nameIndex := 50, descriptorIndex := 44, attributes := #[] }, { accessFlags := 4122, nameIndex := 24, descriptorIndex := 25, attributes := #[] }])
  fields := #[{ name := "BOOKING", type := (.object "com/example/slotwire/slotwire/RequestEvent"), accessFlags := 16409, slot := 0, constantValue := 0 }, { name := "RESCHEDULING", type := (.object "com/example/slotwire/slotwire/RequestEvent"), accessFlags := 16409, slot := 1, constantValue := 0 }, { name := "MODIFICATION", type := (.object "com/example/slotwire/slotwire/RequestEvent"), accessFlags := 16409, slot := 2, constantValue := 0 }, { name := "CANCELLATION", type := (.object "com/example/slotwire/slotwire/RequestEvent"), accessFlags := 16409, slot := 3, constantValue := 0 }, { name := "DISCONTINUATION", type := (.object "com/example/slotwire/slotwire/RequestEvent"), accessFlags := 16409, slot := 4, constantValue := 0 }, { name := "DELETION", type := (.object "com/example/slotwire/slotwire/RequestEvent"), accessFlags := 16409, slot := 5, constantValue := 0 }, { name := "triggerEvent", type := (.object "java/lang/String"), accessFlags := 18, slot := 3, constantValue := 0 }, { name := "fillerStatus", type := (.object "java/lang/String"), accessFlags := 18, slot := 4, constantValue := 0 }, { name := "notificationEvent", type := (.object "java/lang/String"), accessFlags := 18, slot := 5, constantValue := 0 }, { name := "$VALUES", type := (.array (.object "com/example/slotwire/slotwire/RequestEvent")), accessFlags := 4122, slot := 6, constantValue := 0 }]
  methods := #[k6m0, k6m1, k6m2]
  instanceTypes := #[(.object "java/lang/String"), .int, .int, (.object "java/lang/String"), (.object "java/lang/String"), (.object "java/lang/String")]
  staticTypes := #[(.object "com/example/slotwire/slotwire/RequestEvent"), (.object "com/example/slotwire/slotwire/RequestEvent"), (.object "com/example/slotwire/slotwire/RequestEvent"), (.object "com/example/slotwire/slotwire/RequestEvent"), (.object "com/example/slotwire/slotwire/RequestEvent"), (.object "com/example/slotwire/slotwire/RequestEvent"), (.array (.object "com/example/slotwire/slotwire/RequestEvent"))]
  resolved := Array.replicate 145 none
  statics := some 0 }

def pool7 : Array CpInfo := pool [(2, .class_ 4), (1, u "java/lang/CharSequence"), (42, .class_ 48), (0, u "java/lang/CharSequence$1CodePointIterator"), (10, .class_ 60), (0, u "java/lang/CharSequence$1CharIterator"), (5, .class_ 67), (0, u "java/lang/Object")] 63

/-- java/lang/CharSequence -/
def k7 : Class := { plain "java/lang/CharSequence" (some 0) with
  accessFlags := 1537
  interfaces := #[]
  cf := some (fileOf pool7 2 #[.nestMembers #[47, 59]] #[] 1537 66 #[] #[])
  fields := #[]
  methods := #[]
  instanceTypes := #[]
  staticTypes := #[]
  resolved := Array.replicate 131 none
  statics := none }

def pool8 : Array CpInfo := pool [(1, .class_ 2), (0, u "java/lang/constant/ConstantDesc"), (0, .class_ 4), (0, u "java/lang/Object")] 32

/-- java/lang/constant/ConstantDesc -/
def k8 : Class := { plain "java/lang/constant/ConstantDesc" (some 0) with
  accessFlags := 1537
  interfaces := #[]
  cf := some (fileOf pool8 1 #[] #[] 1537 3 #[] #[])
  fields := #[]
  methods := #[]
  instanceTypes := #[]
  staticTypes := #[]
  resolved := Array.replicate 37 none
  statics := none }

def pool9 : Array CpInfo := pool [(2, .class_ 4), (1, u "java/lang/Object"), (0, u "<init>"), (0, u "()V"), (2, .fieldref 10 11), (0, .class_ 12), (0, .nameAndType 13 14), (0, u "java/lang/String"), (0, u "value"), (0, u "[B"), (0, .fieldref 10 16), (0, .nameAndType 17 18), (0, u "coder"), (0, u "B"), (2, u "hash"), (0, u "I"), (2, u "hashIsZero"), (0, u "Z"), (11, .fieldref 10 39), (0, .nameAndType 40 26), (0, u "COMPACT_STRINGS"), (66, .class_ 109), (1, u "java/lang/StringLatin1"), (431, .methodref 107 542), (0, .nameAndType 543 544), (0, u "equals"), (0, u "([B[B)Z"), (28, u "(Ljava/lang/Object;)Z"), (1, .class_ 576), (0, u "java/lang/CharSequence"), (22, u "CASE_INSENSITIVE_ORDER"), (0, u "Ljava/util/Comparator;"), (500, u "serialPersistentFields"), (0, u "[Ljava/io/ObjectStreamField;"), (0, .class_ 1104), (0, u "java/lang/String$CaseInsensitiveComparator"), (1, .class_ 1107), (0, u "java/io/Serializable"), (0, .class_ 1109), (0, u "java/lang/Comparable"), (0, .class_ 1111), (0, u "java/lang/constant/Constable"), (0, .class_ 1113), (0, u "java/lang/constant/ConstantDesc"), (2, u "serialVersionUID"), (0, u "J"), (3, u "REPL"), (0, u "C"), (2, u "LATIN1"), (1, u "UTF16")] 323

def k9m0 : Method := { name := "<init>", desc := "()V", sig := { parameters := [], returnType := none }, accessFlags := 1, code := none }
def k9c1 : Code := { maxStack := 2, maxLocals := 3, code := jdk_42_method_66_code, exceptionTable := #[], attributes := #[] }
def k9m1 : Method := { name := "equals", desc := "(Ljava/lang/Object;)Z", sig := { parameters := [(.object "java/lang/Object")], returnType := some .boolean }, accessFlags := 1, code := some k9c1 }
/-- java/lang/String -/
def k9 : Class := { plain "java/lang/String" (some 0) with
  accessFlags := 49
  interfaces := #[4, 3, 7, 2, 8]
  cf := some (fileOf pool9 10 #[.nestMembers #[1103]] #[{ accessFlags := 1, nameIndex := 5, descriptorIndex := 6, attributes := #[] }, { accessFlags := 1, nameIndex := 543, descriptorIndex := 573, attributes := #[] }] 49 2 #[1106, 1108, 575, 1110, 1112] #[{ accessFlags := 18, nameIndex := 13, descriptorIndex := 14, attributes := #[] }, { accessFlags := 18, nameIndex := 17, descriptorIndex := 18, attributes := #[] }, { accessFlags := 2, nameIndex := 21, descriptorIndex := 22, attributes := #[] }, { accessFlags := 2, nameIndex := 25, descriptorIndex := 26, attributes := #[] }, { accessFlags := 26, nameIndex := 1116, descriptorIndex := 1117, attributes := #[] }, { accessFlags := 24, nameIndex := 40, descriptorIndex := 26, attributes := #[] }, { accessFlags := 26, nameIndex := 1101, descriptorIndex := 1102, attributes := #[] }, { accessFlags := 26, nameIndex := 1121, descriptorIndex := 1122, attributes := #[] }, { accessFlags := 25, nameIndex := 599, descriptorIndex := 600, attributes := #[] }, { accessFlags := 24, nameIndex := 1125, descriptorIndex := 18, attributes := #[] }, { accessFlags := 24, nameIndex := 1127, descriptorIndex := 18, attributes := #[] }])
  fields := #[{ name := "value", type := (.array .byte), accessFlags := 18, slot := 0, constantValue := 0 }, { name := "coder", type := .byte, accessFlags := 18, slot := 1, constantValue := 0 }, { name := "hash", type := .int, accessFlags := 2, slot := 2, constantValue := 0 }, { name := "hashIsZero", type := .boolean, accessFlags := 2, slot := 3, constantValue := 0 }, { name := "serialVersionUID", type := .long, accessFlags := 26, slot := 0, constantValue := 0 }, { name := "COMPACT_STRINGS", type := .boolean, accessFlags := 24, slot := 1, constantValue := 0 }, { name := "serialPersistentFields", type := (.array (.object "java/io/ObjectStreamField")), accessFlags := 26, slot := 2, constantValue := 0 }, { name := "REPL", type := .char, accessFlags := 26, slot := 3, constantValue := 0 }, { name := "CASE_INSENSITIVE_ORDER", type := (.object "java/util/Comparator"), accessFlags := 25, slot := 4, constantValue := 0 }, { name := "LATIN1", type := .byte, accessFlags := 24, slot := 5, constantValue := 0 }, { name := "UTF16", type := .byte, accessFlags := 24, slot := 6, constantValue := 0 }]
  methods := #[k9m0, k9m1]
  instanceTypes := #[(.array .byte), .byte, .int, .boolean]
  staticTypes := #[.long, .boolean, (.array (.object "java/io/ObjectStreamField")), .char, (.object "java/util/Comparator"), .byte, .byte]
  resolved := Array.replicate 1451 none
  statics := some 1 }

def pool10 : Array CpInfo := pool [(4, .class_ 6), (1, u "java/lang/Object"), (0, u "<init>"), (0, u "()V"), (5, .class_ 16), (1, u "java/lang/StringLatin1"), (104, u "$assertionsDisabled"), (0, u "Z"), (98, .class_ 223), (1, u "java/lang/StringLatin1$LinesSpliterator"), (57, u "equals"), (0, u "([B[B)Z"), (107, .class_ 391), (0, u "java/lang/StringLatin1$CharsSpliterator")] 3

def k10m0 : Method := { name := "<init>", desc := "()V", sig := { parameters := [], returnType := none }, accessFlags := 0, code := none }
def k10c1 : Code := { maxStack := 3, maxLocals := 3, code := jdk_43_method_13_code, exceptionTable := #[], attributes := #[] }
def k10m1 : Method := { name := "equals", desc := "([B[B)Z", sig := { parameters := [(.array .byte), (.array .byte)], returnType := some .boolean }, accessFlags := 9, code := some k10c1 }
/-- java/lang/StringLatin1 -/
def k10 : Class := { plain "java/lang/StringLatin1" (some 0) with
  accessFlags := 48
  interfaces := #[]
  cf := some (fileOf pool10 14 #[.nestMembers #[390, 221]] #[{ accessFlags := 0, nameIndex := 7, descriptorIndex := 8, attributes := #[] }, { accessFlags := 9, nameIndex := 281, descriptorIndex := 282, attributes := #[] }] 48 4 #[] #[{ accessFlags := 4120, nameIndex := 121, descriptorIndex := 122, attributes := #[] }])
  fields := #[{ name := "$assertionsDisabled", type := .boolean, accessFlags := 4120, slot := 0, constantValue := 0 }]
  methods := #[k10m0, k10m1]
  instanceTypes := #[]
  staticTypes := #[.boolean]
  resolved := Array.replicate 395 none
  statics := none }

def pool11 : Array CpInfo := pool [(2, .class_ 4), (1, u "java/lang/Object"), (0, u "<init>"), (0, u "()V"), (17, .class_ 26), (1, u "jdk/internal/util/Preconditions"), (28, .class_ 56), (0, u "jdk/internal/util/Preconditions$4"), (57, .class_ 115), (0, u "jdk/internal/util/Preconditions$1"), (7, u "SIOOBE_FORMATTER"), (0, u "Ljava/util/function/BiFunction;"), (0, .class_ 126), (0, u "jdk/internal/util/Preconditions$2"), (3, u "AIOOBE_FORMATTER"), (0, .class_ 132), (0, u "jdk/internal/util/Preconditions$3"), (3, u "IOOBE_FORMATTER")] 57

def k11m0 : Method := { name := "<init>", desc := "()V", sig := { parameters := [], returnType := none }, accessFlags := 1, code := none }
/-- jdk/internal/util/Preconditions -/
def k11 : Class := { plain "jdk/internal/util/Preconditions" (some 0) with
  accessFlags := 33
  interfaces := #[]
  cf := some (fileOf pool11 24 #[.nestMembers #[55, 131, 125, 114]] #[{ accessFlags := 1, nameIndex := 5, descriptorIndex := 6, attributes := #[] }] 33 2 #[] #[{ accessFlags := 25, nameIndex := 123, descriptorIndex := 124, attributes := #[] }, { accessFlags := 25, nameIndex := 130, descriptorIndex := 124, attributes := #[] }, { accessFlags := 25, nameIndex := 136, descriptorIndex := 124, attributes := #[] }])
  fields := #[{ name := "SIOOBE_FORMATTER", type := (.object "java/util/function/BiFunction"), accessFlags := 25, slot := 0, constantValue := 0 }, { name := "AIOOBE_FORMATTER", type := (.object "java/util/function/BiFunction"), accessFlags := 25, slot := 1, constantValue := 0 }, { name := "IOOBE_FORMATTER", type := (.object "java/util/function/BiFunction"), accessFlags := 25, slot := 2, constantValue := 0 }]
  methods := #[k11m0]
  instanceTypes := #[]
  staticTypes := #[(.object "java/util/function/BiFunction"), (.object "java/util/function/BiFunction"), (.object "java/util/function/BiFunction")]
  resolved := Array.replicate 194 none
  statics := some 2 }

def pool12 : Array CpInfo := pool [(9, u "<init>"), (6, .class_ 18), (1, u "java/lang/Object"), (0, u "()V"), (1, .class_ 23), (1, u "jdk/internal/util/ArraysSupport"), (0, u "LOG2_ARRAY_LONG_INDEX_SCALE"), (0, u "I"), (2, u "U"), (0, u "Ljdk/internal/misc/Unsafe;"), (8, u "BIG_ENDIAN"), (0, u "Z"), (8, u "LOG2_BYTE_BIT_SIZE"), (4, u "LOG2_ARRAY_INT_INDEX_SCALE"), (54, u "JLA"), (0, u "Ljdk/internal/access/JavaLangAccess;"), (11, u "LOG2_ARRAY_BOOLEAN_INDEX_SCALE"), (9, u "LOG2_ARRAY_BYTE_INDEX_SCALE"), (5, u "LOG2_ARRAY_CHAR_INDEX_SCALE"), (5, u "LOG2_ARRAY_SHORT_INDEX_SCALE"), (18, u "LOG2_ARRAY_FLOAT_INDEX_SCALE"), (24, u "LOG2_ARRAY_DOUBLE_INDEX_SCALE"), (89, u "T_BOOLEAN"), (2, u "T_CHAR"), (1, u "T_FLOAT"), (1, u "T_DOUBLE"), (1, u "T_BYTE"), (1, u "T_SHORT"), (1, u "T_INT"), (1, u "T_LONG"), (1, u "SOFT_MAX_ARRAY_LENGTH")] 83

def k12m0 : Method := { name := "<init>", desc := "()V", sig := { parameters := [], returnType := none }, accessFlags := 2, code := none }
/-- jdk/internal/util/ArraysSupport -/
def k12 : Class := { plain "jdk/internal/util/ArraysSupport" (some 0) with
  accessFlags := 33
  interfaces := #[]
  cf := some (fileOf pool12 21 #[] #[{ accessFlags := 2, nameIndex := 9, descriptorIndex := 19, attributes := #[] }] 33 16 #[] #[{ accessFlags := 24, nameIndex := 28, descriptorIndex := 29, attributes := #[] }, { accessFlags := 26, nameIndex := 38, descriptorIndex := 39, attributes := #[] }, { accessFlags := 25, nameIndex := 121, descriptorIndex := 25, attributes := #[] }, { accessFlags := 25, nameIndex := 131, descriptorIndex := 25, attributes := #[] }, { accessFlags := 25, nameIndex := 137, descriptorIndex := 25, attributes := #[] }, { accessFlags := 25, nameIndex := 143, descriptorIndex := 25, attributes := #[] }, { accessFlags := 25, nameIndex := 53, descriptorIndex := 25, attributes := #[] }, { accessFlags := 25, nameIndex := 24, descriptorIndex := 25, attributes := #[] }, { accessFlags := 25, nameIndex := 162, descriptorIndex := 25, attributes := #[] }, { accessFlags := 25, nameIndex := 187, descriptorIndex := 25, attributes := #[] }, { accessFlags := 26, nameIndex := 48, descriptorIndex := 25, attributes := #[] }, { accessFlags := 25, nameIndex := 277, descriptorIndex := 25, attributes := #[] }, { accessFlags := 25, nameIndex := 280, descriptorIndex := 25, attributes := #[] }, { accessFlags := 25, nameIndex := 282, descriptorIndex := 25, attributes := #[] }, { accessFlags := 25, nameIndex := 284, descriptorIndex := 25, attributes := #[] }, { accessFlags := 25, nameIndex := 286, descriptorIndex := 25, attributes := #[] }, { accessFlags := 25, nameIndex := 288, descriptorIndex := 25, attributes := #[] }, { accessFlags := 25, nameIndex := 290, descriptorIndex := 25, attributes := #[] }, { accessFlags := 25, nameIndex := 292, descriptorIndex := 25, attributes := #[] }, { accessFlags := 26, nameIndex := 108, descriptorIndex := 109, attributes := #[] }, { accessFlags := 25, nameIndex := 294, descriptorIndex := 25, attributes := #[] }])
  fields := #[{ name := "U", type := (.object "jdk/internal/misc/Unsafe"), accessFlags := 24, slot := 0, constantValue := 0 }, { name := "BIG_ENDIAN", type := .boolean, accessFlags := 26, slot := 1, constantValue := 0 }, { name := "LOG2_ARRAY_BOOLEAN_INDEX_SCALE", type := .int, accessFlags := 25, slot := 2, constantValue := 0 }, { name := "LOG2_ARRAY_BYTE_INDEX_SCALE", type := .int, accessFlags := 25, slot := 3, constantValue := 0 }, { name := "LOG2_ARRAY_CHAR_INDEX_SCALE", type := .int, accessFlags := 25, slot := 4, constantValue := 0 }, { name := "LOG2_ARRAY_SHORT_INDEX_SCALE", type := .int, accessFlags := 25, slot := 5, constantValue := 0 }, { name := "LOG2_ARRAY_INT_INDEX_SCALE", type := .int, accessFlags := 25, slot := 6, constantValue := 0 }, { name := "LOG2_ARRAY_LONG_INDEX_SCALE", type := .int, accessFlags := 25, slot := 7, constantValue := 0 }, { name := "LOG2_ARRAY_FLOAT_INDEX_SCALE", type := .int, accessFlags := 25, slot := 8, constantValue := 0 }, { name := "LOG2_ARRAY_DOUBLE_INDEX_SCALE", type := .int, accessFlags := 25, slot := 9, constantValue := 0 }, { name := "LOG2_BYTE_BIT_SIZE", type := .int, accessFlags := 26, slot := 10, constantValue := 0 }, { name := "T_BOOLEAN", type := .int, accessFlags := 25, slot := 11, constantValue := 0 }, { name := "T_CHAR", type := .int, accessFlags := 25, slot := 12, constantValue := 0 }, { name := "T_FLOAT", type := .int, accessFlags := 25, slot := 13, constantValue := 0 }, { name := "T_DOUBLE", type := .int, accessFlags := 25, slot := 14, constantValue := 0 }, { name := "T_BYTE", type := .int, accessFlags := 25, slot := 15, constantValue := 0 }, { name := "T_SHORT", type := .int, accessFlags := 25, slot := 16, constantValue := 0 }, { name := "T_INT", type := .int, accessFlags := 25, slot := 17, constantValue := 0 }, { name := "T_LONG", type := .int, accessFlags := 25, slot := 18, constantValue := 0 }, { name := "JLA", type := (.object "jdk/internal/access/JavaLangAccess"), accessFlags := 26, slot := 19, constantValue := 0 }, { name := "SOFT_MAX_ARRAY_LENGTH", type := .int, accessFlags := 25, slot := 20, constantValue := 0 }]
  methods := #[k12m0]
  instanceTypes := #[]
  staticTypes := #[(.object "jdk/internal/misc/Unsafe"), .boolean, .int, .int, .int, .int, .int, .int, .int, .int, .int, .int, .int, .int, .int, .int, .int, .int, .int, (.object "jdk/internal/access/JavaLangAccess"), .int]
  resolved := Array.replicate 378 none
  statics := none }

def pool13 : Array CpInfo := pool [(1, u "java/lang/Cloneable"), (0, .class_ 1), (0, u "java/lang/Object"), (0, .class_ 3)] 3

/-- java/lang/Cloneable -/
def k13 : Class := { plain "java/lang/Cloneable" (some 0) with
  accessFlags := 1537
  interfaces := #[]
  cf := some (fileOf pool13 2 #[] #[] 1537 4 #[] #[])
  fields := #[]
  methods := #[]
  instanceTypes := #[]
  staticTypes := #[]
  resolved := Array.replicate 8 none
  statics := none }

/-- the primitive byte -/
def k14 : Class := { plain "byte" none with kind := .primitive 'B', accessFlags := 0x411 }
/-- [B -/
def k15 : Class := { plain "[B" (some 0) with kind := .array 14 .byte, interfaces := #[13, 4], accessFlags := 1041 }

/-- the primitive int -/
def k16 : Class := { plain "int" none with kind := .primitive 'I', accessFlags := 0x411 }
/-- [I -/
def k17 : Class := { plain "[I" (some 0) with kind := .array 16 .int, interfaces := #[13, 4], accessFlags := 1041 }

/-- [Lcom/example/slotwire/slotwire/RequestEvent; -/
def k18 : Class := { plain "[Lcom/example/slotwire/slotwire/RequestEvent;" (some 0) with kind := .array 6 (.object "com/example/slotwire/slotwire/RequestEvent"), interfaces := #[13, 4], accessFlags := 1041 }

def heap : Heap := #[{ cls := 6, slots := #[.ref 11, .ref 12, .ref 13, .ref 14, .ref 15, .ref 16, .null], vm := .statics 6 },
  { cls := 9, slots := #[.long 0, .int 1, .null, .int 0, .null, .int 0, .int 0], vm := .statics 9 },
  { cls := 11, slots := #[.null, .null, .null], vm := .statics 11 },
  { cls := 15, slots := #[.int 66, .int 111, .int 111, .int 107, .int 101, .int 100], vm := .none },
  { cls := 15, slots := #[.int 67, .int 97, .int 110, .int 99, .int 101, .int 108, .int 108, .int 101, .int 100], vm := .none },
  { cls := 15, slots := #[.int 68, .int 99], vm := .none },
  { cls := 15, slots := #[.int 68, .int 101, .int 108, .int 101, .int 116, .int 101, .int 100], vm := .none },
  { cls := 9, slots := #[.ref 3, .int 0, .int 0, .int 0], vm := .none },
  { cls := 9, slots := #[.ref 4, .int 0, .int 0, .int 0], vm := .none },
  { cls := 9, slots := #[.ref 5, .int 0, .int 0, .int 0], vm := .none },
  { cls := 9, slots := #[.ref 6, .int 0, .int 0, .int 0], vm := .none },
  { cls := 6, slots := #[.null, .int 0, .int 0, .null, .ref 7, .null], vm := .none },
  { cls := 6, slots := #[.null, .int 1, .int 0, .null, .ref 7, .null], vm := .none },
  { cls := 6, slots := #[.null, .int 2, .int 0, .null, .ref 7, .null], vm := .none },
  { cls := 6, slots := #[.null, .int 3, .int 0, .null, .ref 8, .null], vm := .none },
  { cls := 6, slots := #[.null, .int 4, .int 0, .null, .ref 9, .null], vm := .none },
  { cls := 6, slots := #[.null, .int 5, .int 0, .null, .ref 10, .null], vm := .none }]
def classes : Array Class := #[k0, k1, k2, k3, k4, k5, k6, k7, k8, k9, k10, k11, k12, k13, k14, k15, k16, k17, k18]
def interned : List (Array UInt16 × Addr) := []
def slotsUsed : Nat := 93
def theMethod : MethodId := ⟨1, 1⟩
def args0 : Array Value := #[.int 5]
def aboutOver (below : List Frame) : State where
  vm := { classes := classes, interned := interned.toArray }
  heap := heap
  slotsUsed := slotsUsed
  threads := #[{ frames := .invoking theMethod args0 :: below }]
def below0 : List Frame := [.native { method := ⟨0, 0⟩, args := #[] }]
def about1 : State := aboutOver below0
def p0 : Program := .bare "" "" ""
def e0 : Env := launch0.env 0 0 0
theorem w_frames : about1.frames = Frame.invoking theMethod args0 :: below0 := rfl
set_option maxRecDepth 65536 in
theorem w_args : argsFit about1.vm theMethod args0 = true := by decide +kernel
set_option maxRecDepth 65536 in
theorem w_heap : heapFits about1 = true := by decide +kernel
set_option maxRecDepth 65536 in
theorem w_runnable : about1.curStatus? = some .runnable := by decide +kernel
set_option maxRecDepth 65536 in
theorem w_alone : about1.alone = true := by decide +kernel
set_option maxRecDepth 65536 in
theorem w_named : about1.methodNamed? x = some theMethod := by decide +kernel
set_option maxRecDepth 65536 in
theorem w_hears : about1.hears theMethod below0 = true := by decide +kernel
set_option maxRecDepth 65536 in
theorem w_ripe : about1.ripe theMethod args0 below0 = true := by decide +kernel
theorem w_running : about1.status = .running := rfl
set_option maxRecDepth 65536 in
theorem w_room : about1.hasRoom e0.platform room_1 = true :=
  launch0.hasRoom_least _ room_1 (by decide +kernel) (by decide +kernel) (by decide +kernel) (by decide +kernel) (by decide +kernel) (by decide +kernel)
theorem allAtoms_all (ts : List Jvm.Cond) (a : Array Jvm.Value) (st : Jvm.State) : (allAtoms ts).before a st = ts.all (fun c => c.before a st) := by
  induction ts with
  | nil => rfl
  | cons c t ih =>
    show (Jvm.Cond.and c (allAtoms t)).before a st = _
    rw [Jvm.Cond.before_and, ih, List.all_cons]
def words1 : List Jvm.Cond := Jvm.Cond.code x code maxLocals ret :: tables_1
/-- a 'code' word, met by the world's own term for the bytes: nothing is compared byte by byte -/
theorem code_word {y : MethodName} {bytes : ByteArray} {mx : Nat} {rt : Option FieldType} {a : Array Value} {s : State} {m : MethodId} {meth : Method} {c : Code} (h1 : s.methodNamed? y = some m) (h2 : s.vm.method? m = some meth) (h3 : meth.code = some c) (h4 : c.code = bytes)
    (h5 : (c.maxLocals == mx && c.exceptionTable.isEmpty && decide (c.maxStack ≤ mostOperands) && decide (meth.sig.returnType = rt) && !meth.locks && decide (parseMethodDescriptor y.desc = some meth.sig)) = true) : (Jvm.Cond.code y bytes mx rt).before a s = true := by
  simp only [Bool.and_eq_true, beq_iff_eq, Bool.not_eq_true', decide_eq_true_eq] at h5
  obtain ⟨⟨⟨⟨⟨g1, g2⟩, g3⟩, g4⟩, g5⟩, g6⟩ := h5
  simp [Cond.before, Cond.holds, Cond.value, h1, h2, h3, h4, g1, g2, g3, g4, g5, g6]
def isCode : Jvm.Cond → Bool
  | .code _ _ _ _ => true
  | _ => false
theorem all_split {L : List Jvm.Cond} {P : Jvm.Cond → Bool} (h1 : L.all (fun c => isCode c || P c) = true) (h2 : ∀ c ∈ L.filter isCode, P c = true) : L.all P = true := by
  refine List.all_eq_true.mpr fun c hc => ?_
  have h := List.all_eq_true.mp h1 c hc
  rcases Bool.eq_false_or_eq_true (isCode c) with hi | hi
  · exact h2 c (List.mem_filter.mpr ⟨hc, hi⟩)
  · simpa [hi] using h
set_option maxRecDepth 65536 in
theorem w_c0 : (Jvm.Cond.code x code maxLocals ret).before args0 about1 = true := code_word (m := ⟨1, 1⟩) (meth := k1m1) (c := k1c1) (by decide +kernel) rfl rfl rfl (by decide +kernel)
set_option maxRecDepth 65536 in
theorem w_c1 : (Jvm.Cond.code ({ cls := "com/example/slotwire/slotwire/RequestEvent", name := "deletes", desc := "()Z" } : Jvm.MethodName) prog_80_method_9_code (1 : Nat) (Option.some Jvm.ClassFile.FieldType.boolean)).before args0 about1 = true := code_word (m := ⟨6, 2⟩) (meth := k6m2) (c := k6c2) (by decide +kernel) rfl rfl rfl (by decide +kernel)
set_option maxRecDepth 65536 in
theorem w_c2 : (Jvm.Cond.code ({ cls := "java/lang/Enum", name := "ordinal", desc := "()I" } : Jvm.MethodName) jdk_37_method_2_code (1 : Nat) (Option.some Jvm.ClassFile.FieldType.int)).before args0 about1 = true := code_word (m := ⟨5, 0⟩) (meth := k5m0) (c := k5c0) (by decide +kernel) rfl rfl rfl (by decide +kernel)
set_option maxRecDepth 65536 in
theorem w_c3 : (Jvm.Cond.code ({ cls := "com/example/slotwire/slotwire/RequestEvent", name := "fillerStatus", desc := "()Ljava/lang/String;" } : Jvm.MethodName) prog_80_method_4_code (1 : Nat) (Option.some (Jvm.ClassFile.FieldType.object "java/lang/String"))).before args0 about1 = true := code_word (m := ⟨6, 0⟩) (meth := k6m0) (c := k6c0) (by decide +kernel) rfl rfl rfl (by decide +kernel)
set_option maxRecDepth 65536 in
theorem w_c4 : (Jvm.Cond.code ({ cls := "java/lang/String", name := "equals", desc := "(Ljava/lang/Object;)Z" } : Jvm.MethodName) jdk_42_method_66_code (3 : Nat) (Option.some Jvm.ClassFile.FieldType.boolean)).before args0 about1 = true := code_word (m := ⟨9, 1⟩) (meth := k9m1) (c := k9c1) (by decide +kernel) rfl rfl rfl (by decide +kernel)
set_option maxRecDepth 65536 in
theorem w_c5 : (Jvm.Cond.code ({ cls := "java/lang/StringLatin1", name := "equals", desc := "([B[B)Z" } : Jvm.MethodName) jdk_43_method_13_code (3 : Nat) (Option.some Jvm.ClassFile.FieldType.boolean)).before args0 about1 = true := code_word (m := ⟨10, 1⟩) (meth := k10m1) (c := k10c1) (by decide +kernel) rfl rfl rfl (by decide +kernel)
set_option maxRecDepth 65536 in
theorem w_c6 : (Jvm.Cond.code ({ cls := "com/example/slotwire/slotwire/RequestEvent", name := "releasesTime", desc := "()Z" } : Jvm.MethodName) prog_80_method_7_code (1 : Nat) (Option.some Jvm.ClassFile.FieldType.boolean)).before args0 about1 = true := code_word (m := ⟨6, 1⟩) (meth := k6m1) (c := k6c1) (by decide +kernel) rfl rfl rfl (by decide +kernel)
def codes1 : List Jvm.Cond := [Jvm.Cond.code x code maxLocals ret, Jvm.Cond.code ({ cls := "com/example/slotwire/slotwire/RequestEvent", name := "deletes", desc := "()Z" } : Jvm.MethodName) prog_80_method_9_code (1 : Nat) (Option.some Jvm.ClassFile.FieldType.boolean), Jvm.Cond.code ({ cls := "java/lang/Enum", name := "ordinal", desc := "()I" } : Jvm.MethodName) jdk_37_method_2_code (1 : Nat) (Option.some Jvm.ClassFile.FieldType.int), Jvm.Cond.code ({ cls := "com/example/slotwire/slotwire/RequestEvent", name := "fillerStatus", desc := "()Ljava/lang/String;" } : Jvm.MethodName) prog_80_method_4_code (1 : Nat) (Option.some (Jvm.ClassFile.FieldType.object "java/lang/String")), Jvm.Cond.code ({ cls := "java/lang/String", name := "equals", desc := "(Ljava/lang/Object;)Z" } : Jvm.MethodName) jdk_42_method_66_code (3 : Nat) (Option.some Jvm.ClassFile.FieldType.boolean), Jvm.Cond.code ({ cls := "java/lang/StringLatin1", name := "equals", desc := "([B[B)Z" } : Jvm.MethodName) jdk_43_method_13_code (3 : Nat) (Option.some Jvm.ClassFile.FieldType.boolean), Jvm.Cond.code ({ cls := "com/example/slotwire/slotwire/RequestEvent", name := "releasesTime", desc := "()Z" } : Jvm.MethodName) prog_80_method_7_code (1 : Nat) (Option.some Jvm.ClassFile.FieldType.boolean)]
set_option maxRecDepth 65536 in
theorem codes_eq : words1.filter isCode = codes1 := rfl
theorem w_codes : ∀ c ∈ words1.filter isCode, c.before args0 about1 = true := by
  rw [codes_eq]
  intro c hc
  simp only [codes1, List.mem_cons, List.not_mem_nil, or_false] at hc
  rcases hc with rfl | rfl | rfl | rfl | rfl | rfl | rfl
  · exact w_c0
  · exact w_c1
  · exact w_c2
  · exact w_c3
  · exact w_c4
  · exact w_c5
  · exact w_c6
set_option maxRecDepth 65536 in
theorem w_t1 : (words1.take 24).all (fun c => isCode c || c.before args0 about1) = true := by decide +kernel
set_option maxRecDepth 65536 in
theorem w_t2 : ((words1.drop 24).take 24).all (fun c => isCode c || c.before args0 about1) = true := by decide +kernel
set_option maxRecDepth 65536 in
theorem w_t3 : ((words1.drop 24).drop 24).all (fun c => isCode c || c.before args0 about1) = true := by decide +kernel
theorem w_tables : (allAtoms (Jvm.Cond.code x code maxLocals ret :: tables_1)).before args0 about1 = true := by
  rw [allAtoms_all]
  show words1.all (fun c => c.before args0 about1) = true
  refine all_split ?_ w_codes
  rw [← List.take_append_drop 24 words1, List.all_append, w_t1, ← List.take_append_drop 24 (words1.drop 24), List.all_append, w_t2, w_t3]
  rfl
set_option maxRecDepth 65536 in
theorem w_rest : rest_1_c.before args0 about1 = true := by decide +kernel
set_option maxRecDepth 65536 in
theorem w_case : (Jvm.Cond.and given_1 narrow_1).before args0 about1 = true := by decide +kernel
set_option maxRecDepth 65536 in
theorem w_consts : constsHeld consts_1 about1 := Jvm.Lit.constsHeldB_iff.mp (by decide +kernel)
theorem w_applies : (headSpec (Jvm.Cond.code x code maxLocals ret :: tables_1) room_1).applies x e0.platform about1 = true :=
  (Spec.applies_iff w_frames).mpr ⟨w_running, w_runnable, w_alone, w_named, w_hears, w_ripe, w_room, w_tables⟩
theorem atStart : AtStart classFile x code maxLocals ret World_1 tables_1 room_1 Calls_1 rest_1 Pre_1 launch0 p0 e0 about1 theMethod args0 below0 :=
  ⟨lists_1, trivial, launch0.admits_env _ _ _, launch0.least_env, fairChoices_fair.cas, fairChoices_fair.clock, w_frames, w_args, w_heap, w_applies, ⟨w_consts, trivial⟩, w_rest, w_case⟩
end start1
theorem witness_1 : WitnessClaimed_1 := ⟨start1.p0, start1.e0, start1.about1, start1.theMethod, start1.args0, start1.below0, start1.atStart⟩
end Jvm.Pilot.@@N@@
