import JvmDerived
import JvmDerived.Pilot.@@N@@Statement
import JvmDerived.Pilot.@@N@@Code
set_option linter.unusedVariables false
set_option linter.unusedSimpArgs false
namespace Jvm.RoadKit
open Sem ClassFile Op Lib Jvm.Stand Jvm.Free Jvm.LawKit
section New
variable {p : Program} {l : Launch} {e : Env} {R : Room} {s : State} {m : MethodId} {args : Array Value} {below : List Frame} {meth : Method} {c : Code} {T : State} {locs : List Loc} {cells slots : Nat}
theorem retI (X : Stand p l e R s m args below meth c T locs cells slots) (hx : p.tables.exec = Jvm.exec) {pc : Nat} {Ls : Array Slot} {z : Int32} {rest : List Value} (hret : meth.sig.returnType = some .int) (hd : decode c.code pc = .ok (.ireturn, 1)) {fs : List Frame}
    (hl : ∀ (f : JFrame) (acts : List Action), f.method = m → f.locked = none → f.entered = [] → (doReturn e (T.setTop f) acts (some (.int z))).1 = T.setFrames fs) : Steps p.tables e below (T.setTop (mkF m pc Ls (.int z :: rest))) (T.setFrames fs) := by
  have hm' : T.vm.method? m = some meth := X.method'
  have hn : narrow .int (.int z) = .int z := rfl
  show Steps p.tables e below (T.setTop { method := m, pc := pc, locals := Ls, stack := _ :: rest, locked := none }) _
  jvm_step X.here [X.here.top, hx, hd, hm', hret, hn]
  first | (intro acts; rw [hl _ acts rfl rfl rfl]) | rw [hl _ _ rfl rfl rfl]
  exact Steps.refl _
/-- whatever is reached from the one state is reached from the other -/
def Go (p : Program) (e : Env) (below : List Frame) (A B : State) : Prop := ∀ t, Steps p.tables e below B t → Steps p.tables e below A t
end New
end Jvm.RoadKit
namespace Jvm.Pilot.@@N@@
open Jvm Jvm.ClassFile Sem Op Lib Jvm.Free Jvm.Stand Jvm.LawKit Jvm.RoadKit Bundle Jvm.Pilot.@@N@@.Jvm.D
theorem own_eqI {t : Term} {k : Int32} {args : Array Value} {s : State} (h : (Jvm.Cond.eq t (.int k)).value args s none s [] = some true) : t.eval args s none [] s = some (.int k) := by
  cases ht : t.eval args s none [] s with
  | none => simp [Cond.value, ht] at h
  | some x => cases x <;> simp [Cond.value, Term.eval, ht] at h ⊢ <;> exact h
def own_ends (a z1 z2 z3 z4 : Addr) : Int32 := if Value.ref a = Value.ref z1 then 1 else if Value.ref a = Value.ref z2 then 1 else if Value.ref a = Value.ref z3 then 1 else if Value.ref a = Value.ref z4 then 1 else 0
theorem own_ends01 (a z1 z2 z3 z4 : Addr) : nar .boolean (own_ends a z1 z2 z3 z4) = own_ends a z1 z2 z3 z4 := by
  unfold own_ends; repeat' split
  all_goals rfl
theorem dprog_40_method_5_code_0 : decode prog_40_method_5_code 0 = .ok (.aload_n 0, 1) := by decide +kernel
theorem dprog_40_method_5_code_1 : decode prog_40_method_5_code 1 = .ok (.getstatic 10, 3) := by decide +kernel
theorem dprog_40_method_5_code_4 : decode prog_40_method_5_code 4 = .ok (.if_acmp .eq 24, 3) := by decide +kernel
theorem dprog_40_method_5_code_28 : decode prog_40_method_5_code 28 = .ok (.iconst 1, 1) := by decide +kernel
theorem dprog_40_method_5_code_29 : decode prog_40_method_5_code 29 = .ok (.goto 4, 3) := by decide +kernel
theorem dprog_40_method_5_code_7 : decode prog_40_method_5_code 7 = .ok (.aload_n 0, 1) := by decide +kernel
theorem dprog_40_method_5_code_8 : decode prog_40_method_5_code 8 = .ok (.getstatic 13, 3) := by decide +kernel
theorem dprog_40_method_5_code_11 : decode prog_40_method_5_code 11 = .ok (.if_acmp .eq 17, 3) := by decide +kernel
theorem dprog_40_method_5_code_14 : decode prog_40_method_5_code 14 = .ok (.aload_n 0, 1) := by decide +kernel
theorem dprog_40_method_5_code_15 : decode prog_40_method_5_code 15 = .ok (.getstatic 19, 3) := by decide +kernel
theorem dprog_40_method_5_code_18 : decode prog_40_method_5_code 18 = .ok (.if_acmp .eq 10, 3) := by decide +kernel
theorem dprog_40_method_5_code_21 : decode prog_40_method_5_code 21 = .ok (.aload_n 0, 1) := by decide +kernel
theorem dprog_40_method_5_code_22 : decode prog_40_method_5_code 22 = .ok (.getstatic 28, 3) := by decide +kernel
theorem dprog_40_method_5_code_25 : decode prog_40_method_5_code 25 = .ok (.if_acmp .ne 7, 3) := by decide +kernel
theorem dprog_40_method_5_code_32 : decode prog_40_method_5_code 32 = .ok (.iconst 0, 1) := by decide +kernel
theorem dprog_40_method_5_code_33 : decode prog_40_method_5_code 33 = .ok (.ireturn, 1) := by decide +kernel
theorem ef_rmE (m : MethodId) (x0 : Addr) : entryFrame m #[(.ref x0)] 1 = mkF m 0 #[.val (.ref x0)] [] := by first | (simp [entryFrame, mkF, argsToLocals, Value.category]; done) | rfl
def QE (Z : State) (a1 : Addr) (z1 : Addr) (z2 : Addr) (z3 : Addr) (z4 : Addr) (h0 : Heap) (n0 : Nat) (v : Option Value) (h : Heap) (L : List Loc) : Prop := v = some (.int (own_ends a1 z1 z2 z3 z4)) ∧ L = [] ∧ h = h0
theorem pn_0 : plainName "com/example/darn6/darn6/JsonNumber$Grammar" = true := by first | (simp [plainName, overriddenIn]; done) | decide +kernel
set_option maxRecDepth 65536 in
set_option maxHeartbeats 40000000 in
theorem rmE (l : Launch) (Z : State) (a0 : Array Value) (hw : ∀ d ∈ tables_1, d.before a0 Z = true) (ws : List Jvm.Cond) (a1 : Addr) (z1 : Addr) (z2 : Addr) (z3 : Addr) (z4 : Addr) (h0 : Heap) (n0 : Nat) (Z0 : n0 ≤ h0.size) (S1 : Sta Z h0 "com/example/darn6/darn6/JsonNumber$Grammar" "ZERO" "Lcom/example/darn6/darn6/JsonNumber$Grammar;" (.ref z1)) (S2 : Sta Z h0 "com/example/darn6/darn6/JsonNumber$Grammar" "INTEGER" "Lcom/example/darn6/darn6/JsonNumber$Grammar;" (.ref z2)) (S3 : Sta Z h0 "com/example/darn6/darn6/JsonNumber$Grammar" "FRACTION" "Lcom/example/darn6/darn6/JsonNumber$Grammar;" (.ref z3)) (S4 : Sta Z h0 "com/example/darn6/darn6/JsonNumber$Grammar" "EXPONENT" "Lcom/example/darn6/darn6/JsonNumber$Grammar;" (.ref z4)) :
    MetFree l (⟨"com/example/darn6/darn6/JsonNumber$Grammar", "endsNumber", "()Z"⟩ : MethodName) (head1 (Jvm.Cond.code (⟨"com/example/darn6/darn6/JsonNumber$Grammar", "endsNumber", "()Z"⟩ : MethodName) prog_40_method_5_code 1 (some .boolean) :: ws) ({ frames := 0, cells := 0, slots := 0, locals := 0 } : Room)) (fun a U => a = #[(.ref a1)] ∧ Z.Warmed39 U.vm ∧ U.heap = h0) (fun _ _ _ _ _ => True) (fun _ U o U' => ∃ v L, o = .returned v ∧ QE Z a1 z1 z2 z3 z4 h0 n0 v U'.heap L ∧ FrameEnd U o U' L ({ frames := 0, cells := 0, slots := 0, locals := 0 } : Room).cells ({ frames := 0, cells := 0, slots := 0, locals := 0 } : Room).slots) := by
  refine MetFree.of_bodySF (plainFor_of_name pn_0) hisR ?_
  intro p e s m args below meth c s₁ Bd hml0 hP hK
  obtain ⟨rfl, hZ, hh⟩ := hP
  have hx := Bd.exec
  have hby := Bd.bytes
  have hml : c.maxLocals = 1 := hml0
  have hown : s.vm.findClass "com/example/darn6/darn6/JsonNumber$Grammar" = some m.cls := findClass_of_methodNamed Bd.named
  have hnm := (name_of_methodNamed Bd.named Bd.method).1
  have X0 : Stand p l e ({ frames := 0, cells := 0, slots := 0, locals := 0 } : Room) s m #[(.ref a1)] below meth c s₁ [] 0 0 := Stand.of_body Bd
  have e0 : s₁.heap = h0 := by rw [← hh, Bd.state]; rfl
  have N0 := Fr.nil n0
  have k0 : Go p e below (s₁.setTop (entryFrame m #[(.ref a1)] 1)) (s₁.setTop (mkF m 0 #[.val (.ref a1)] [])) := fun t k => castTop (ef_rmE m a1) k
  obtain ⟨T1, X1, e1, v1, hj1, k1⟩ : ∃ T' : State, Stand p l e ({ frames := 0, cells := 0, slots := 0, locals := 0 } : Room) s m #[(.ref a1)] below meth c T' [] 0 0 ∧ T'.heap = h0 ∧ ∃ v1 : Int32, (v1 = own_ends a1 z1 z2 z3 z4) ∧ Go p e below (s₁.setTop (entryFrame m #[(.ref a1)] 1)) (T'.setTop (mkF m 33 #[.val (.ref a1)] [(.int v1)])) := by
    have k2 : Go p e below (s₁.setTop (entryFrame m #[(.ref a1)] 1)) (s₁.setTop (mkF m 1 #[.val (.ref a1)] [(.ref a1)])) := fun t kk => k0 t (by
      show Steps p.tables e below (s₁.setTop (mkF m 0 #[.val (.ref a1)] [])) _
      refine XS.aloadN X0.here hx rfl (hb hby dprog_40_method_5_code_0) rfl rfl ?_
      exact kk)
    obtain ⟨T3, X3, e3, st3⟩ := getS2 X0 hx hZ hown (host := "") (Or.inl (hw _ (List.mem_of_getElem? (i := 9) rfl))) Via.refl e0 S1 (g := (mkF m 1 #[.val (.ref a1)] [(.ref a1)])) rfl (hb hby dprog_40_method_5_code_1)
    have k3 : Go p e below (s₁.setTop (entryFrame m #[(.ref a1)] 1)) (T3.setTop (mkF m 4 #[.val (.ref a1)] [(.ref z1), (.ref a1)])) := fun t kk => k2 t (st3 t kk)
    by_cases hc4_4 : (Value.ref a1) = (Value.ref z1)
    · have k5 : Go p e below (s₁.setTop (entryFrame m #[(.ref a1)] 1)) (T3.setTop (mkF m 33 #[.val (.ref a1)] [(.int (1 : Int32))])) := fun t kk => k3 t (by
        show Steps p.tables e below (T3.setTop (mkF m 4 #[.val (.ref a1)] [(.ref z1), (.ref a1)])) _
        refine Jvm.RoadKit.acmp (g := (mkF m 4 #[.val (.ref a1)] [(.ref z1), (.ref a1)])) X3 hx rfl rfl rfl (pc0 := 4) (pc' := 28) (same := true) rfl (hb hby dprog_40_method_5_code_4) rfl (decide_eq_true hc4_4) (by decide) (by decide) ?_
        show Steps p.tables e below (T3.setTop (mkF m 28 #[.val (.ref a1)] [])) _
        refine XS.iconst X3.here hx rfl (hb hby dprog_40_method_5_code_28) ?_
        show Steps p.tables e below (T3.setTop (mkF m 29 #[.val (.ref a1)] [(.int (1 : Int32))])) _
        refine XS.goto X3.here hx rfl (pc0 := 29) (pc' := 33) rfl (hb hby dprog_40_method_5_code_29) (by decide) (by decide) ?_
        exact kk)
      exact ⟨T3, X3, e3, (1 : Int32), by unfold own_ends; rw [if_pos hc4_4], k5⟩
    · have k6 : Go p e below (s₁.setTop (entryFrame m #[(.ref a1)] 1)) (T3.setTop (mkF m 8 #[.val (.ref a1)] [(.ref a1)])) := fun t kk => k3 t (by
        show Steps p.tables e below (T3.setTop (mkF m 4 #[.val (.ref a1)] [(.ref z1), (.ref a1)])) _
        refine Jvm.RoadKit.acmp (g := (mkF m 4 #[.val (.ref a1)] [(.ref z1), (.ref a1)])) X3 hx rfl rfl rfl (pc0 := 4) (pc' := 7) (same := false) rfl (hb hby dprog_40_method_5_code_4) rfl (decide_eq_false hc4_4) (by decide) (by decide) ?_
        show Steps p.tables e below (T3.setTop (mkF m 7 #[.val (.ref a1)] [])) _
        refine XS.aloadN X3.here hx rfl (hb hby dprog_40_method_5_code_7) rfl rfl ?_
        exact kk)
      obtain ⟨T7, X7, e7, st7⟩ := getS2 X3 hx hZ hown (host := "") (Or.inl (hw _ (List.mem_of_getElem? (i := 11) rfl))) Via.refl e3 S2 (g := (mkF m 8 #[.val (.ref a1)] [(.ref a1)])) rfl (hb hby dprog_40_method_5_code_8)
      have k7 : Go p e below (s₁.setTop (entryFrame m #[(.ref a1)] 1)) (T7.setTop (mkF m 11 #[.val (.ref a1)] [(.ref z2), (.ref a1)])) := fun t kk => k6 t (st7 t kk)
      by_cases hc11_8 : (Value.ref a1) = (Value.ref z2)
      · have k9 : Go p e below (s₁.setTop (entryFrame m #[(.ref a1)] 1)) (T7.setTop (mkF m 33 #[.val (.ref a1)] [(.int (1 : Int32))])) := fun t kk => k7 t (by
          show Steps p.tables e below (T7.setTop (mkF m 11 #[.val (.ref a1)] [(.ref z2), (.ref a1)])) _
          refine Jvm.RoadKit.acmp (g := (mkF m 11 #[.val (.ref a1)] [(.ref z2), (.ref a1)])) X7 hx rfl rfl rfl (pc0 := 11) (pc' := 28) (same := true) rfl (hb hby dprog_40_method_5_code_11) rfl (decide_eq_true hc11_8) (by decide) (by decide) ?_
          show Steps p.tables e below (T7.setTop (mkF m 28 #[.val (.ref a1)] [])) _
          refine XS.iconst X7.here hx rfl (hb hby dprog_40_method_5_code_28) ?_
          show Steps p.tables e below (T7.setTop (mkF m 29 #[.val (.ref a1)] [(.int (1 : Int32))])) _
          refine XS.goto X7.here hx rfl (pc0 := 29) (pc' := 33) rfl (hb hby dprog_40_method_5_code_29) (by decide) (by decide) ?_
          exact kk)
        exact ⟨T7, X7, e7, (1 : Int32), by unfold own_ends; rw [if_neg hc4_4]; rw [if_pos hc11_8], k9⟩
      · have k10 : Go p e below (s₁.setTop (entryFrame m #[(.ref a1)] 1)) (T7.setTop (mkF m 15 #[.val (.ref a1)] [(.ref a1)])) := fun t kk => k7 t (by
          show Steps p.tables e below (T7.setTop (mkF m 11 #[.val (.ref a1)] [(.ref z2), (.ref a1)])) _
          refine Jvm.RoadKit.acmp (g := (mkF m 11 #[.val (.ref a1)] [(.ref z2), (.ref a1)])) X7 hx rfl rfl rfl (pc0 := 11) (pc' := 14) (same := false) rfl (hb hby dprog_40_method_5_code_11) rfl (decide_eq_false hc11_8) (by decide) (by decide) ?_
          show Steps p.tables e below (T7.setTop (mkF m 14 #[.val (.ref a1)] [])) _
          refine XS.aloadN X7.here hx rfl (hb hby dprog_40_method_5_code_14) rfl rfl ?_
          exact kk)
        obtain ⟨T11, X11, e11, st11⟩ := getS2 X7 hx hZ hown (host := "") (Or.inl (hw _ (List.mem_of_getElem? (i := 13) rfl))) Via.refl e7 S3 (g := (mkF m 15 #[.val (.ref a1)] [(.ref a1)])) rfl (hb hby dprog_40_method_5_code_15)
        have k11 : Go p e below (s₁.setTop (entryFrame m #[(.ref a1)] 1)) (T11.setTop (mkF m 18 #[.val (.ref a1)] [(.ref z3), (.ref a1)])) := fun t kk => k10 t (st11 t kk)
        by_cases hc18_12 : (Value.ref a1) = (Value.ref z3)
        · have k13 : Go p e below (s₁.setTop (entryFrame m #[(.ref a1)] 1)) (T11.setTop (mkF m 33 #[.val (.ref a1)] [(.int (1 : Int32))])) := fun t kk => k11 t (by
            show Steps p.tables e below (T11.setTop (mkF m 18 #[.val (.ref a1)] [(.ref z3), (.ref a1)])) _
            refine Jvm.RoadKit.acmp (g := (mkF m 18 #[.val (.ref a1)] [(.ref z3), (.ref a1)])) X11 hx rfl rfl rfl (pc0 := 18) (pc' := 28) (same := true) rfl (hb hby dprog_40_method_5_code_18) rfl (decide_eq_true hc18_12) (by decide) (by decide) ?_
            show Steps p.tables e below (T11.setTop (mkF m 28 #[.val (.ref a1)] [])) _
            refine XS.iconst X11.here hx rfl (hb hby dprog_40_method_5_code_28) ?_
            show Steps p.tables e below (T11.setTop (mkF m 29 #[.val (.ref a1)] [(.int (1 : Int32))])) _
            refine XS.goto X11.here hx rfl (pc0 := 29) (pc' := 33) rfl (hb hby dprog_40_method_5_code_29) (by decide) (by decide) ?_
            exact kk)
          exact ⟨T11, X11, e11, (1 : Int32), by unfold own_ends; rw [if_neg hc4_4]; rw [if_neg hc11_8]; rw [if_pos hc18_12], k13⟩
        · have k14 : Go p e below (s₁.setTop (entryFrame m #[(.ref a1)] 1)) (T11.setTop (mkF m 22 #[.val (.ref a1)] [(.ref a1)])) := fun t kk => k11 t (by
            show Steps p.tables e below (T11.setTop (mkF m 18 #[.val (.ref a1)] [(.ref z3), (.ref a1)])) _
            refine Jvm.RoadKit.acmp (g := (mkF m 18 #[.val (.ref a1)] [(.ref z3), (.ref a1)])) X11 hx rfl rfl rfl (pc0 := 18) (pc' := 21) (same := false) rfl (hb hby dprog_40_method_5_code_18) rfl (decide_eq_false hc18_12) (by decide) (by decide) ?_
            show Steps p.tables e below (T11.setTop (mkF m 21 #[.val (.ref a1)] [])) _
            refine XS.aloadN X11.here hx rfl (hb hby dprog_40_method_5_code_21) rfl rfl ?_
            exact kk)
          obtain ⟨T15, X15, e15, st15⟩ := getS2 X11 hx hZ hown (host := "") (Or.inl (hw _ (List.mem_of_getElem? (i := 15) rfl))) Via.refl e11 S4 (g := (mkF m 22 #[.val (.ref a1)] [(.ref a1)])) rfl (hb hby dprog_40_method_5_code_22)
          have k15 : Go p e below (s₁.setTop (entryFrame m #[(.ref a1)] 1)) (T15.setTop (mkF m 25 #[.val (.ref a1)] [(.ref z4), (.ref a1)])) := fun t kk => k14 t (st15 t kk)
          by_cases hc25_16 : (Value.ref a1) = (Value.ref z4)
          · have k17 : Go p e below (s₁.setTop (entryFrame m #[(.ref a1)] 1)) (T15.setTop (mkF m 33 #[.val (.ref a1)] [(.int (1 : Int32))])) := fun t kk => k15 t (by
              show Steps p.tables e below (T15.setTop (mkF m 25 #[.val (.ref a1)] [(.ref z4), (.ref a1)])) _
              refine Jvm.RoadKit.acmp (g := (mkF m 25 #[.val (.ref a1)] [(.ref z4), (.ref a1)])) X15 hx rfl rfl rfl (pc0 := 25) (pc' := 28) (same := true) rfl (hb hby dprog_40_method_5_code_25) rfl (decide_eq_true hc25_16) (by decide) (by decide) ?_
              show Steps p.tables e below (T15.setTop (mkF m 28 #[.val (.ref a1)] [])) _
              refine XS.iconst X15.here hx rfl (hb hby dprog_40_method_5_code_28) ?_
              show Steps p.tables e below (T15.setTop (mkF m 29 #[.val (.ref a1)] [(.int (1 : Int32))])) _
              refine XS.goto X15.here hx rfl (pc0 := 29) (pc' := 33) rfl (hb hby dprog_40_method_5_code_29) (by decide) (by decide) ?_
              exact kk)
            exact ⟨T15, X15, e15, (1 : Int32), by unfold own_ends; rw [if_neg hc4_4]; rw [if_neg hc11_8]; rw [if_neg hc18_12]; rw [if_pos hc25_16], k17⟩
          · have k18 : Go p e below (s₁.setTop (entryFrame m #[(.ref a1)] 1)) (T15.setTop (mkF m 33 #[.val (.ref a1)] [(.int (0 : Int32))])) := fun t kk => k15 t (by
              show Steps p.tables e below (T15.setTop (mkF m 25 #[.val (.ref a1)] [(.ref z4), (.ref a1)])) _
              refine Jvm.RoadKit.acmp (g := (mkF m 25 #[.val (.ref a1)] [(.ref z4), (.ref a1)])) X15 hx rfl rfl rfl (pc0 := 25) (pc' := 32) (same := false) rfl (hb hby dprog_40_method_5_code_25) rfl (decide_eq_false hc25_16) (by decide) (by decide) ?_
              show Steps p.tables e below (T15.setTop (mkF m 32 #[.val (.ref a1)] [])) _
              refine XS.iconst X15.here hx rfl (hb hby dprog_40_method_5_code_32) ?_
              exact kk)
            exact ⟨T15, X15, e15, (0 : Int32), by unfold own_ends; rw [if_neg hc4_4]; rw [if_neg hc11_8]; rw [if_neg hc18_12]; rw [if_neg hc25_16], k18⟩
  subst hj1
  obtain ⟨fs, hr, hrun, hended, hW, hsame⟩ := X1.leave (v := some (.int (nar .boolean (own_ends a1 z1 z2 z3 z4)))) (fun h => by rw [Bd.returns] at h; cases h)
  refine ⟨_, _, k1 _ ?_, hrun, hended, _, _, rfl, ?_, ⟨_, rfl⟩, hW, hsame.mono (by decide) (by decide)⟩
  · show Steps p.tables e below (T1.setTop (mkF m 33 #[.val (.ref a1)] [(.int (own_ends a1 z1 z2 z3 z4))])) _
    exact retN X1 hx (t := .boolean) Bd.returns (by simp) (hb hby dprog_40_method_5_code_33) hr
  · show QE Z a1 z1 z2 z3 z4 h0 n0 _ T1.heap _
    rw [e1]
    exact ⟨by rw [own_ends01], rfl, rfl⟩
theorem own_ne {a b : Addr} (h : a ≠ b) : ¬ (Value.ref a = Value.ref b) := fun q => h (Value.ref.inj q)
theorem pd_0 : parseMethodDescriptor "()Z" = some ⟨[], some .boolean⟩ := by decide +kernel
theorem ef_rm0 (m : MethodId) (x0 : Int32) : entryFrame m #[(.int x0)] maxLocals = mkF m 0 #[.val (.int x0), .unset, .unset, .unset] [] := by first | (simp [entryFrame, mkF, argsToLocals, Value.category, maxLocals]; done) | rfl
def Q0 (Z : State) (p1 : Int32) (a_START : Addr) (a_MINUS : Addr) (a_ZERO : Addr) (a_INTEGER : Addr) (a_POINT : Addr) (a_FRACTION : Addr) (a_MARK : Addr) (a_SIGN : Addr) (a_EXPONENT : Addr) (h0 : Heap) (n0 : Nat) (v : Option Value) (h : Heap) (L : List Loc) : Prop := v = some (.int 1) ∧ Fr n0 L
theorem pn_1 : plainName "com/example/darn6/darn6/GrammarEndsNumberPinLaw" = true := by first | (simp [plainName, overriddenIn]; done) | decide +kernel
set_option maxRecDepth 65536 in
set_option maxHeartbeats 40000000 in
theorem rm0 (l : Launch) (Z : State) (a0 : Array Value) (hw : ∀ d ∈ tables_1, d.before a0 Z = true) (ws : List Jvm.Cond) (p1 : Int32) (a_START : Addr) (a_MINUS : Addr) (a_ZERO : Addr) (a_INTEGER : Addr) (a_POINT : Addr) (a_FRACTION : Addr) (a_MARK : Addr) (a_SIGN : Addr) (a_EXPONENT : Addr) (h0 : Heap) (n0 : Nat) (Z0 : n0 ≤ h0.size) (S_START : Sta Z h0 "com/example/darn6/darn6/JsonNumber$Grammar" "START" "Lcom/example/darn6/darn6/JsonNumber$Grammar;" (.ref a_START)) (S_MINUS : Sta Z h0 "com/example/darn6/darn6/JsonNumber$Grammar" "MINUS" "Lcom/example/darn6/darn6/JsonNumber$Grammar;" (.ref a_MINUS)) (S_ZERO : Sta Z h0 "com/example/darn6/darn6/JsonNumber$Grammar" "ZERO" "Lcom/example/darn6/darn6/JsonNumber$Grammar;" (.ref a_ZERO)) (S_INTEGER : Sta Z h0 "com/example/darn6/darn6/JsonNumber$Grammar" "INTEGER" "Lcom/example/darn6/darn6/JsonNumber$Grammar;" (.ref a_INTEGER)) (S_POINT : Sta Z h0 "com/example/darn6/darn6/JsonNumber$Grammar" "POINT" "Lcom/example/darn6/darn6/JsonNumber$Grammar;" (.ref a_POINT)) (S_FRACTION : Sta Z h0 "com/example/darn6/darn6/JsonNumber$Grammar" "FRACTION" "Lcom/example/darn6/darn6/JsonNumber$Grammar;" (.ref a_FRACTION)) (S_MARK : Sta Z h0 "com/example/darn6/darn6/JsonNumber$Grammar" "MARK" "Lcom/example/darn6/darn6/JsonNumber$Grammar;" (.ref a_MARK)) (S_SIGN : Sta Z h0 "com/example/darn6/darn6/JsonNumber$Grammar" "SIGN" "Lcom/example/darn6/darn6/JsonNumber$Grammar;" (.ref a_SIGN)) (S_EXPONENT : Sta Z h0 "com/example/darn6/darn6/JsonNumber$Grammar" "EXPONENT" "Lcom/example/darn6/darn6/JsonNumber$Grammar;" (.ref a_EXPONENT)) (E_START : Exa Z h0 a_START "com/example/darn6/darn6/JsonNumber$Grammar") (E_MINUS : Exa Z h0 a_MINUS "com/example/darn6/darn6/JsonNumber$Grammar") (E_ZERO : Exa Z h0 a_ZERO "com/example/darn6/darn6/JsonNumber$Grammar") (E_INTEGER : Exa Z h0 a_INTEGER "com/example/darn6/darn6/JsonNumber$Grammar") (E_POINT : Exa Z h0 a_POINT "com/example/darn6/darn6/JsonNumber$Grammar") (E_FRACTION : Exa Z h0 a_FRACTION "com/example/darn6/darn6/JsonNumber$Grammar") (E_MARK : Exa Z h0 a_MARK "com/example/darn6/darn6/JsonNumber$Grammar") (E_SIGN : Exa Z h0 a_SIGN "com/example/darn6/darn6/JsonNumber$Grammar") (E_EXPONENT : Exa Z h0 a_EXPONENT "com/example/darn6/darn6/JsonNumber$Grammar") (o_START : Fld Z h0 a_START "java/lang/Enum" "ordinal" "I" (.int (0 : Int32))) (o_MINUS : Fld Z h0 a_MINUS "java/lang/Enum" "ordinal" "I" (.int (1 : Int32))) (o_ZERO : Fld Z h0 a_ZERO "java/lang/Enum" "ordinal" "I" (.int (2 : Int32))) (o_INTEGER : Fld Z h0 a_INTEGER "java/lang/Enum" "ordinal" "I" (.int (3 : Int32))) (o_POINT : Fld Z h0 a_POINT "java/lang/Enum" "ordinal" "I" (.int (4 : Int32))) (o_FRACTION : Fld Z h0 a_FRACTION "java/lang/Enum" "ordinal" "I" (.int (5 : Int32))) (o_MARK : Fld Z h0 a_MARK "java/lang/Enum" "ordinal" "I" (.int (6 : Int32))) (o_SIGN : Fld Z h0 a_SIGN "java/lang/Enum" "ordinal" "I" (.int (7 : Int32))) (o_EXPONENT : Fld Z h0 a_EXPONENT "java/lang/Enum" "ordinal" "I" (.int (8 : Int32))) :
    MetFree l x (head1 (Jvm.Cond.code x code maxLocals ret :: ws) room_1) (fun a U => a = #[(.int p1)] ∧ Z.Warmed39 U.vm ∧ U.heap = h0) (fun _ _ _ _ _ => True) (fun _ U o U' => ∃ v L, o = .returned v ∧ Q0 Z p1 a_START a_MINUS a_ZERO a_INTEGER a_POINT a_FRACTION a_MARK a_SIGN a_EXPONENT h0 n0 v U'.heap L ∧ FrameEnd U o U' L room_1.cells room_1.slots) := by
  refine MetFree.of_bodySF (plainFor_of_name pn_1) hisR ?_
  intro p e s m args below meth c s₁ Bd hml0 hP hK
  obtain ⟨rfl, hZ, hh⟩ := hP
  have hx := Bd.exec
  have hby := Bd.bytes
  have hml : c.maxLocals = 4 := hml0
  have hown : s.vm.findClass "com/example/darn6/darn6/GrammarEndsNumberPinLaw" = some m.cls := findClass_of_methodNamed Bd.named
  have hnm := (name_of_methodNamed Bd.named Bd.method).1
  have X0 : Stand p l e room_1 s m #[(.int p1)] below meth c s₁ [] 0 0 := Stand.of_body Bd
  have e0 : s₁.heap = h0 := by rw [← hh, Bd.state]; rfl
  have N0 := Fr.nil n0
  have k0 : Go p e below (s₁.setTop (entryFrame m #[(.int p1)] maxLocals)) (s₁.setTop (mkF m 0 #[.val (.int p1), .unset, .unset, .unset] [])) := fun t k => castTop (ef_rm0 m p1) k
  obtain ⟨T1, X1, e1, va, vb, hj1, k1⟩ : ∃ T' : State, Stand p l e room_1 s m #[(.int p1)] below meth c T' [] 0 0 ∧ T'.heap = h0 ∧ ∃ va : Addr, ∃ vb : Int32, (own_ends va a_ZERO a_INTEGER a_FRACTION a_EXPONENT = vb ∧ Exa Z h0 va "com/example/darn6/darn6/JsonNumber$Grammar") ∧ Go p e below (s₁.setTop (entryFrame m #[(.int p1)] maxLocals)) (T'.setTop (mkF m 127 #[.val (.int p1), .val (.int ((p1 &&& (2147483647 : Int32)) % (9 : Int32))), .val (.ref va), .val (.int vb)] [])) := by
    have k3 : Go p e below (s₁.setTop (entryFrame m #[(.int p1)] maxLocals)) (s₁.setTop (mkF m 9 #[.val (.int p1), .val (.int ((p1 &&& (2147483647 : Int32)) % (9 : Int32))), .unset, .unset] [(.int ((p1 &&& (2147483647 : Int32)) % (9 : Int32)))])) := fun t kk => k0 t (by
      show Steps p.tables e below (s₁.setTop (mkF m 0 #[.val (.int p1), .unset, .unset, .unset] [])) _
      refine XS.iloadN X0.here hx rfl (hb hby at_0) rfl ?_
      show Steps p.tables e below (s₁.setTop (mkF m 1 #[.val (.int p1), .unset, .unset, .unset] [(.int p1)])) _
      refine X0.ldcInt hx hown (mvT hZ (hw _ (List.mem_of_getElem? (i := 0) rfl))) (g := (mkF m 1 #[.val (.int p1), .unset, .unset, .unset] [(.int p1)])) rfl (hb hby at_1) _ ?_
      show Steps p.tables e below (s₁.setTop (mkF m 3 #[.val (.int p1), .unset, .unset, .unset] [(.int (2147483647 : Int32)), (.int p1)])) _
      refine XS.iand X0.here hx rfl (hb hby at_3) rfl ?_
      show Steps p.tables e below (s₁.setTop (mkF m 4 #[.val (.int p1), .unset, .unset, .unset] [(.int (p1 &&& (2147483647 : Int32)))])) _
      refine XS.bipush X0.here hx rfl (hb hby at_4) ?_
      show Steps p.tables e below (s₁.setTop (mkF m 6 #[.val (.int p1), .unset, .unset, .unset] [(.int (9 : Int32)), (.int (p1 &&& (2147483647 : Int32)))])) _
      refine iremM X0 hx rfl (hb hby at_6) rfl (by decide) ?_
      show Steps p.tables e below (s₁.setTop (mkF m 7 #[.val (.int p1), .unset, .unset, .unset] [(.int ((p1 &&& (2147483647 : Int32)) % (9 : Int32)))])) _
      refine XS.istoreN X0.here hx rfl (hb hby at_7) rfl (l' := #[.val (.int p1), .val (.int ((p1 &&& (2147483647 : Int32)) % (9 : Int32))), .unset, .unset]) rfl ?_
      show Steps p.tables e below (s₁.setTop (mkF m 8 #[.val (.int p1), .val (.int ((p1 &&& (2147483647 : Int32)) % (9 : Int32))), .unset, .unset] [])) _
      refine XS.iloadN X0.here hx rfl (hb hby at_8) rfl ?_
      exact kk)
    by_cases hc9_2 : ((p1 &&& (2147483647 : Int32)) % (9 : Int32)) = (0 : Int32)
    · have k4 : Go p e below (s₁.setTop (entryFrame m #[(.int p1)] maxLocals)) (s₁.setTop (mkF m 12 #[.val (.int p1), .val (.int ((p1 &&& (2147483647 : Int32)) % (9 : Int32))), .unset, .unset] [])) := fun t kk => k3 t (by
        show Steps p.tables e below (s₁.setTop (mkF m 9 #[.val (.int p1), .val (.int ((p1 &&& (2147483647 : Int32)) % (9 : Int32))), .unset, .unset] [(.int ((p1 &&& (2147483647 : Int32)) % (9 : Int32)))])) _
        refine XS.ifNo X0.here hx rfl (hb hby at_9) rfl ((if0 _ _).trans (teq hc9_2).2) ?_
        exact kk)
      obtain ⟨T5, X5, e5, st5⟩ := getS2 X0 hx hZ hown (host := "") (Or.inl (hw _ (List.mem_of_getElem? (i := 1) rfl))) Via.refl e0 S_START (g := (mkF m 12 #[.val (.int p1), .val (.int ((p1 &&& (2147483647 : Int32)) % (9 : Int32))), .unset, .unset] [])) rfl (hb hby at_12)
      have k5 : Go p e below (s₁.setTop (entryFrame m #[(.int p1)] maxLocals)) (T5.setTop (mkF m 15 #[.val (.int p1), .val (.int ((p1 &&& (2147483647 : Int32)) % (9 : Int32))), .unset, .unset] [(.ref a_START)])) := fun t kk => k4 t (st5 t kk)
      have k6 : Go p e below (s₁.setTop (entryFrame m #[(.int p1)] maxLocals)) (T5.setTop (mkF m 127 #[.val (.int p1), .val (.int ((p1 &&& (2147483647 : Int32)) % (9 : Int32))), .val (.ref a_START), .val (.int (0 : Int32))] [])) := fun t kk => k5 t (by
        show Steps p.tables e below (T5.setTop (mkF m 15 #[.val (.int p1), .val (.int ((p1 &&& (2147483647 : Int32)) % (9 : Int32))), .unset, .unset] [(.ref a_START)])) _
        refine XS.astoreN X5.here hx rfl (hb hby at_15) rfl rfl (l' := #[.val (.int p1), .val (.int ((p1 &&& (2147483647 : Int32)) % (9 : Int32))), .val (.ref a_START), .unset]) rfl ?_
        show Steps p.tables e below (T5.setTop (mkF m 16 #[.val (.int p1), .val (.int ((p1 &&& (2147483647 : Int32)) % (9 : Int32))), .val (.ref a_START), .unset] [])) _
        refine XS.iconst X5.here hx rfl (hb hby at_16) ?_
        show Steps p.tables e below (T5.setTop (mkF m 17 #[.val (.int p1), .val (.int ((p1 &&& (2147483647 : Int32)) % (9 : Int32))), .val (.ref a_START), .unset] [(.int (0 : Int32))])) _
        refine XS.istoreN X5.here hx rfl (hb hby at_17) rfl (l' := #[.val (.int p1), .val (.int ((p1 &&& (2147483647 : Int32)) % (9 : Int32))), .val (.ref a_START), .val (.int (0 : Int32))]) rfl ?_
        show Steps p.tables e below (T5.setTop (mkF m 18 #[.val (.int p1), .val (.int ((p1 &&& (2147483647 : Int32)) % (9 : Int32))), .val (.ref a_START), .val (.int (0 : Int32))] [])) _
        refine XS.goto X5.here hx rfl (pc0 := 18) (pc' := 127) rfl (hb hby at_18) (by decide) (by decide) ?_
        exact kk)
      exact ⟨T5, X5, e5, a_START, (0 : Int32), ⟨by unfold own_ends; rw [if_neg (own_ne (o_START.ne o_ZERO (by decide)))]; rw [if_neg (own_ne (o_START.ne o_INTEGER (by decide)))]; rw [if_neg (own_ne (o_START.ne o_FRACTION (by decide)))]; rw [if_neg (own_ne (o_START.ne o_EXPONENT (by decide)))], E_START⟩, k6⟩
    · have k8 : Go p e below (s₁.setTop (entryFrame m #[(.int p1)] maxLocals)) (s₁.setTop (mkF m 23 #[.val (.int p1), .val (.int ((p1 &&& (2147483647 : Int32)) % (9 : Int32))), .unset, .unset] [(.int (1 : Int32)), (.int ((p1 &&& (2147483647 : Int32)) % (9 : Int32)))])) := fun t kk => k3 t (by
        show Steps p.tables e below (s₁.setTop (mkF m 9 #[.val (.int p1), .val (.int ((p1 &&& (2147483647 : Int32)) % (9 : Int32))), .unset, .unset] [(.int ((p1 &&& (2147483647 : Int32)) % (9 : Int32)))])) _
        refine XS.ifYes X0.here hx rfl (pc0 := 9) (pc' := 21) rfl (hb hby at_9) rfl ((if0 _ _).trans (feq hc9_2).2) (by decide) (by decide) ?_
        show Steps p.tables e below (s₁.setTop (mkF m 21 #[.val (.int p1), .val (.int ((p1 &&& (2147483647 : Int32)) % (9 : Int32))), .unset, .unset] [])) _
        refine XS.iloadN X0.here hx rfl (hb hby at_21) rfl ?_
        show Steps p.tables e below (s₁.setTop (mkF m 22 #[.val (.int p1), .val (.int ((p1 &&& (2147483647 : Int32)) % (9 : Int32))), .unset, .unset] [(.int ((p1 &&& (2147483647 : Int32)) % (9 : Int32)))])) _
        refine XS.iconst X0.here hx rfl (hb hby at_22) ?_
        exact kk)
      by_cases hc23_7 : ((p1 &&& (2147483647 : Int32)) % (9 : Int32)) = (1 : Int32)
      · have k9 : Go p e below (s₁.setTop (entryFrame m #[(.int p1)] maxLocals)) (s₁.setTop (mkF m 26 #[.val (.int p1), .val (.int ((p1 &&& (2147483647 : Int32)) % (9 : Int32))), .unset, .unset] [])) := fun t kk => k8 t (by
          show Steps p.tables e below (s₁.setTop (mkF m 23 #[.val (.int p1), .val (.int ((p1 &&& (2147483647 : Int32)) % (9 : Int32))), .unset, .unset] [(.int (1 : Int32)), (.int ((p1 &&& (2147483647 : Int32)) % (9 : Int32)))])) _
          refine XS.icmpNo X0.here hx rfl (hb hby at_23) rfl (teq hc23_7).2 ?_
          exact kk)
        obtain ⟨T10, X10, e10, st10⟩ := getS2 X0 hx hZ hown (host := "") (Or.inl (hw _ (List.mem_of_getElem? (i := 19) rfl))) Via.refl e0 S_MINUS (g := (mkF m 26 #[.val (.int p1), .val (.int ((p1 &&& (2147483647 : Int32)) % (9 : Int32))), .unset, .unset] [])) rfl (hb hby at_26)
        have k10 : Go p e below (s₁.setTop (entryFrame m #[(.int p1)] maxLocals)) (T10.setTop (mkF m 29 #[.val (.int p1), .val (.int ((p1 &&& (2147483647 : Int32)) % (9 : Int32))), .unset, .unset] [(.ref a_MINUS)])) := fun t kk => k9 t (st10 t kk)
        have k11 : Go p e below (s₁.setTop (entryFrame m #[(.int p1)] maxLocals)) (T10.setTop (mkF m 127 #[.val (.int p1), .val (.int ((p1 &&& (2147483647 : Int32)) % (9 : Int32))), .val (.ref a_MINUS), .val (.int (0 : Int32))] [])) := fun t kk => k10 t (by
          show Steps p.tables e below (T10.setTop (mkF m 29 #[.val (.int p1), .val (.int ((p1 &&& (2147483647 : Int32)) % (9 : Int32))), .unset, .unset] [(.ref a_MINUS)])) _
          refine XS.astoreN X10.here hx rfl (hb hby at_29) rfl rfl (l' := #[.val (.int p1), .val (.int ((p1 &&& (2147483647 : Int32)) % (9 : Int32))), .val (.ref a_MINUS), .unset]) rfl ?_
          show Steps p.tables e below (T10.setTop (mkF m 30 #[.val (.int p1), .val (.int ((p1 &&& (2147483647 : Int32)) % (9 : Int32))), .val (.ref a_MINUS), .unset] [])) _
          refine XS.iconst X10.here hx rfl (hb hby at_30) ?_
          show Steps p.tables e below (T10.setTop (mkF m 31 #[.val (.int p1), .val (.int ((p1 &&& (2147483647 : Int32)) % (9 : Int32))), .val (.ref a_MINUS), .unset] [(.int (0 : Int32))])) _
          refine XS.istoreN X10.here hx rfl (hb hby at_31) rfl (l' := #[.val (.int p1), .val (.int ((p1 &&& (2147483647 : Int32)) % (9 : Int32))), .val (.ref a_MINUS), .val (.int (0 : Int32))]) rfl ?_
          show Steps p.tables e below (T10.setTop (mkF m 32 #[.val (.int p1), .val (.int ((p1 &&& (2147483647 : Int32)) % (9 : Int32))), .val (.ref a_MINUS), .val (.int (0 : Int32))] [])) _
          refine XS.goto X10.here hx rfl (pc0 := 32) (pc' := 127) rfl (hb hby at_32) (by decide) (by decide) ?_
          exact kk)
        exact ⟨T10, X10, e10, a_MINUS, (0 : Int32), ⟨by unfold own_ends; rw [if_neg (own_ne (o_MINUS.ne o_ZERO (by decide)))]; rw [if_neg (own_ne (o_MINUS.ne o_INTEGER (by decide)))]; rw [if_neg (own_ne (o_MINUS.ne o_FRACTION (by decide)))]; rw [if_neg (own_ne (o_MINUS.ne o_EXPONENT (by decide)))], E_MINUS⟩, k11⟩
      · have k13 : Go p e below (s₁.setTop (entryFrame m #[(.int p1)] maxLocals)) (s₁.setTop (mkF m 37 #[.val (.int p1), .val (.int ((p1 &&& (2147483647 : Int32)) % (9 : Int32))), .unset, .unset] [(.int (2 : Int32)), (.int ((p1 &&& (2147483647 : Int32)) % (9 : Int32)))])) := fun t kk => k8 t (by
          show Steps p.tables e below (s₁.setTop (mkF m 23 #[.val (.int p1), .val (.int ((p1 &&& (2147483647 : Int32)) % (9 : Int32))), .unset, .unset] [(.int (1 : Int32)), (.int ((p1 &&& (2147483647 : Int32)) % (9 : Int32)))])) _
          refine XS.icmpYes X0.here hx rfl (pc0 := 23) (pc' := 35) rfl (hb hby at_23) rfl (feq hc23_7).2 (by decide) (by decide) ?_
          show Steps p.tables e below (s₁.setTop (mkF m 35 #[.val (.int p1), .val (.int ((p1 &&& (2147483647 : Int32)) % (9 : Int32))), .unset, .unset] [])) _
          refine XS.iloadN X0.here hx rfl (hb hby at_35) rfl ?_
          show Steps p.tables e below (s₁.setTop (mkF m 36 #[.val (.int p1), .val (.int ((p1 &&& (2147483647 : Int32)) % (9 : Int32))), .unset, .unset] [(.int ((p1 &&& (2147483647 : Int32)) % (9 : Int32)))])) _
          refine XS.iconst X0.here hx rfl (hb hby at_36) ?_
          exact kk)
        by_cases hc37_12 : ((p1 &&& (2147483647 : Int32)) % (9 : Int32)) = (2 : Int32)
        · have k14 : Go p e below (s₁.setTop (entryFrame m #[(.int p1)] maxLocals)) (s₁.setTop (mkF m 40 #[.val (.int p1), .val (.int ((p1 &&& (2147483647 : Int32)) % (9 : Int32))), .unset, .unset] [])) := fun t kk => k13 t (by
            show Steps p.tables e below (s₁.setTop (mkF m 37 #[.val (.int p1), .val (.int ((p1 &&& (2147483647 : Int32)) % (9 : Int32))), .unset, .unset] [(.int (2 : Int32)), (.int ((p1 &&& (2147483647 : Int32)) % (9 : Int32)))])) _
            refine XS.icmpNo X0.here hx rfl (hb hby at_37) rfl (teq hc37_12).2 ?_
            exact kk)
          obtain ⟨T15, X15, e15, st15⟩ := getS2 X0 hx hZ hown (host := "") (Or.inl (hw _ (List.mem_of_getElem? (i := 18) rfl))) Via.refl e0 S_ZERO (g := (mkF m 40 #[.val (.int p1), .val (.int ((p1 &&& (2147483647 : Int32)) % (9 : Int32))), .unset, .unset] [])) rfl (hb hby at_40)
          have k15 : Go p e below (s₁.setTop (entryFrame m #[(.int p1)] maxLocals)) (T15.setTop (mkF m 43 #[.val (.int p1), .val (.int ((p1 &&& (2147483647 : Int32)) % (9 : Int32))), .unset, .unset] [(.ref a_ZERO)])) := fun t kk => k14 t (st15 t kk)
          have k16 : Go p e below (s₁.setTop (entryFrame m #[(.int p1)] maxLocals)) (T15.setTop (mkF m 127 #[.val (.int p1), .val (.int ((p1 &&& (2147483647 : Int32)) % (9 : Int32))), .val (.ref a_ZERO), .val (.int (1 : Int32))] [])) := fun t kk => k15 t (by
            show Steps p.tables e below (T15.setTop (mkF m 43 #[.val (.int p1), .val (.int ((p1 &&& (2147483647 : Int32)) % (9 : Int32))), .unset, .unset] [(.ref a_ZERO)])) _
            refine XS.astoreN X15.here hx rfl (hb hby at_43) rfl rfl (l' := #[.val (.int p1), .val (.int ((p1 &&& (2147483647 : Int32)) % (9 : Int32))), .val (.ref a_ZERO), .unset]) rfl ?_
            show Steps p.tables e below (T15.setTop (mkF m 44 #[.val (.int p1), .val (.int ((p1 &&& (2147483647 : Int32)) % (9 : Int32))), .val (.ref a_ZERO), .unset] [])) _
            refine XS.iconst X15.here hx rfl (hb hby at_44) ?_
            show Steps p.tables e below (T15.setTop (mkF m 45 #[.val (.int p1), .val (.int ((p1 &&& (2147483647 : Int32)) % (9 : Int32))), .val (.ref a_ZERO), .unset] [(.int (1 : Int32))])) _
            refine XS.istoreN X15.here hx rfl (hb hby at_45) rfl (l' := #[.val (.int p1), .val (.int ((p1 &&& (2147483647 : Int32)) % (9 : Int32))), .val (.ref a_ZERO), .val (.int (1 : Int32))]) rfl ?_
            show Steps p.tables e below (T15.setTop (mkF m 46 #[.val (.int p1), .val (.int ((p1 &&& (2147483647 : Int32)) % (9 : Int32))), .val (.ref a_ZERO), .val (.int (1 : Int32))] [])) _
            refine XS.goto X15.here hx rfl (pc0 := 46) (pc' := 127) rfl (hb hby at_46) (by decide) (by decide) ?_
            exact kk)
          exact ⟨T15, X15, e15, a_ZERO, (1 : Int32), ⟨by unfold own_ends;  rw [if_pos rfl], E_ZERO⟩, k16⟩
        · have k18 : Go p e below (s₁.setTop (entryFrame m #[(.int p1)] maxLocals)) (s₁.setTop (mkF m 51 #[.val (.int p1), .val (.int ((p1 &&& (2147483647 : Int32)) % (9 : Int32))), .unset, .unset] [(.int (3 : Int32)), (.int ((p1 &&& (2147483647 : Int32)) % (9 : Int32)))])) := fun t kk => k13 t (by
            show Steps p.tables e below (s₁.setTop (mkF m 37 #[.val (.int p1), .val (.int ((p1 &&& (2147483647 : Int32)) % (9 : Int32))), .unset, .unset] [(.int (2 : Int32)), (.int ((p1 &&& (2147483647 : Int32)) % (9 : Int32)))])) _
            refine XS.icmpYes X0.here hx rfl (pc0 := 37) (pc' := 49) rfl (hb hby at_37) rfl (feq hc37_12).2 (by decide) (by decide) ?_
            show Steps p.tables e below (s₁.setTop (mkF m 49 #[.val (.int p1), .val (.int ((p1 &&& (2147483647 : Int32)) % (9 : Int32))), .unset, .unset] [])) _
            refine XS.iloadN X0.here hx rfl (hb hby at_49) rfl ?_
            show Steps p.tables e below (s₁.setTop (mkF m 50 #[.val (.int p1), .val (.int ((p1 &&& (2147483647 : Int32)) % (9 : Int32))), .unset, .unset] [(.int ((p1 &&& (2147483647 : Int32)) % (9 : Int32)))])) _
            refine XS.iconst X0.here hx rfl (hb hby at_50) ?_
            exact kk)
          by_cases hc51_17 : ((p1 &&& (2147483647 : Int32)) % (9 : Int32)) = (3 : Int32)
          · have k19 : Go p e below (s₁.setTop (entryFrame m #[(.int p1)] maxLocals)) (s₁.setTop (mkF m 54 #[.val (.int p1), .val (.int ((p1 &&& (2147483647 : Int32)) % (9 : Int32))), .unset, .unset] [])) := fun t kk => k18 t (by
              show Steps p.tables e below (s₁.setTop (mkF m 51 #[.val (.int p1), .val (.int ((p1 &&& (2147483647 : Int32)) % (9 : Int32))), .unset, .unset] [(.int (3 : Int32)), (.int ((p1 &&& (2147483647 : Int32)) % (9 : Int32)))])) _
              refine XS.icmpNo X0.here hx rfl (hb hby at_51) rfl (teq hc51_17).2 ?_
              exact kk)
            obtain ⟨T20, X20, e20, st20⟩ := getS2 X0 hx hZ hown (host := "") (Or.inl (hw _ (List.mem_of_getElem? (i := 17) rfl))) Via.refl e0 S_INTEGER (g := (mkF m 54 #[.val (.int p1), .val (.int ((p1 &&& (2147483647 : Int32)) % (9 : Int32))), .unset, .unset] [])) rfl (hb hby at_54)
            have k20 : Go p e below (s₁.setTop (entryFrame m #[(.int p1)] maxLocals)) (T20.setTop (mkF m 57 #[.val (.int p1), .val (.int ((p1 &&& (2147483647 : Int32)) % (9 : Int32))), .unset, .unset] [(.ref a_INTEGER)])) := fun t kk => k19 t (st20 t kk)
            have k21 : Go p e below (s₁.setTop (entryFrame m #[(.int p1)] maxLocals)) (T20.setTop (mkF m 127 #[.val (.int p1), .val (.int ((p1 &&& (2147483647 : Int32)) % (9 : Int32))), .val (.ref a_INTEGER), .val (.int (1 : Int32))] [])) := fun t kk => k20 t (by
              show Steps p.tables e below (T20.setTop (mkF m 57 #[.val (.int p1), .val (.int ((p1 &&& (2147483647 : Int32)) % (9 : Int32))), .unset, .unset] [(.ref a_INTEGER)])) _
              refine XS.astoreN X20.here hx rfl (hb hby at_57) rfl rfl (l' := #[.val (.int p1), .val (.int ((p1 &&& (2147483647 : Int32)) % (9 : Int32))), .val (.ref a_INTEGER), .unset]) rfl ?_
              show Steps p.tables e below (T20.setTop (mkF m 58 #[.val (.int p1), .val (.int ((p1 &&& (2147483647 : Int32)) % (9 : Int32))), .val (.ref a_INTEGER), .unset] [])) _
              refine XS.iconst X20.here hx rfl (hb hby at_58) ?_
              show Steps p.tables e below (T20.setTop (mkF m 59 #[.val (.int p1), .val (.int ((p1 &&& (2147483647 : Int32)) % (9 : Int32))), .val (.ref a_INTEGER), .unset] [(.int (1 : Int32))])) _
              refine XS.istoreN X20.here hx rfl (hb hby at_59) rfl (l' := #[.val (.int p1), .val (.int ((p1 &&& (2147483647 : Int32)) % (9 : Int32))), .val (.ref a_INTEGER), .val (.int (1 : Int32))]) rfl ?_
              show Steps p.tables e below (T20.setTop (mkF m 60 #[.val (.int p1), .val (.int ((p1 &&& (2147483647 : Int32)) % (9 : Int32))), .val (.ref a_INTEGER), .val (.int (1 : Int32))] [])) _
              refine XS.goto X20.here hx rfl (pc0 := 60) (pc' := 127) rfl (hb hby at_60) (by decide) (by decide) ?_
              exact kk)
            exact ⟨T20, X20, e20, a_INTEGER, (1 : Int32), ⟨by unfold own_ends; rw [if_neg (own_ne (o_INTEGER.ne o_ZERO (by decide)))]; rw [if_pos rfl], E_INTEGER⟩, k21⟩
          · have k23 : Go p e below (s₁.setTop (entryFrame m #[(.int p1)] maxLocals)) (s₁.setTop (mkF m 65 #[.val (.int p1), .val (.int ((p1 &&& (2147483647 : Int32)) % (9 : Int32))), .unset, .unset] [(.int (4 : Int32)), (.int ((p1 &&& (2147483647 : Int32)) % (9 : Int32)))])) := fun t kk => k18 t (by
              show Steps p.tables e below (s₁.setTop (mkF m 51 #[.val (.int p1), .val (.int ((p1 &&& (2147483647 : Int32)) % (9 : Int32))), .unset, .unset] [(.int (3 : Int32)), (.int ((p1 &&& (2147483647 : Int32)) % (9 : Int32)))])) _
              refine XS.icmpYes X0.here hx rfl (pc0 := 51) (pc' := 63) rfl (hb hby at_51) rfl (feq hc51_17).2 (by decide) (by decide) ?_
              show Steps p.tables e below (s₁.setTop (mkF m 63 #[.val (.int p1), .val (.int ((p1 &&& (2147483647 : Int32)) % (9 : Int32))), .unset, .unset] [])) _
              refine XS.iloadN X0.here hx rfl (hb hby at_63) rfl ?_
              show Steps p.tables e below (s₁.setTop (mkF m 64 #[.val (.int p1), .val (.int ((p1 &&& (2147483647 : Int32)) % (9 : Int32))), .unset, .unset] [(.int ((p1 &&& (2147483647 : Int32)) % (9 : Int32)))])) _
              refine XS.iconst X0.here hx rfl (hb hby at_64) ?_
              exact kk)
            by_cases hc65_22 : ((p1 &&& (2147483647 : Int32)) % (9 : Int32)) = (4 : Int32)
            · have k24 : Go p e below (s₁.setTop (entryFrame m #[(.int p1)] maxLocals)) (s₁.setTop (mkF m 68 #[.val (.int p1), .val (.int ((p1 &&& (2147483647 : Int32)) % (9 : Int32))), .unset, .unset] [])) := fun t kk => k23 t (by
                show Steps p.tables e below (s₁.setTop (mkF m 65 #[.val (.int p1), .val (.int ((p1 &&& (2147483647 : Int32)) % (9 : Int32))), .unset, .unset] [(.int (4 : Int32)), (.int ((p1 &&& (2147483647 : Int32)) % (9 : Int32)))])) _
                refine XS.icmpNo X0.here hx rfl (hb hby at_65) rfl (teq hc65_22).2 ?_
                exact kk)
              obtain ⟨T25, X25, e25, st25⟩ := getS2 X0 hx hZ hown (host := "") (Or.inl (hw _ (List.mem_of_getElem? (i := 23) rfl))) Via.refl e0 S_POINT (g := (mkF m 68 #[.val (.int p1), .val (.int ((p1 &&& (2147483647 : Int32)) % (9 : Int32))), .unset, .unset] [])) rfl (hb hby at_68)
              have k25 : Go p e below (s₁.setTop (entryFrame m #[(.int p1)] maxLocals)) (T25.setTop (mkF m 71 #[.val (.int p1), .val (.int ((p1 &&& (2147483647 : Int32)) % (9 : Int32))), .unset, .unset] [(.ref a_POINT)])) := fun t kk => k24 t (st25 t kk)
              have k26 : Go p e below (s₁.setTop (entryFrame m #[(.int p1)] maxLocals)) (T25.setTop (mkF m 127 #[.val (.int p1), .val (.int ((p1 &&& (2147483647 : Int32)) % (9 : Int32))), .val (.ref a_POINT), .val (.int (0 : Int32))] [])) := fun t kk => k25 t (by
                show Steps p.tables e below (T25.setTop (mkF m 71 #[.val (.int p1), .val (.int ((p1 &&& (2147483647 : Int32)) % (9 : Int32))), .unset, .unset] [(.ref a_POINT)])) _
                refine XS.astoreN X25.here hx rfl (hb hby at_71) rfl rfl (l' := #[.val (.int p1), .val (.int ((p1 &&& (2147483647 : Int32)) % (9 : Int32))), .val (.ref a_POINT), .unset]) rfl ?_
                show Steps p.tables e below (T25.setTop (mkF m 72 #[.val (.int p1), .val (.int ((p1 &&& (2147483647 : Int32)) % (9 : Int32))), .val (.ref a_POINT), .unset] [])) _
                refine XS.iconst X25.here hx rfl (hb hby at_72) ?_
                show Steps p.tables e below (T25.setTop (mkF m 73 #[.val (.int p1), .val (.int ((p1 &&& (2147483647 : Int32)) % (9 : Int32))), .val (.ref a_POINT), .unset] [(.int (0 : Int32))])) _
                refine XS.istoreN X25.here hx rfl (hb hby at_73) rfl (l' := #[.val (.int p1), .val (.int ((p1 &&& (2147483647 : Int32)) % (9 : Int32))), .val (.ref a_POINT), .val (.int (0 : Int32))]) rfl ?_
                show Steps p.tables e below (T25.setTop (mkF m 74 #[.val (.int p1), .val (.int ((p1 &&& (2147483647 : Int32)) % (9 : Int32))), .val (.ref a_POINT), .val (.int (0 : Int32))] [])) _
                refine XS.goto X25.here hx rfl (pc0 := 74) (pc' := 127) rfl (hb hby at_74) (by decide) (by decide) ?_
                exact kk)
              exact ⟨T25, X25, e25, a_POINT, (0 : Int32), ⟨by unfold own_ends; rw [if_neg (own_ne (o_POINT.ne o_ZERO (by decide)))]; rw [if_neg (own_ne (o_POINT.ne o_INTEGER (by decide)))]; rw [if_neg (own_ne (o_POINT.ne o_FRACTION (by decide)))]; rw [if_neg (own_ne (o_POINT.ne o_EXPONENT (by decide)))], E_POINT⟩, k26⟩
            · have k28 : Go p e below (s₁.setTop (entryFrame m #[(.int p1)] maxLocals)) (s₁.setTop (mkF m 79 #[.val (.int p1), .val (.int ((p1 &&& (2147483647 : Int32)) % (9 : Int32))), .unset, .unset] [(.int (5 : Int32)), (.int ((p1 &&& (2147483647 : Int32)) % (9 : Int32)))])) := fun t kk => k23 t (by
                show Steps p.tables e below (s₁.setTop (mkF m 65 #[.val (.int p1), .val (.int ((p1 &&& (2147483647 : Int32)) % (9 : Int32))), .unset, .unset] [(.int (4 : Int32)), (.int ((p1 &&& (2147483647 : Int32)) % (9 : Int32)))])) _
                refine XS.icmpYes X0.here hx rfl (pc0 := 65) (pc' := 77) rfl (hb hby at_65) rfl (feq hc65_22).2 (by decide) (by decide) ?_
                show Steps p.tables e below (s₁.setTop (mkF m 77 #[.val (.int p1), .val (.int ((p1 &&& (2147483647 : Int32)) % (9 : Int32))), .unset, .unset] [])) _
                refine XS.iloadN X0.here hx rfl (hb hby at_77) rfl ?_
                show Steps p.tables e below (s₁.setTop (mkF m 78 #[.val (.int p1), .val (.int ((p1 &&& (2147483647 : Int32)) % (9 : Int32))), .unset, .unset] [(.int ((p1 &&& (2147483647 : Int32)) % (9 : Int32)))])) _
                refine XS.iconst X0.here hx rfl (hb hby at_78) ?_
                exact kk)
              by_cases hc79_27 : ((p1 &&& (2147483647 : Int32)) % (9 : Int32)) = (5 : Int32)
              · have k29 : Go p e below (s₁.setTop (entryFrame m #[(.int p1)] maxLocals)) (s₁.setTop (mkF m 82 #[.val (.int p1), .val (.int ((p1 &&& (2147483647 : Int32)) % (9 : Int32))), .unset, .unset] [])) := fun t kk => k28 t (by
                  show Steps p.tables e below (s₁.setTop (mkF m 79 #[.val (.int p1), .val (.int ((p1 &&& (2147483647 : Int32)) % (9 : Int32))), .unset, .unset] [(.int (5 : Int32)), (.int ((p1 &&& (2147483647 : Int32)) % (9 : Int32)))])) _
                  refine XS.icmpNo X0.here hx rfl (hb hby at_79) rfl (teq hc79_27).2 ?_
                  exact kk)
                obtain ⟨T30, X30, e30, st30⟩ := getS2 X0 hx hZ hown (host := "") (Or.inl (hw _ (List.mem_of_getElem? (i := 28) rfl))) Via.refl e0 S_FRACTION (g := (mkF m 82 #[.val (.int p1), .val (.int ((p1 &&& (2147483647 : Int32)) % (9 : Int32))), .unset, .unset] [])) rfl (hb hby at_82)
                have k30 : Go p e below (s₁.setTop (entryFrame m #[(.int p1)] maxLocals)) (T30.setTop (mkF m 85 #[.val (.int p1), .val (.int ((p1 &&& (2147483647 : Int32)) % (9 : Int32))), .unset, .unset] [(.ref a_FRACTION)])) := fun t kk => k29 t (st30 t kk)
                have k31 : Go p e below (s₁.setTop (entryFrame m #[(.int p1)] maxLocals)) (T30.setTop (mkF m 127 #[.val (.int p1), .val (.int ((p1 &&& (2147483647 : Int32)) % (9 : Int32))), .val (.ref a_FRACTION), .val (.int (1 : Int32))] [])) := fun t kk => k30 t (by
                  show Steps p.tables e below (T30.setTop (mkF m 85 #[.val (.int p1), .val (.int ((p1 &&& (2147483647 : Int32)) % (9 : Int32))), .unset, .unset] [(.ref a_FRACTION)])) _
                  refine XS.astoreN X30.here hx rfl (hb hby at_85) rfl rfl (l' := #[.val (.int p1), .val (.int ((p1 &&& (2147483647 : Int32)) % (9 : Int32))), .val (.ref a_FRACTION), .unset]) rfl ?_
                  show Steps p.tables e below (T30.setTop (mkF m 86 #[.val (.int p1), .val (.int ((p1 &&& (2147483647 : Int32)) % (9 : Int32))), .val (.ref a_FRACTION), .unset] [])) _
                  refine XS.iconst X30.here hx rfl (hb hby at_86) ?_
                  show Steps p.tables e below (T30.setTop (mkF m 87 #[.val (.int p1), .val (.int ((p1 &&& (2147483647 : Int32)) % (9 : Int32))), .val (.ref a_FRACTION), .unset] [(.int (1 : Int32))])) _
                  refine XS.istoreN X30.here hx rfl (hb hby at_87) rfl (l' := #[.val (.int p1), .val (.int ((p1 &&& (2147483647 : Int32)) % (9 : Int32))), .val (.ref a_FRACTION), .val (.int (1 : Int32))]) rfl ?_
                  show Steps p.tables e below (T30.setTop (mkF m 88 #[.val (.int p1), .val (.int ((p1 &&& (2147483647 : Int32)) % (9 : Int32))), .val (.ref a_FRACTION), .val (.int (1 : Int32))] [])) _
                  refine XS.goto X30.here hx rfl (pc0 := 88) (pc' := 127) rfl (hb hby at_88) (by decide) (by decide) ?_
                  exact kk)
                exact ⟨T30, X30, e30, a_FRACTION, (1 : Int32), ⟨by unfold own_ends; rw [if_neg (own_ne (o_FRACTION.ne o_ZERO (by decide)))]; rw [if_neg (own_ne (o_FRACTION.ne o_INTEGER (by decide)))]; rw [if_pos rfl], E_FRACTION⟩, k31⟩
              · have k33 : Go p e below (s₁.setTop (entryFrame m #[(.int p1)] maxLocals)) (s₁.setTop (mkF m 94 #[.val (.int p1), .val (.int ((p1 &&& (2147483647 : Int32)) % (9 : Int32))), .unset, .unset] [(.int (6 : Int32)), (.int ((p1 &&& (2147483647 : Int32)) % (9 : Int32)))])) := fun t kk => k28 t (by
                  show Steps p.tables e below (s₁.setTop (mkF m 79 #[.val (.int p1), .val (.int ((p1 &&& (2147483647 : Int32)) % (9 : Int32))), .unset, .unset] [(.int (5 : Int32)), (.int ((p1 &&& (2147483647 : Int32)) % (9 : Int32)))])) _
                  refine XS.icmpYes X0.here hx rfl (pc0 := 79) (pc' := 91) rfl (hb hby at_79) rfl (feq hc79_27).2 (by decide) (by decide) ?_
                  show Steps p.tables e below (s₁.setTop (mkF m 91 #[.val (.int p1), .val (.int ((p1 &&& (2147483647 : Int32)) % (9 : Int32))), .unset, .unset] [])) _
                  refine XS.iloadN X0.here hx rfl (hb hby at_91) rfl ?_
                  show Steps p.tables e below (s₁.setTop (mkF m 92 #[.val (.int p1), .val (.int ((p1 &&& (2147483647 : Int32)) % (9 : Int32))), .unset, .unset] [(.int ((p1 &&& (2147483647 : Int32)) % (9 : Int32)))])) _
                  refine XS.bipush X0.here hx rfl (hb hby at_92) ?_
                  exact kk)
                by_cases hc94_32 : ((p1 &&& (2147483647 : Int32)) % (9 : Int32)) = (6 : Int32)
                · have k34 : Go p e below (s₁.setTop (entryFrame m #[(.int p1)] maxLocals)) (s₁.setTop (mkF m 97 #[.val (.int p1), .val (.int ((p1 &&& (2147483647 : Int32)) % (9 : Int32))), .unset, .unset] [])) := fun t kk => k33 t (by
                    show Steps p.tables e below (s₁.setTop (mkF m 94 #[.val (.int p1), .val (.int ((p1 &&& (2147483647 : Int32)) % (9 : Int32))), .unset, .unset] [(.int (6 : Int32)), (.int ((p1 &&& (2147483647 : Int32)) % (9 : Int32)))])) _
                    refine XS.icmpNo X0.here hx rfl (hb hby at_94) rfl (teq hc94_32).2 ?_
                    exact kk)
                  obtain ⟨T35, X35, e35, st35⟩ := getS2 X0 hx hZ hown (host := "") (Or.inl (hw _ (List.mem_of_getElem? (i := 26) rfl))) Via.refl e0 S_MARK (g := (mkF m 97 #[.val (.int p1), .val (.int ((p1 &&& (2147483647 : Int32)) % (9 : Int32))), .unset, .unset] [])) rfl (hb hby at_97)
                  have k35 : Go p e below (s₁.setTop (entryFrame m #[(.int p1)] maxLocals)) (T35.setTop (mkF m 100 #[.val (.int p1), .val (.int ((p1 &&& (2147483647 : Int32)) % (9 : Int32))), .unset, .unset] [(.ref a_MARK)])) := fun t kk => k34 t (st35 t kk)
                  have k36 : Go p e below (s₁.setTop (entryFrame m #[(.int p1)] maxLocals)) (T35.setTop (mkF m 127 #[.val (.int p1), .val (.int ((p1 &&& (2147483647 : Int32)) % (9 : Int32))), .val (.ref a_MARK), .val (.int (0 : Int32))] [])) := fun t kk => k35 t (by
                    show Steps p.tables e below (T35.setTop (mkF m 100 #[.val (.int p1), .val (.int ((p1 &&& (2147483647 : Int32)) % (9 : Int32))), .unset, .unset] [(.ref a_MARK)])) _
                    refine XS.astoreN X35.here hx rfl (hb hby at_100) rfl rfl (l' := #[.val (.int p1), .val (.int ((p1 &&& (2147483647 : Int32)) % (9 : Int32))), .val (.ref a_MARK), .unset]) rfl ?_
                    show Steps p.tables e below (T35.setTop (mkF m 101 #[.val (.int p1), .val (.int ((p1 &&& (2147483647 : Int32)) % (9 : Int32))), .val (.ref a_MARK), .unset] [])) _
                    refine XS.iconst X35.here hx rfl (hb hby at_101) ?_
                    show Steps p.tables e below (T35.setTop (mkF m 102 #[.val (.int p1), .val (.int ((p1 &&& (2147483647 : Int32)) % (9 : Int32))), .val (.ref a_MARK), .unset] [(.int (0 : Int32))])) _
                    refine XS.istoreN X35.here hx rfl (hb hby at_102) rfl (l' := #[.val (.int p1), .val (.int ((p1 &&& (2147483647 : Int32)) % (9 : Int32))), .val (.ref a_MARK), .val (.int (0 : Int32))]) rfl ?_
                    show Steps p.tables e below (T35.setTop (mkF m 103 #[.val (.int p1), .val (.int ((p1 &&& (2147483647 : Int32)) % (9 : Int32))), .val (.ref a_MARK), .val (.int (0 : Int32))] [])) _
                    refine XS.goto X35.here hx rfl (pc0 := 103) (pc' := 127) rfl (hb hby at_103) (by decide) (by decide) ?_
                    exact kk)
                  exact ⟨T35, X35, e35, a_MARK, (0 : Int32), ⟨by unfold own_ends; rw [if_neg (own_ne (o_MARK.ne o_ZERO (by decide)))]; rw [if_neg (own_ne (o_MARK.ne o_INTEGER (by decide)))]; rw [if_neg (own_ne (o_MARK.ne o_FRACTION (by decide)))]; rw [if_neg (own_ne (o_MARK.ne o_EXPONENT (by decide)))], E_MARK⟩, k36⟩
                · have k38 : Go p e below (s₁.setTop (entryFrame m #[(.int p1)] maxLocals)) (s₁.setTop (mkF m 109 #[.val (.int p1), .val (.int ((p1 &&& (2147483647 : Int32)) % (9 : Int32))), .unset, .unset] [(.int (7 : Int32)), (.int ((p1 &&& (2147483647 : Int32)) % (9 : Int32)))])) := fun t kk => k33 t (by
                    show Steps p.tables e below (s₁.setTop (mkF m 94 #[.val (.int p1), .val (.int ((p1 &&& (2147483647 : Int32)) % (9 : Int32))), .unset, .unset] [(.int (6 : Int32)), (.int ((p1 &&& (2147483647 : Int32)) % (9 : Int32)))])) _
                    refine XS.icmpYes X0.here hx rfl (pc0 := 94) (pc' := 106) rfl (hb hby at_94) rfl (feq hc94_32).2 (by decide) (by decide) ?_
                    show Steps p.tables e below (s₁.setTop (mkF m 106 #[.val (.int p1), .val (.int ((p1 &&& (2147483647 : Int32)) % (9 : Int32))), .unset, .unset] [])) _
                    refine XS.iloadN X0.here hx rfl (hb hby at_106) rfl ?_
                    show Steps p.tables e below (s₁.setTop (mkF m 107 #[.val (.int p1), .val (.int ((p1 &&& (2147483647 : Int32)) % (9 : Int32))), .unset, .unset] [(.int ((p1 &&& (2147483647 : Int32)) % (9 : Int32)))])) _
                    refine XS.bipush X0.here hx rfl (hb hby at_107) ?_
                    exact kk)
                  by_cases hc109_37 : ((p1 &&& (2147483647 : Int32)) % (9 : Int32)) = (7 : Int32)
                  · have k39 : Go p e below (s₁.setTop (entryFrame m #[(.int p1)] maxLocals)) (s₁.setTop (mkF m 112 #[.val (.int p1), .val (.int ((p1 &&& (2147483647 : Int32)) % (9 : Int32))), .unset, .unset] [])) := fun t kk => k38 t (by
                      show Steps p.tables e below (s₁.setTop (mkF m 109 #[.val (.int p1), .val (.int ((p1 &&& (2147483647 : Int32)) % (9 : Int32))), .unset, .unset] [(.int (7 : Int32)), (.int ((p1 &&& (2147483647 : Int32)) % (9 : Int32)))])) _
                      refine XS.icmpNo X0.here hx rfl (hb hby at_109) rfl (teq hc109_37).2 ?_
                      exact kk)
                    obtain ⟨T40, X40, e40, st40⟩ := getS2 X0 hx hZ hown (host := "") (Or.inl (hw _ (List.mem_of_getElem? (i := 21) rfl))) Via.refl e0 S_SIGN (g := (mkF m 112 #[.val (.int p1), .val (.int ((p1 &&& (2147483647 : Int32)) % (9 : Int32))), .unset, .unset] [])) rfl (hb hby at_112)
                    have k40 : Go p e below (s₁.setTop (entryFrame m #[(.int p1)] maxLocals)) (T40.setTop (mkF m 115 #[.val (.int p1), .val (.int ((p1 &&& (2147483647 : Int32)) % (9 : Int32))), .unset, .unset] [(.ref a_SIGN)])) := fun t kk => k39 t (st40 t kk)
                    have k41 : Go p e below (s₁.setTop (entryFrame m #[(.int p1)] maxLocals)) (T40.setTop (mkF m 127 #[.val (.int p1), .val (.int ((p1 &&& (2147483647 : Int32)) % (9 : Int32))), .val (.ref a_SIGN), .val (.int (0 : Int32))] [])) := fun t kk => k40 t (by
                      show Steps p.tables e below (T40.setTop (mkF m 115 #[.val (.int p1), .val (.int ((p1 &&& (2147483647 : Int32)) % (9 : Int32))), .unset, .unset] [(.ref a_SIGN)])) _
                      refine XS.astoreN X40.here hx rfl (hb hby at_115) rfl rfl (l' := #[.val (.int p1), .val (.int ((p1 &&& (2147483647 : Int32)) % (9 : Int32))), .val (.ref a_SIGN), .unset]) rfl ?_
                      show Steps p.tables e below (T40.setTop (mkF m 116 #[.val (.int p1), .val (.int ((p1 &&& (2147483647 : Int32)) % (9 : Int32))), .val (.ref a_SIGN), .unset] [])) _
                      refine XS.iconst X40.here hx rfl (hb hby at_116) ?_
                      show Steps p.tables e below (T40.setTop (mkF m 117 #[.val (.int p1), .val (.int ((p1 &&& (2147483647 : Int32)) % (9 : Int32))), .val (.ref a_SIGN), .unset] [(.int (0 : Int32))])) _
                      refine XS.istoreN X40.here hx rfl (hb hby at_117) rfl (l' := #[.val (.int p1), .val (.int ((p1 &&& (2147483647 : Int32)) % (9 : Int32))), .val (.ref a_SIGN), .val (.int (0 : Int32))]) rfl ?_
                      show Steps p.tables e below (T40.setTop (mkF m 118 #[.val (.int p1), .val (.int ((p1 &&& (2147483647 : Int32)) % (9 : Int32))), .val (.ref a_SIGN), .val (.int (0 : Int32))] [])) _
                      refine XS.goto X40.here hx rfl (pc0 := 118) (pc' := 127) rfl (hb hby at_118) (by decide) (by decide) ?_
                      exact kk)
                    exact ⟨T40, X40, e40, a_SIGN, (0 : Int32), ⟨by unfold own_ends; rw [if_neg (own_ne (o_SIGN.ne o_ZERO (by decide)))]; rw [if_neg (own_ne (o_SIGN.ne o_INTEGER (by decide)))]; rw [if_neg (own_ne (o_SIGN.ne o_FRACTION (by decide)))]; rw [if_neg (own_ne (o_SIGN.ne o_EXPONENT (by decide)))], E_SIGN⟩, k41⟩
                  · have k42 : Go p e below (s₁.setTop (entryFrame m #[(.int p1)] maxLocals)) (s₁.setTop (mkF m 121 #[.val (.int p1), .val (.int ((p1 &&& (2147483647 : Int32)) % (9 : Int32))), .unset, .unset] [])) := fun t kk => k38 t (by
                      show Steps p.tables e below (s₁.setTop (mkF m 109 #[.val (.int p1), .val (.int ((p1 &&& (2147483647 : Int32)) % (9 : Int32))), .unset, .unset] [(.int (7 : Int32)), (.int ((p1 &&& (2147483647 : Int32)) % (9 : Int32)))])) _
                      refine XS.icmpYes X0.here hx rfl (pc0 := 109) (pc' := 121) rfl (hb hby at_109) rfl (feq hc109_37).2 (by decide) (by decide) ?_
                      exact kk)
                    obtain ⟨T43, X43, e43, st43⟩ := getS2 X0 hx hZ hown (host := "") (Or.inl (hw _ (List.mem_of_getElem? (i := 25) rfl))) Via.refl e0 S_EXPONENT (g := (mkF m 121 #[.val (.int p1), .val (.int ((p1 &&& (2147483647 : Int32)) % (9 : Int32))), .unset, .unset] [])) rfl (hb hby at_121)
                    have k43 : Go p e below (s₁.setTop (entryFrame m #[(.int p1)] maxLocals)) (T43.setTop (mkF m 124 #[.val (.int p1), .val (.int ((p1 &&& (2147483647 : Int32)) % (9 : Int32))), .unset, .unset] [(.ref a_EXPONENT)])) := fun t kk => k42 t (st43 t kk)
                    have k44 : Go p e below (s₁.setTop (entryFrame m #[(.int p1)] maxLocals)) (T43.setTop (mkF m 127 #[.val (.int p1), .val (.int ((p1 &&& (2147483647 : Int32)) % (9 : Int32))), .val (.ref a_EXPONENT), .val (.int (1 : Int32))] [])) := fun t kk => k43 t (by
                      show Steps p.tables e below (T43.setTop (mkF m 124 #[.val (.int p1), .val (.int ((p1 &&& (2147483647 : Int32)) % (9 : Int32))), .unset, .unset] [(.ref a_EXPONENT)])) _
                      refine XS.astoreN X43.here hx rfl (hb hby at_124) rfl rfl (l' := #[.val (.int p1), .val (.int ((p1 &&& (2147483647 : Int32)) % (9 : Int32))), .val (.ref a_EXPONENT), .unset]) rfl ?_
                      show Steps p.tables e below (T43.setTop (mkF m 125 #[.val (.int p1), .val (.int ((p1 &&& (2147483647 : Int32)) % (9 : Int32))), .val (.ref a_EXPONENT), .unset] [])) _
                      refine XS.iconst X43.here hx rfl (hb hby at_125) ?_
                      show Steps p.tables e below (T43.setTop (mkF m 126 #[.val (.int p1), .val (.int ((p1 &&& (2147483647 : Int32)) % (9 : Int32))), .val (.ref a_EXPONENT), .unset] [(.int (1 : Int32))])) _
                      refine XS.istoreN X43.here hx rfl (hb hby at_126) rfl (l' := #[.val (.int p1), .val (.int ((p1 &&& (2147483647 : Int32)) % (9 : Int32))), .val (.ref a_EXPONENT), .val (.int (1 : Int32))]) rfl ?_
                      exact kk)
                    exact ⟨T43, X43, e43, a_EXPONENT, (1 : Int32), ⟨by unfold own_ends; rw [if_neg (own_ne (o_EXPONENT.ne o_ZERO (by decide)))]; rw [if_neg (own_ne (o_EXPONENT.ne o_INTEGER (by decide)))]; rw [if_neg (own_ne (o_EXPONENT.ne o_FRACTION (by decide)))]; rw [if_pos rfl], E_EXPONENT⟩, k44⟩
  have k45 : Go p e below (s₁.setTop (entryFrame m #[(.int p1)] maxLocals)) (T1.setTop (mkF m 128 #[.val (.int p1), .val (.int ((p1 &&& (2147483647 : Int32)) % (9 : Int32))), .val (.ref va), .val (.int vb)] [(.ref va)])) := fun t kk => k1 t (by
    show Steps p.tables e below (T1.setTop (mkF m 127 #[.val (.int p1), .val (.int ((p1 &&& (2147483647 : Int32)) % (9 : Int32))), .val (.ref va), .val (.int vb)] [])) _
    refine XS.aloadN X1.here hx rfl (hb hby at_127) rfl rfl ?_
    exact kk)
  obtain ⟨cq46, kq46, q46a, q46b, q46c⟩ := isOf hZ e1 hj1.2
  obtain ⟨_, _, ⟨T46, L46, kx46, nx46⟩, -, X46, ⟨Lc46, hQ46, l46, y46, z46⟩, st46⟩ := X1.virtualBack hx (y := (⟨"com/example/darn6/darn6/JsonNumber$Grammar", "endsNumber", "()Z"⟩ : MethodName)) (z := (⟨"com/example/darn6/darn6/JsonNumber$Grammar", "endsNumber", "()Z"⟩ : MethodName)) hown (mvT hZ (hw _ (List.mem_of_getElem? (i := 4) rfl))) (mvT hZ (hw _ (List.mem_of_getElem? (i := 5) rfl))) (notFace_of_selects (args := #[]) (mvT hZ (hw _ (List.mem_of_getElem? (i := 7) rfl)))) (mvT hZ (hw _ (List.mem_of_getElem? (i := 7) rfl))) (mvT hZ (hw _ (List.mem_of_getElem? (i := 6) rfl))) (by decide) (backOf (W := 0) (rmE l Z a0 hw [] va a_ZERO a_INTEGER a_FRACTION a_EXPONENT h0 n0 Z0 S_ZERO S_INTEGER S_FRACTION S_EXPONENT) hZ (hw _ (List.mem_of_getElem? (i := 8) rfl)) (hw _ (List.mem_of_getElem? (i := 2) rfl)) (by decide) (by decide)) q46a q46c (g := (mkF m 128 #[.val (.int p1), .val (.int ((p1 &&& (2147483647 : Int32)) % (9 : Int32))), .val (.ref va), .val (.int vb)] [(.ref va)])) rfl (by rw [hml]; rfl) (Steps.refl _) (argsL := []) (rest := []) (lenOf pd_0 rfl) rfl (by show 2 * 0 + _ ≤ _; exact Nat.le_of_eq rfl) (hb hby at_128) (fun _ _ => ⟨rfl, e1, (by decide : 0 + 0 ≤ _), (by decide : 0 + 0 ≤ _)⟩)
  dsimp only [Pt.U, Pt.locs, Pt.cells, Pt.slots] at X46 l46 y46 z46 st46 hQ46
  subst l46 y46 z46
  obtain ⟨rfl, rfl, e46⟩ := hQ46
  try rw [List.append_nil] at X46
  have k46 : Go p e below (s₁.setTop (entryFrame m #[(.int p1)] maxLocals)) (T46.setTop (mkF m 131 #[.val (.int p1), .val (.int ((p1 &&& (2147483647 : Int32)) % (9 : Int32))), .val (.ref va), .val (.int vb)] [(.int (own_ends va a_ZERO a_INTEGER a_FRACTION a_EXPONENT))])) := fun t kk => k45 t (st46.trans kk)
  have hd : (own_ends va a_ZERO a_INTEGER a_FRACTION a_EXPONENT) = vb := hj1.1
  have k47 : Go p e below (s₁.setTop (entryFrame m #[(.int p1)] maxLocals)) (T46.setTop (mkF m 140 #[.val (.int p1), .val (.int ((p1 &&& (2147483647 : Int32)) % (9 : Int32))), .val (.ref va), .val (.int vb)] [(.int (1 : Int32))])) := fun t kk => k46 t (by
    show Steps p.tables e below (T46.setTop (mkF m 131 #[.val (.int p1), .val (.int ((p1 &&& (2147483647 : Int32)) % (9 : Int32))), .val (.ref va), .val (.int vb)] [(.int (own_ends va a_ZERO a_INTEGER a_FRACTION a_EXPONENT))])) _
    refine XS.iloadN X46.here hx rfl (hb hby at_131) rfl ?_
    show Steps p.tables e below (T46.setTop (mkF m 132 #[.val (.int p1), .val (.int ((p1 &&& (2147483647 : Int32)) % (9 : Int32))), .val (.ref va), .val (.int vb)] [(.int vb), (.int (own_ends va a_ZERO a_INTEGER a_FRACTION a_EXPONENT))])) _
    refine XS.icmpNo X46.here hx rfl (hb hby at_132) rfl (teq hd).2 ?_
    show Steps p.tables e below (T46.setTop (mkF m 135 #[.val (.int p1), .val (.int ((p1 &&& (2147483647 : Int32)) % (9 : Int32))), .val (.ref va), .val (.int vb)] [])) _
    refine XS.iconst X46.here hx rfl (hb hby at_135) ?_
    show Steps p.tables e below (T46.setTop (mkF m 136 #[.val (.int p1), .val (.int ((p1 &&& (2147483647 : Int32)) % (9 : Int32))), .val (.ref va), .val (.int vb)] [(.int (1 : Int32))])) _
    refine XS.goto X46.here hx rfl (pc0 := 136) (pc' := 140) rfl (hb hby at_136) (by decide) (by decide) ?_
    exact kk)
  obtain ⟨fs, hr, hrun, hended, hW, hsame⟩ := X46.leave (v := some (.int (1 : Int32))) (fun h => by rw [Bd.returns] at h; cases h)
  refine ⟨_, _, k47 _ ?_, hrun, hended, _, _, rfl, ?_, ⟨_, rfl⟩, hW, hsame.mono (by decide) (by decide)⟩
  · show Steps p.tables e below (T46.setTop (mkF m 140 #[.val (.int p1), .val (.int ((p1 &&& (2147483647 : Int32)) % (9 : Int32))), .val (.ref va), .val (.int vb)] [(.int (1 : Int32))])) _
    exact retN X46 hx (t := .boolean) Bd.returns (by simp) (hb hby at_140) hr
  · show Q0 Z p1 a_START a_MINUS a_ZERO a_INTEGER a_POINT a_FRACTION a_MARK a_SIGN a_EXPONENT h0 n0 _ T46.heap _
    rw [e46]
    exact ⟨rfl, N0⟩
set_option maxRecDepth 65536 in
set_option maxHeartbeats 40000000 in
theorem comes_1 {Post : Tables → Env → Array Value → State → Outcome → State → Prop} (hpost : ∀ tb e args s v u, (limb_1_1.after args s (.returned v) u = true ∧ limb_1_2.after args s (.returned v) u = true ∧ True) → FrameEnd s (.returned v) u (Jvm.fieldLocs frame_1_writes args s ++ Jvm.arrayLocs frame_1_arrays args s ++ Jvm.staticLocs frame_1_statics s) 0 0 → Post tb e args s (.returned v) u) :
    ArmFor flags0 classFile x code maxLocals ret World_1 tables_1 room_1 Calls_1 rest_1 Pre_1 Post := by
  intro l hfl _ _ p e ha hc hk s m args below hf hA hF happ hP
  obtain ⟨hcalls, hrest, hpre⟩ := hP
  obtain ⟨-, -, -, hnamed, -, -, -, hat⟩ := (Spec.applies_iff hf).mp happ
  obtain ⟨hg, hn⟩ := and_e (Cond.before_iff.mp (show (Jvm.Cond.and given_1 narrow_1).before args s = true from hpre))
  obtain ⟨g1, g2⟩ := and_e hg
  obtain ⟨w0, rfl⟩ : ∃ w0 : Value, args = #[w0] := by
    have hs : args.size = 1 := by simpa [Cond.value, given_1] using g1
    obtain ⟨L⟩ := args
    match L, hs with
    | [w0], _ => exact ⟨w0, rfl⟩
  have hw := fun d (hd : d ∈ tables_1) => atoms_spec (ws := Jvm.Cond.code x code maxLocals ret :: tables_1) hat d (List.mem_cons_of_mem _ hd)
  have hfit : Fit s := fun {y c} hc i hi => by
    obtain ⟨ha, rfl⟩ := Array.getElem?_eq_some_iff.mp hc
    have q := List.all_eq_true.mp ((Array.all_eq_true_iff_forall_mem.mp hF) _ (Array.getElem_mem ha)) i (List.mem_range.mpr hi)
    simpa [Array.getElem?_eq_getElem hi] using q
  obtain ⟨i0, ei0⟩ := is_v g2
  obtain rfl : w0 = (.int i0) := Option.some.inj ei0
  obtain ⟨m1, m2⟩ := and_e hn
  obtain ⟨m3, m4⟩ := and_e m2
  obtain ⟨m5, m6⟩ := and_e m4
  obtain ⟨m7, m8⟩ := and_e m6
  obtain ⟨m9, m10⟩ := and_e m8
  obtain ⟨m11, m12⟩ := and_e m10
  obtain ⟨m13, m14⟩ := and_e m12
  obtain ⟨m15, m16⟩ := and_e m14
  obtain ⟨m17, m18⟩ := and_e m16
  obtain ⟨m19, m20⟩ := and_e m18
  obtain ⟨m21, m22⟩ := and_e m20
  obtain ⟨m23, m24⟩ := and_e m22
  obtain ⟨m25, m26⟩ := and_e m24
  obtain ⟨m27, m28⟩ := and_e m26
  obtain ⟨m29, m30⟩ := and_e m28
  obtain ⟨m31, m32⟩ := and_e m30
  obtain ⟨m33, m34⟩ := and_e m32
  obtain ⟨a_START, va_START⟩ := exa_v m1
  have Sa_START := Sta.start va_START (Or.inr ⟨(hw _ (List.mem_of_getElem? (i := 2) rfl)), (hw _ (List.mem_of_getElem? (i := 3) rfl))⟩)
  have Ea_START := Exa.start va_START m1
  obtain ⟨a_ZERO, va_ZERO⟩ := exa_v m3
  have Sa_ZERO := Sta.start va_ZERO (Or.inr ⟨(hw _ (List.mem_of_getElem? (i := 2) rfl)), (hw _ (List.mem_of_getElem? (i := 10) rfl))⟩)
  have Ea_ZERO := Exa.start va_ZERO m3
  obtain ⟨a_INTEGER, va_INTEGER⟩ := exa_v m9
  have Sa_INTEGER := Sta.start va_INTEGER (Or.inr ⟨(hw _ (List.mem_of_getElem? (i := 2) rfl)), (hw _ (List.mem_of_getElem? (i := 12) rfl))⟩)
  have Ea_INTEGER := Exa.start va_INTEGER m9
  obtain ⟨a_FRACTION, va_FRACTION⟩ := exa_v m13
  have Sa_FRACTION := Sta.start va_FRACTION (Or.inr ⟨(hw _ (List.mem_of_getElem? (i := 2) rfl)), (hw _ (List.mem_of_getElem? (i := 14) rfl))⟩)
  have Ea_FRACTION := Exa.start va_FRACTION m13
  obtain ⟨a_EXPONENT, va_EXPONENT⟩ := exa_v m17
  have Sa_EXPONENT := Sta.start va_EXPONENT (Or.inr ⟨(hw _ (List.mem_of_getElem? (i := 2) rfl)), (hw _ (List.mem_of_getElem? (i := 16) rfl))⟩)
  have Ea_EXPONENT := Exa.start va_EXPONENT m17
  obtain ⟨a_MINUS, va_MINUS⟩ := exa_v m21
  have Sa_MINUS := Sta.start va_MINUS (Or.inr ⟨(hw _ (List.mem_of_getElem? (i := 2) rfl)), (hw _ (List.mem_of_getElem? (i := 20) rfl))⟩)
  have Ea_MINUS := Exa.start va_MINUS m21
  obtain ⟨a_SIGN, va_SIGN⟩ := exa_v m25
  have Sa_SIGN := Sta.start va_SIGN (Or.inr ⟨(hw _ (List.mem_of_getElem? (i := 2) rfl)), (hw _ (List.mem_of_getElem? (i := 22) rfl))⟩)
  have Ea_SIGN := Exa.start va_SIGN m25
  obtain ⟨a_POINT, va_POINT⟩ := exa_v m29
  have Sa_POINT := Sta.start va_POINT (Or.inr ⟨(hw _ (List.mem_of_getElem? (i := 2) rfl)), (hw _ (List.mem_of_getElem? (i := 24) rfl))⟩)
  have Ea_POINT := Exa.start va_POINT m29
  obtain ⟨a_MARK, va_MARK⟩ := exa_v m33
  have Sa_MARK := Sta.start va_MARK (Or.inr ⟨(hw _ (List.mem_of_getElem? (i := 2) rfl)), (hw _ (List.mem_of_getElem? (i := 27) rfl))⟩)
  have Ea_MARK := Exa.start va_MARK m33
  have eFa_START_ordinal := own_eqI m5
  rw [fld_at va_START] at eFa_START_ordinal
  have Fa_START_ordinal := Fld.start eFa_START_ordinal
  have eFa_ZERO_ordinal := own_eqI m7
  rw [fld_at va_ZERO] at eFa_ZERO_ordinal
  have Fa_ZERO_ordinal := Fld.start eFa_ZERO_ordinal
  have eFa_INTEGER_ordinal := own_eqI m11
  rw [fld_at va_INTEGER] at eFa_INTEGER_ordinal
  have Fa_INTEGER_ordinal := Fld.start eFa_INTEGER_ordinal
  have eFa_FRACTION_ordinal := own_eqI m15
  rw [fld_at va_FRACTION] at eFa_FRACTION_ordinal
  have Fa_FRACTION_ordinal := Fld.start eFa_FRACTION_ordinal
  have eFa_EXPONENT_ordinal := own_eqI m19
  rw [fld_at va_EXPONENT] at eFa_EXPONENT_ordinal
  have Fa_EXPONENT_ordinal := Fld.start eFa_EXPONENT_ordinal
  have eFa_MINUS_ordinal := own_eqI m23
  rw [fld_at va_MINUS] at eFa_MINUS_ordinal
  have Fa_MINUS_ordinal := Fld.start eFa_MINUS_ordinal
  have eFa_SIGN_ordinal := own_eqI m27
  rw [fld_at va_SIGN] at eFa_SIGN_ordinal
  have Fa_SIGN_ordinal := Fld.start eFa_SIGN_ordinal
  have eFa_POINT_ordinal := own_eqI m31
  rw [fld_at va_POINT] at eFa_POINT_ordinal
  have Fa_POINT_ordinal := Fld.start eFa_POINT_ordinal
  have eFa_MARK_ordinal := own_eqI m34
  rw [fld_at va_MARK] at eFa_MARK_ordinal
  have Fa_MARK_ordinal := Fld.start eFa_MARK_ordinal
  obtain ⟨n, o, h1, h2, h3, _, L, rfl, ⟨rfl, N⟩, hq⟩ := rm0 l s _ hw tables_1 i0 a_START a_MINUS a_ZERO a_INTEGER a_POINT a_FRACTION a_MARK a_SIGN a_EXPONENT s.heap s.heap.size (Nat.le_refl _) Sa_START Sa_MINUS Sa_ZERO Sa_INTEGER Sa_POINT Sa_FRACTION Sa_MARK Sa_SIGN Sa_EXPONENT Ea_START Ea_MINUS Ea_ZERO Ea_INTEGER Ea_POINT Ea_FRACTION Ea_MARK Ea_SIGN Ea_EXPONENT Fa_START_ordinal Fa_MINUS_ordinal Fa_ZERO_ordinal Fa_INTEGER_ordinal Fa_POINT_ordinal Fa_FRACTION_ordinal Fa_MARK_ordinal Fa_SIGN_ordinal Fa_EXPONENT_ordinal p e ha hc hk s m _ below hf ((Spec.applies_iff_loose hf).mp happ).1 ⟨rfl, State.Warmed39.refl s, rfl⟩ trivial
  refine ⟨n, _, h1, h2, h3, hpost _ _ _ _ _ _ ⟨Cond.after_iff.mpr rfl, Cond.after_iff.mpr (eq_i res_at (Term.int_eval (1)) rfl), trivial⟩ ⟨hq.1, hq.2.1, (hq.2.2.sift fun y hy => Or.inr (N y hy)).mono (by decide) (by decide)⟩⟩
theorem main_1_1 : Claimed_1_1 := comes_1 fun _ _ _ _ _ _ h hF => ⟨h.1, hF⟩
theorem main_1_2 : Claimed_1_2 := comes_1 fun _ _ _ _ _ _ h hF => ⟨h.2.1, hF⟩
end Jvm.Pilot.@@N@@
namespace Jvm.Pilot.@@N@@
open Jvm Jvm.ClassFile Sem Op Lib Jvm.Free Jvm.Stand Jvm.Pilot.@@N@@.Jvm.D
/-! MADE BY PROGRAM (witnessworld.py) out of the Statement's table words and the real class files: 12 classes; the members and pool entries that the words name. The judged class is class 1, her method 1. -/
namespace start1
open Jvm.ClassFile
def u (s : String) : CpInfo := .utf8 (stringToUtf16 s)
/-- a pool by its gaps: so many unusable entries, then the entry; so many at the end -/
def gap : Nat → List CpInfo → List CpInfo
  | 0, r => r
  | n + 1, r => .unusable :: gap n r
def poolList (es : List (Nat × CpInfo)) (last : Nat) : List CpInfo := es.foldr (fun e r => gap e.1 (e.2 :: r)) (gap last [])
def pool (es : List (Nat × CpInfo)) (last : Nat) : Array CpInfo := ⟨poolList es last⟩
def fileOf (pool : Array CpInfo) (this : Nat) (attrs : Array Attribute := #[]) (ms : Array MethodInfo := #[]) (fl : Nat := 33) (sup : Nat := 0) (ifs : Array Nat := #[]) (fds : Array FieldInfo := #[]) : ClassFile where
  minorVersion := 0
  majorVersion := 65
  constantPool := pool
  accessFlags := fl
  thisClass := this
  superClass := sup
  interfaces := ifs
  fields := fds
  methods := ms
  attributes := attrs
def plain (name : String) (sup : Option ClassId) : Class where
  name := name
  kind := .ordinary
  loader := none
  accessFlags := 33
  super := sup
  interfaces := #[]
  cf := none
  fields := #[]
  methods := #[]
  instanceTypes := #[]
  staticTypes := #[]
  resolved := #[]
  callSites := []
  init := .initialized
  statics := none
  mirror := none

def pool0 : Array CpInfo := pool [(5, u "<init>"), (0, u "()V"), (1, .class_ 10), (1, u "java/lang/Object")] 113

def k0m0 : Method := { name := "<init>", desc := "()V", sig := { parameters := [], returnType := none }, accessFlags := 1, code := none }
/-- java/lang/Object -/
def k0 : Class := { plain "java/lang/Object" none with
  accessFlags := 33
  interfaces := #[]
  cf := some (fileOf pool0 8 #[] #[{ accessFlags := 1, nameIndex := 5, descriptorIndex := 6, attributes := #[] }] 33 0 #[] #[])
  fields := #[]
  methods := #[k0m0]
  instanceTypes := #[]
  staticTypes := #[]
  resolved := Array.replicate 124 none
  statics := none }

def pool1 : Array CpInfo := pool [(2, .class_ 4), (1, u "java/lang/Object"), (0, u "<init>"), (0, u "()V"), (0, .integer 2147483647), (0, .fieldref 9 10), (0, .class_ 11), (0, .nameAndType 12 13), (0, u "com/example/darn6/darn6/JsonNumber$Grammar"), (0, u "START"), (0, u "Lcom/example/darn6/darn6/JsonNumber$Grammar;"), (0, .fieldref 9 15), (0, .nameAndType 16 13), (0, u "MINUS"), (0, .fieldref 9 18), (0, .nameAndType 19 13), (0, u "ZERO"), (0, .fieldref 9 21), (0, .nameAndType 22 13), (0, u "INTEGER"), (0, .fieldref 9 24), (0, .nameAndType 25 13), (0, u "POINT"), (0, .fieldref 9 27), (0, .nameAndType 28 13), (0, u "FRACTION"), (0, .fieldref 9 30), (0, .nameAndType 31 13), (0, u "MARK"), (0, .fieldref 9 33), (0, .nameAndType 34 13), (0, u "SIGN"), (0, .fieldref 9 36), (0, .nameAndType 37 13), (0, u "EXPONENT"), (0, .methodref 9 39), (0, .nameAndType 40 41), (0, u "endsNumber"), (0, u "()Z"), (0, .class_ 43), (0, u "com/example/darn6/darn6/GrammarEndsNumberPinLaw"), (2, u "law"), (0, u "(I)Z")] 7

def k1m0 : Method := { name := "<init>", desc := "()V", sig := { parameters := [], returnType := none }, accessFlags := 2, code := none }
def k1c1 : Code := { maxStack := 2, maxLocals := 4, code := code, exceptionTable := #[], attributes := #[] }
def k1m1 : Method := { name := "law", desc := "(I)Z", sig := { parameters := [.int], returnType := some .boolean }, accessFlags := 9, code := some k1c1 }
/-- com/example/darn6/darn6/GrammarEndsNumberPinLaw -/
def k1 : Class := { plain "com/example/darn6/darn6/GrammarEndsNumberPinLaw" (some 0) with
  accessFlags := 49
  interfaces := #[]
  cf := some (fileOf pool1 42 #[] #[{ accessFlags := 2, nameIndex := 5, descriptorIndex := 6, attributes := #[] }, { accessFlags := 9, nameIndex := 46, descriptorIndex := 47, attributes := #[] }] 49 2 #[] #[])
  fields := #[]
  methods := #[k1m0, k1m1]
  instanceTypes := #[]
  staticTypes := #[]
  resolved := Array.replicate 55 none
  statics := none }

def pool2 : Array CpInfo := pool [(1, .class_ 2), (0, u "java/lang/constant/Constable"), (0, .class_ 4), (0, u "java/lang/Object")] 6

/-- java/lang/constant/Constable -/
def k2 : Class := { plain "java/lang/constant/Constable" (some 0) with
  accessFlags := 1537
  interfaces := #[]
  cf := some (fileOf pool2 1 #[] #[] 1537 3 #[] #[])
  fields := #[]
  methods := #[]
  instanceTypes := #[]
  staticTypes := #[]
  resolved := Array.replicate 11 none
  statics := none }

def pool3 : Array CpInfo := pool [(1, .class_ 2), (0, u "java/lang/Comparable"), (0, .class_ 4), (0, u "java/lang/Object")] 7

/-- java/lang/Comparable -/
def k3 : Class := { plain "java/lang/Comparable" (some 0) with
  accessFlags := 1537
  interfaces := #[]
  cf := some (fileOf pool3 1 #[] #[] 1537 3 #[] #[])
  fields := #[]
  methods := #[]
  instanceTypes := #[]
  staticTypes := #[]
  resolved := Array.replicate 12 none
  statics := none }

def pool4 : Array CpInfo := pool [(1, .class_ 2), (0, u "java/io/Serializable"), (0, .class_ 4), (0, u "java/lang/Object")] 2

/-- java/io/Serializable -/
def k4 : Class := { plain "java/io/Serializable" (some 0) with
  accessFlags := 1537
  interfaces := #[]
  cf := some (fileOf pool4 1 #[] #[] 1537 3 #[] #[])
  fields := #[]
  methods := #[]
  instanceTypes := #[]
  staticTypes := #[]
  resolved := Array.replicate 7 none
  statics := none }

def pool5 : Array CpInfo := pool [(2, .class_ 4), (1, u "java/lang/Enum"), (0, u "name"), (0, u "Ljava/lang/String;"), (2, u "ordinal"), (0, u "I"), (1, .class_ 14), (1, u "java/lang/Object"), (4, u "hash"), (86, .class_ 108), (1, u "java/lang/Enum$EnumDesc"), (2, .class_ 112), (0, u "java/lang/constant/Constable"), (0, .class_ 114), (0, u "java/lang/Comparable"), (0, .class_ 116), (0, u "java/io/Serializable")] 87

/-- java/lang/Enum -/
def k5 : Class := { plain "java/lang/Enum" (some 0) with
  accessFlags := 1057
  interfaces := #[2, 3, 4]
  cf := some (fileOf pool5 2 #[.nestMembers #[106]] #[] 1057 12 #[111, 113, 115] #[{ accessFlags := 18, nameIndex := 5, descriptorIndex := 6, attributes := #[] }, { accessFlags := 18, nameIndex := 9, descriptorIndex := 10, attributes := #[] }, { accessFlags := 2, nameIndex := 19, descriptorIndex := 10, attributes := #[] }])
  fields := #[{ name := "name", type := (.object "java/lang/String"), accessFlags := 18, slot := 0, constantValue := 0 }, { name := "ordinal", type := .int, accessFlags := 18, slot := 1, constantValue := 0 }, { name := "hash", type := .int, accessFlags := 2, slot := 2, constantValue := 0 }]
  methods := #[]
  instanceTypes := #[(.object "java/lang/String"), .int, .int]
  staticTypes := #[]
  resolved := Array.replicate 204 none
  statics := none }

def pool6 : Array CpInfo := pool [(1, .class_ 2), (0, u "com/example/darn6/darn6/JsonNumber$Grammar"), (2, u "START"), (0, u "Lcom/example/darn6/darn6/JsonNumber$Grammar;"), (2, u "MINUS"), (0, .fieldref 1 11), (0, .nameAndType 12 6), (0, u "ZERO"), (0, .fieldref 1 14), (0, .nameAndType 15 6), (0, u "INTEGER"), (2, u "POINT"), (0, .fieldref 1 20), (0, .nameAndType 21 6), (0, u "FRACTION"), (2, u "MARK"), (2, u "SIGN"), (0, .fieldref 1 29), (0, .nameAndType 30 6), (0, u "EXPONENT"), (2, u "$VALUES"), (0, u "[Lcom/example/darn6/darn6/JsonNumber$Grammar;"), (6, .class_ 43), (1, u "java/lang/Enum"), (35, u "()Z"), (2, u "endsNumber"), (29, .class_ 113), (0, u "com/example/darn6/darn6/JsonNumber")] 2

def k6c0 : Code := { maxStack := 2, maxLocals := 1, code := prog_40_method_5_code, exceptionTable := #[], attributes := #[] }
def k6m0 : Method := { name := "endsNumber", desc := "()Z", sig := { parameters := [], returnType := some .boolean }, accessFlags := 0, code := some k6c0 }
/-- com/example/darn6/darn6/JsonNumber$Grammar -/
def k6 : Class := { plain "com/example/darn6/darn6/JsonNumber$Grammar" (some 5) with
  accessFlags := 16432
  interfaces := #[]
  cf := some (fileOf pool6 1 #[.nestHost 112] #[{ accessFlags := 0, nameIndex := 82, descriptorIndex := 79, attributes := #[] }] 16432 41 #[] #[{ accessFlags := 16409, nameIndex := 5, descriptorIndex := 6, attributes := #[] }, { accessFlags := 16409, nameIndex := 9, descriptorIndex := 6, attributes := #[] }, { accessFlags := 16409, nameIndex := 12, descriptorIndex := 6, attributes := #[] }, { accessFlags := 16409, nameIndex := 15, descriptorIndex := 6, attributes := #[] }, { accessFlags := 16409, nameIndex := 18, descriptorIndex := 6, attributes := #[] }, { accessFlags := 16409, nameIndex := 21, descriptorIndex := 6, attributes := #[] }, { accessFlags := 16409, nameIndex := 24, descriptorIndex := 6, attributes := #[] }, { accessFlags := 16409, nameIndex := 27, descriptorIndex := 6, attributes := #[] }, { accessFlags := 16409, nameIndex := 30, descriptorIndex := 6, attributes := #[] }, { accessFlags := 4122, nameIndex := 33, descriptorIndex := 34, attributes := #[] }])
  fields := #[{ name := "START", type := (.object "com/example/darn6/darn6/JsonNumber$Grammar"), accessFlags := 16409, slot := 0, constantValue := 0 }, { name := "MINUS", type := (.object "com/example/darn6/darn6/JsonNumber$Grammar"), accessFlags := 16409, slot := 1, constantValue := 0 }, { name := "ZERO", type := (.object "com/example/darn6/darn6/JsonNumber$Grammar"), accessFlags := 16409, slot := 2, constantValue := 0 }, { name := "INTEGER", type := (.object "com/example/darn6/darn6/JsonNumber$Grammar"), accessFlags := 16409, slot := 3, constantValue := 0 }, { name := "POINT", type := (.object "com/example/darn6/darn6/JsonNumber$Grammar"), accessFlags := 16409, slot := 4, constantValue := 0 }, { name := "FRACTION", type := (.object "com/example/darn6/darn6/JsonNumber$Grammar"), accessFlags := 16409, slot := 5, constantValue := 0 }, { name := "MARK", type := (.object "com/example/darn6/darn6/JsonNumber$Grammar"), accessFlags := 16409, slot := 6, constantValue := 0 }, { name := "SIGN", type := (.object "com/example/darn6/darn6/JsonNumber$Grammar"), accessFlags := 16409, slot := 7, constantValue := 0 }, { name := "EXPONENT", type := (.object "com/example/darn6/darn6/JsonNumber$Grammar"), accessFlags := 16409, slot := 8, constantValue := 0 }, { name := "$VALUES", type := (.array (.object "com/example/darn6/darn6/JsonNumber$Grammar")), accessFlags := 4122, slot := 9, constantValue := 0 }]
  methods := #[k6m0]
  instanceTypes := #[(.object "java/lang/String"), .int, .int]
  staticTypes := #[(.object "com/example/darn6/darn6/JsonNumber$Grammar"), (.object "com/example/darn6/darn6/JsonNumber$Grammar"), (.object "com/example/darn6/darn6/JsonNumber$Grammar"), (.object "com/example/darn6/darn6/JsonNumber$Grammar"), (.object "com/example/darn6/darn6/JsonNumber$Grammar"), (.object "com/example/darn6/darn6/JsonNumber$Grammar"), (.object "com/example/darn6/darn6/JsonNumber$Grammar"), (.object "com/example/darn6/darn6/JsonNumber$Grammar"), (.object "com/example/darn6/darn6/JsonNumber$Grammar"), (.array (.object "com/example/darn6/darn6/JsonNumber$Grammar"))]
  resolved := Array.replicate 116 none
  statics := some 0 }

def pool7 : Array CpInfo := pool [(1, u "java/lang/Cloneable"), (0, .class_ 1), (0, u "java/lang/Object"), (0, .class_ 3)] 3

/-- java/lang/Cloneable -/
def k7 : Class := { plain "java/lang/Cloneable" (some 0) with
  accessFlags := 1537
  interfaces := #[]
  cf := some (fileOf pool7 2 #[] #[] 1537 4 #[] #[])
  fields := #[]
  methods := #[]
  instanceTypes := #[]
  staticTypes := #[]
  resolved := Array.replicate 8 none
  statics := none }

/-- the primitive byte -/
def k8 : Class := { plain "byte" none with kind := .primitive 'B', accessFlags := 0x411 }
/-- [B -/
def k9 : Class := { plain "[B" (some 0) with kind := .array 8 .byte, interfaces := #[7, 4], accessFlags := 1041 }

/-- the primitive int -/
def k10 : Class := { plain "int" none with kind := .primitive 'I', accessFlags := 0x411 }
/-- [I -/
def k11 : Class := { plain "[I" (some 0) with kind := .array 10 .int, interfaces := #[7, 4], accessFlags := 1041 }

def heap : Heap := #[{ cls := 6, slots := #[.ref 1, .ref 2, .ref 3, .ref 4, .ref 5, .ref 6, .ref 7, .ref 8, .ref 9, .null], vm := .statics 6 },
  { cls := 6, slots := #[.null, .int 0, .int 0], vm := .none },
  { cls := 6, slots := #[.null, .int 1, .int 0], vm := .none },
  { cls := 6, slots := #[.null, .int 2, .int 0], vm := .none },
  { cls := 6, slots := #[.null, .int 3, .int 0], vm := .none },
  { cls := 6, slots := #[.null, .int 4, .int 0], vm := .none },
  { cls := 6, slots := #[.null, .int 5, .int 0], vm := .none },
  { cls := 6, slots := #[.null, .int 6, .int 0], vm := .none },
  { cls := 6, slots := #[.null, .int 7, .int 0], vm := .none },
  { cls := 6, slots := #[.null, .int 8, .int 0], vm := .none }]
def classes : Array Class := #[k0, k1, k2, k3, k4, k5, k6, k7, k8, k9, k10, k11]
def interned : List (Array UInt16 × Addr) := []
def slotsUsed : Nat := 37
def theMethod : MethodId := ⟨1, 1⟩
def args0 : Array Value := #[.int 5]
def aboutOver (below : List Frame) : State where
  vm := { classes := classes, interned := interned.toArray }
  heap := heap
  slotsUsed := slotsUsed
  threads := #[{ frames := .invoking theMethod args0 :: below }]
def below0 : List Frame := [.native { method := ⟨0, 0⟩, args := #[] }]
def about1 : State := aboutOver below0
def p0 : Program := .bare "" "" ""
def e0 : Env := launch0.env 0 0 0
theorem w_frames : about1.frames = Frame.invoking theMethod args0 :: below0 := rfl
set_option maxRecDepth 65536 in
theorem w_args : argsFit about1.vm theMethod args0 = true := by decide +kernel
set_option maxRecDepth 65536 in
theorem w_heap : heapFits about1 = true := by decide +kernel
set_option maxRecDepth 65536 in
theorem w_runnable : about1.curStatus? = some .runnable := by decide +kernel
set_option maxRecDepth 65536 in
theorem w_alone : about1.alone = true := by decide +kernel
set_option maxRecDepth 65536 in
theorem w_named : about1.methodNamed? x = some theMethod := by decide +kernel
set_option maxRecDepth 65536 in
theorem w_hears : about1.hears theMethod below0 = true := by decide +kernel
set_option maxRecDepth 65536 in
theorem w_ripe : about1.ripe theMethod args0 below0 = true := by decide +kernel
theorem w_running : about1.status = .running := rfl
set_option maxRecDepth 65536 in
theorem w_room : about1.hasRoom e0.platform room_1 = true :=
  launch0.hasRoom_least _ room_1 (by decide +kernel) (by decide +kernel) (by decide +kernel) (by decide +kernel) (by decide +kernel) (by decide +kernel)
theorem allAtoms_all (ts : List Jvm.Cond) (a : Array Jvm.Value) (st : Jvm.State) : (allAtoms ts).before a st = ts.all (fun c => c.before a st) := by
  induction ts with
  | nil => rfl
  | cons c t ih =>
    show (Jvm.Cond.and c (allAtoms t)).before a st = _
    rw [Jvm.Cond.before_and, ih, List.all_cons]
def words1 : List Jvm.Cond := Jvm.Cond.code x code maxLocals ret :: tables_1
/-- a 'code' word, met by the world's own term for the bytes: nothing is compared byte by byte -/
theorem code_word {y : MethodName} {bytes : ByteArray} {mx : Nat} {rt : Option FieldType} {a : Array Value} {s : State} {m : MethodId} {meth : Method} {c : Code} (h1 : s.methodNamed? y = some m) (h2 : s.vm.method? m = some meth) (h3 : meth.code = some c) (h4 : c.code = bytes)
    (h5 : (c.maxLocals == mx && c.exceptionTable.isEmpty && decide (c.maxStack ≤ mostOperands) && decide (meth.sig.returnType = rt) && !meth.locks && decide (parseMethodDescriptor y.desc = some meth.sig)) = true) : (Jvm.Cond.code y bytes mx rt).before a s = true := by
  simp only [Bool.and_eq_true, beq_iff_eq, Bool.not_eq_true', decide_eq_true_eq] at h5
  obtain ⟨⟨⟨⟨⟨g1, g2⟩, g3⟩, g4⟩, g5⟩, g6⟩ := h5
  simp [Cond.before, Cond.holds, Cond.value, h1, h2, h3, h4, g1, g2, g3, g4, g5, g6]
def isCode : Jvm.Cond → Bool
  | .code _ _ _ _ => true
  | _ => false
theorem all_split {L : List Jvm.Cond} {P : Jvm.Cond → Bool} (h1 : L.all (fun c => isCode c || P c) = true) (h2 : ∀ c ∈ L.filter isCode, P c = true) : L.all P = true := by
  refine List.all_eq_true.mpr fun c hc => ?_
  have h := List.all_eq_true.mp h1 c hc
  rcases Bool.eq_false_or_eq_true (isCode c) with hi | hi
  · exact h2 c (List.mem_filter.mpr ⟨hc, hi⟩)
  · simpa [hi] using h
set_option maxRecDepth 65536 in
theorem w_c0 : (Jvm.Cond.code x code maxLocals ret).before args0 about1 = true := code_word (m := ⟨1, 1⟩) (meth := k1m1) (c := k1c1) (by decide +kernel) rfl rfl rfl (by decide +kernel)
set_option maxRecDepth 65536 in
theorem w_c1 : (Jvm.Cond.code ({ cls := "com/example/darn6/darn6/JsonNumber$Grammar", name := "endsNumber", desc := "()Z" } : Jvm.MethodName) prog_40_method_5_code (1 : Nat) (Option.some Jvm.ClassFile.FieldType.boolean)).before args0 about1 = true := code_word (m := ⟨6, 0⟩) (meth := k6m0) (c := k6c0) (by decide +kernel) rfl rfl rfl (by decide +kernel)
def codes1 : List Jvm.Cond := [Jvm.Cond.code x code maxLocals ret, Jvm.Cond.code ({ cls := "com/example/darn6/darn6/JsonNumber$Grammar", name := "endsNumber", desc := "()Z" } : Jvm.MethodName) prog_40_method_5_code (1 : Nat) (Option.some Jvm.ClassFile.FieldType.boolean)]
set_option maxRecDepth 65536 in
theorem codes_eq : words1.filter isCode = codes1 := rfl
theorem w_codes : ∀ c ∈ words1.filter isCode, c.before args0 about1 = true := by
  rw [codes_eq]
  intro c hc
  simp only [codes1, List.mem_cons, List.not_mem_nil, or_false] at hc
  rcases hc with rfl | rfl
  · exact w_c0
  · exact w_c1
set_option maxRecDepth 65536 in
theorem w_t1 : (words1.take 24).all (fun c => isCode c || c.before args0 about1) = true := by decide +kernel
set_option maxRecDepth 65536 in
theorem w_t2 : (words1.drop 24).all (fun c => isCode c || c.before args0 about1) = true := by decide +kernel
theorem w_tables : (allAtoms (Jvm.Cond.code x code maxLocals ret :: tables_1)).before args0 about1 = true := by
  rw [allAtoms_all]
  show words1.all (fun c => c.before args0 about1) = true
  refine all_split ?_ w_codes
  rw [← List.take_append_drop 24 words1, List.all_append, w_t1, w_t2]
  rfl
set_option maxRecDepth 65536 in
theorem w_case : (Jvm.Cond.and given_1 narrow_1).before args0 about1 = true := by decide +kernel
theorem w_applies : (headSpec (Jvm.Cond.code x code maxLocals ret :: tables_1) room_1).applies x e0.platform about1 = true :=
  (Spec.applies_iff w_frames).mpr ⟨w_running, w_runnable, w_alone, w_named, w_hears, w_ripe, w_room, w_tables⟩
theorem atStart : AtStart classFile x code maxLocals ret World_1 tables_1 room_1 Calls_1 rest_1 Pre_1 launch0 p0 e0 about1 theMethod args0 below0 :=
  ⟨lists_1, trivial, launch0.admits_env _ _ _, launch0.least_env, fairChoices_fair.cas, fairChoices_fair.clock, w_frames, w_args, w_heap, w_applies, trivial, trivial, w_case⟩
end start1
theorem witness_1 : WitnessClaimed_1 := ⟨start1.p0, start1.e0, start1.about1, start1.theMethod, start1.args0, start1.below0, start1.atStart⟩
end Jvm.Pilot.@@N@@
