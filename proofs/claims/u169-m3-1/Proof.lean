import JvmDerived
import JvmDerived.Pilot.@@N@@Statement
import JvmDerived.Pilot.@@N@@Code
set_option linter.unusedVariables false
set_option linter.unusedSimpArgs false
namespace Jvm.RoadKit
open Sem ClassFile Op Lib Jvm.Stand Jvm.Free Jvm.LawKit
section New
variable {p : Program} {l : Launch} {e : Env} {R : Room} {s : State} {m : MethodId} {args : Array Value} {below : List Frame} {meth : Method} {c : Code} {T : State} {locs : List Loc} {cells slots : Nat}
theorem retI (X : Stand p l e R s m args below meth c T locs cells slots) (hx : p.tables.exec = Jvm.exec) {pc : Nat} {Ls : Array Slot} {z : Int32} {rest : List Value} (hret : meth.sig.returnType = some .int) (hd : decode c.code pc = .ok (.ireturn, 1)) {fs : List Frame}
    (hl : ∀ (f : JFrame) (acts : List Action), f.method = m → f.locked = none → f.entered = [] → (doReturn e (T.setTop f) acts (some (.int z))).1 = T.setFrames fs) : Steps p.tables e below (T.setTop (mkF m pc Ls (.int z :: rest))) (T.setFrames fs) := by
  have hm' : T.vm.method? m = some meth := X.method'
  have hn : narrow .int (.int z) = .int z := rfl
  show Steps p.tables e below (T.setTop { method := m, pc := pc, locals := Ls, stack := _ :: rest, locked := none }) _
  jvm_step X.here [X.here.top, hx, hd, hm', hret, hn]
  first | (intro acts; rw [hl _ acts rfl rfl rfl]) | rw [hl _ _ rfl rfl rfl]
  exact Steps.refl _
/-- whatever is reached from the one state is reached from the other -/
def Go (p : Program) (e : Env) (below : List Frame) (A B : State) : Prop := ∀ t, Steps p.tables e below B t → Steps p.tables e below A t
end New
end Jvm.RoadKit
namespace Jvm.Pilot.@@N@@
open Jvm Jvm.ClassFile Sem Op Lib Jvm.Free Jvm.Stand Jvm.LawKit Jvm.RoadKit Bundle Jvm.Pilot.@@N@@.Jvm.D
def own_dig (c : Int32) : Int32 := if c < 48 then 0 else if 57 < c then 0 else 1
theorem own_dig01 (c : Int32) : nar .boolean (own_dig c) = own_dig c := by
  unfold own_dig; split
  · rfl
  · split <;> rfl
def own_exp (c : Int32) : Int32 := if c = 48 then 1 else if c = 49 then 1 else if c = 50 then 1 else if c = 51 then 1 else if c = 52 then 1 else if c = 53 then 1 else if c = 54 then 1 else if c = 55 then 1 else if c = 56 then 1 else if c = 57 then 1 else 0
theorem own_same (c : Int32) : own_dig c = own_exp c := by
  have e : ∀ k : Int32, (c = k ↔ c.toInt = k.toInt) := fun k => Int32.toInt_inj.symm
  simp only [own_dig, own_exp, e, Int32.lt_iff_toInt_lt]
  have h : ∀ n : Int32, n.toInt = n.toInt := fun _ => rfl
  simp only [show (48 : Int32).toInt = 48 from rfl, show (49 : Int32).toInt = 49 from rfl, show (50 : Int32).toInt = 50 from rfl, show (51 : Int32).toInt = 51 from rfl, show (52 : Int32).toInt = 52 from rfl, show (53 : Int32).toInt = 53 from rfl, show (54 : Int32).toInt = 54 from rfl, show (55 : Int32).toInt = 55 from rfl, show (56 : Int32).toInt = 56 from rfl, show (57 : Int32).toInt = 57 from rfl]
  generalize c.toInt = z
  by_cases h1 : z < 48
  · rw [if_pos h1]
    repeat rw [if_neg (by omega)]
  · rw [if_neg h1]
    by_cases h2 : 57 < z
    · rw [if_pos h2]
      repeat rw [if_neg (by omega)]
    · rw [if_neg h2]
      have : z = 48 ∨ z = 49 ∨ z = 50 ∨ z = 51 ∨ z = 52 ∨ z = 53 ∨ z = 54 ∨ z = 55 ∨ z = 56 ∨ z = 57 := by omega
      rcases this with rfl | rfl | rfl | rfl | rfl | rfl | rfl | rfl | rfl | rfl <;> rfl
theorem dprog_40_method_8_code_0 : decode prog_40_method_8_code 0 = .ok (.iload_n 0, 1) := by decide +kernel
theorem dprog_40_method_8_code_1 : decode prog_40_method_8_code 1 = .ok (.bipush 48, 2) := by decide +kernel
theorem dprog_40_method_8_code_3 : decode prog_40_method_8_code 3 = .ok (.if_icmp .lt 13, 3) := by decide +kernel
theorem dprog_40_method_8_code_16 : decode prog_40_method_8_code 16 = .ok (.iconst 0, 1) := by decide +kernel
theorem dprog_40_method_8_code_6 : decode prog_40_method_8_code 6 = .ok (.iload_n 0, 1) := by decide +kernel
theorem dprog_40_method_8_code_7 : decode prog_40_method_8_code 7 = .ok (.bipush 57, 2) := by decide +kernel
theorem dprog_40_method_8_code_9 : decode prog_40_method_8_code 9 = .ok (.if_icmp .gt 7, 3) := by decide +kernel
theorem dprog_40_method_8_code_12 : decode prog_40_method_8_code 12 = .ok (.iconst 1, 1) := by decide +kernel
theorem dprog_40_method_8_code_13 : decode prog_40_method_8_code 13 = .ok (.goto 4, 3) := by decide +kernel
theorem dprog_40_method_8_code_17 : decode prog_40_method_8_code 17 = .ok (.ireturn, 1) := by decide +kernel
theorem ef_rmI (m : MethodId) (x0 : Int32) : entryFrame m #[(.int x0)] 1 = mkF m 0 #[.val (.int x0)] [] := by first | (simp [entryFrame, mkF, argsToLocals, Value.category]; done) | rfl
def QI (Z : State) (p1 : Int32) (h0 : Heap) (n0 : Nat) (v : Option Value) (h : Heap) (L : List Loc) : Prop := v = some (.int (own_dig p1)) ∧ L = [] ∧ h = h0
theorem pn_0 : plainName "com/example/darn6/darn6/JsonNumber$Grammar" = true := by first | (simp [plainName, overriddenIn]; done) | decide +kernel
set_option maxRecDepth 65536 in
set_option maxHeartbeats 40000000 in
theorem rmI (l : Launch) (Z : State) (a0 : Array Value) (hw : ∀ d ∈ tables_1, d.before a0 Z = true) (ws : List Jvm.Cond) (p1 : Int32) (h0 : Heap) (n0 : Nat) (Z0 : n0 ≤ h0.size) :
    MetFree l (⟨"com/example/darn6/darn6/JsonNumber$Grammar", "isDigit", "(I)Z"⟩ : MethodName) (head1 (Jvm.Cond.code (⟨"com/example/darn6/darn6/JsonNumber$Grammar", "isDigit", "(I)Z"⟩ : MethodName) prog_40_method_8_code 1 (some .boolean) :: ws) ({ frames := 0, cells := 0, slots := 0, locals := 0 } : Room)) (fun a U => a = #[(.int p1)] ∧ Z.Warmed39 U.vm ∧ U.heap = h0) (fun _ _ _ _ _ => True) (fun _ U o U' => ∃ v L, o = .returned v ∧ QI Z p1 h0 n0 v U'.heap L ∧ FrameEnd U o U' L ({ frames := 0, cells := 0, slots := 0, locals := 0 } : Room).cells ({ frames := 0, cells := 0, slots := 0, locals := 0 } : Room).slots) := by
  refine MetFree.of_bodySF (plainFor_of_name pn_0) hisR ?_
  intro p e s m args below meth c s₁ Bd hml0 hP hK
  obtain ⟨rfl, hZ, hh⟩ := hP
  have hx := Bd.exec
  have hby := Bd.bytes
  have hml : c.maxLocals = 1 := hml0
  have hown : s.vm.findClass "com/example/darn6/darn6/JsonNumber$Grammar" = some m.cls := findClass_of_methodNamed Bd.named
  have hnm := (name_of_methodNamed Bd.named Bd.method).1
  have X0 : Stand p l e ({ frames := 0, cells := 0, slots := 0, locals := 0 } : Room) s m #[(.int p1)] below meth c s₁ [] 0 0 := Stand.of_body Bd
  have e0 : s₁.heap = h0 := by rw [← hh, Bd.state]; rfl
  have N0 := Fr.nil n0
  have k0 : Go p e below (s₁.setTop (entryFrame m #[(.int p1)] 1)) (s₁.setTop (mkF m 0 #[.val (.int p1)] [])) := fun t k => castTop (ef_rmI m p1) k
  obtain ⟨v1, hj1, k1⟩ : ∃ v1 : Int32, (v1 = own_dig p1) ∧ Go p e below (s₁.setTop (entryFrame m #[(.int p1)] 1)) (s₁.setTop (mkF m 17 #[.val (.int p1)] [(.int v1)])) := by
    have k3 : Go p e below (s₁.setTop (entryFrame m #[(.int p1)] 1)) (s₁.setTop (mkF m 3 #[.val (.int p1)] [(.int (48 : Int32)), (.int p1)])) := fun t kk => k0 t (by
      show Steps p.tables e below (s₁.setTop (mkF m 0 #[.val (.int p1)] [])) _
      refine XS.iloadN X0.here hx rfl (hb hby dprog_40_method_8_code_0) rfl ?_
      show Steps p.tables e below (s₁.setTop (mkF m 1 #[.val (.int p1)] [(.int p1)])) _
      refine XS.bipush X0.here hx rfl (hb hby dprog_40_method_8_code_1) ?_
      exact kk)
    by_cases hc3_2 : p1 < (48 : Int32)
    · have k4 : Go p e below (s₁.setTop (entryFrame m #[(.int p1)] 1)) (s₁.setTop (mkF m 17 #[.val (.int p1)] [(.int (0 : Int32))])) := fun t kk => k3 t (by
        show Steps p.tables e below (s₁.setTop (mkF m 3 #[.val (.int p1)] [(.int (48 : Int32)), (.int p1)])) _
        refine XS.icmpYes X0.here hx rfl (pc0 := 3) (pc' := 16) rfl (hb hby dprog_40_method_8_code_3) rfl (tlt hc3_2).1 (by decide) (by decide) ?_
        show Steps p.tables e below (s₁.setTop (mkF m 16 #[.val (.int p1)] [])) _
        refine XS.iconst X0.here hx rfl (hb hby dprog_40_method_8_code_16) ?_
        exact kk)
      exact ⟨(0 : Int32), by simp [own_dig, hc3_2], k4⟩
    · have k6 : Go p e below (s₁.setTop (entryFrame m #[(.int p1)] 1)) (s₁.setTop (mkF m 9 #[.val (.int p1)] [(.int (57 : Int32)), (.int p1)])) := fun t kk => k3 t (by
        show Steps p.tables e below (s₁.setTop (mkF m 3 #[.val (.int p1)] [(.int (48 : Int32)), (.int p1)])) _
        refine XS.icmpNo X0.here hx rfl (hb hby dprog_40_method_8_code_3) rfl (flt hc3_2).1 ?_
        show Steps p.tables e below (s₁.setTop (mkF m 6 #[.val (.int p1)] [])) _
        refine XS.iloadN X0.here hx rfl (hb hby dprog_40_method_8_code_6) rfl ?_
        show Steps p.tables e below (s₁.setTop (mkF m 7 #[.val (.int p1)] [(.int p1)])) _
        refine XS.bipush X0.here hx rfl (hb hby dprog_40_method_8_code_7) ?_
        exact kk)
      by_cases hc9_5 : (57 : Int32) < p1
      · have k7 : Go p e below (s₁.setTop (entryFrame m #[(.int p1)] 1)) (s₁.setTop (mkF m 17 #[.val (.int p1)] [(.int (0 : Int32))])) := fun t kk => k6 t (by
          show Steps p.tables e below (s₁.setTop (mkF m 9 #[.val (.int p1)] [(.int (57 : Int32)), (.int p1)])) _
          refine XS.icmpYes X0.here hx rfl (pc0 := 9) (pc' := 16) rfl (hb hby dprog_40_method_8_code_9) rfl (tlt hc9_5).2.2.1 (by decide) (by decide) ?_
          show Steps p.tables e below (s₁.setTop (mkF m 16 #[.val (.int p1)] [])) _
          refine XS.iconst X0.here hx rfl (hb hby dprog_40_method_8_code_16) ?_
          exact kk)
        exact ⟨(0 : Int32), by simp [own_dig, hc3_2, hc9_5], k7⟩
      · have k8 : Go p e below (s₁.setTop (entryFrame m #[(.int p1)] 1)) (s₁.setTop (mkF m 17 #[.val (.int p1)] [(.int (1 : Int32))])) := fun t kk => k6 t (by
          show Steps p.tables e below (s₁.setTop (mkF m 9 #[.val (.int p1)] [(.int (57 : Int32)), (.int p1)])) _
          refine XS.icmpNo X0.here hx rfl (hb hby dprog_40_method_8_code_9) rfl (flt hc9_5).2.2.1 ?_
          show Steps p.tables e below (s₁.setTop (mkF m 12 #[.val (.int p1)] [])) _
          refine XS.iconst X0.here hx rfl (hb hby dprog_40_method_8_code_12) ?_
          show Steps p.tables e below (s₁.setTop (mkF m 13 #[.val (.int p1)] [(.int (1 : Int32))])) _
          refine XS.goto X0.here hx rfl (pc0 := 13) (pc' := 17) rfl (hb hby dprog_40_method_8_code_13) (by decide) (by decide) ?_
          exact kk)
        exact ⟨(1 : Int32), by simp [own_dig, hc3_2, hc9_5], k8⟩
  subst hj1
  obtain ⟨fs, hr, hrun, hended, hW, hsame⟩ := X0.leave (v := some (.int (nar .boolean (own_dig p1)))) (fun h => by rw [Bd.returns] at h; cases h)
  refine ⟨_, _, k1 _ ?_, hrun, hended, _, _, rfl, ?_, ⟨_, rfl⟩, hW, hsame.mono (by decide) (by decide)⟩
  · show Steps p.tables e below (s₁.setTop (mkF m 17 #[.val (.int p1)] [(.int (own_dig p1))])) _
    exact retN X0 hx (t := .boolean) Bd.returns (by simp) (hb hby dprog_40_method_8_code_17) hr
  · show QI Z p1 h0 n0 _ s₁.heap _
    rw [e0]
    exact ⟨by rw [own_dig01], rfl, rfl⟩
theorem dmethod_3_code_0 : decode method_3_code 0 = .ok (.iload_n 0, 1) := by decide +kernel
theorem dmethod_3_code_1 : decode method_3_code 1 = .ok (.bipush 48, 2) := by decide +kernel
theorem dmethod_3_code_3 : decode method_3_code 3 = .ok (.if_icmp .eq 57, 3) := by decide +kernel
theorem dmethod_3_code_60 : decode method_3_code 60 = .ok (.iconst 1, 1) := by decide +kernel
theorem dmethod_3_code_61 : decode method_3_code 61 = .ok (.goto 4, 3) := by decide +kernel
theorem dmethod_3_code_6 : decode method_3_code 6 = .ok (.iload_n 0, 1) := by decide +kernel
theorem dmethod_3_code_7 : decode method_3_code 7 = .ok (.bipush 49, 2) := by decide +kernel
theorem dmethod_3_code_9 : decode method_3_code 9 = .ok (.if_icmp .eq 51, 3) := by decide +kernel
theorem dmethod_3_code_12 : decode method_3_code 12 = .ok (.iload_n 0, 1) := by decide +kernel
theorem dmethod_3_code_13 : decode method_3_code 13 = .ok (.bipush 50, 2) := by decide +kernel
theorem dmethod_3_code_15 : decode method_3_code 15 = .ok (.if_icmp .eq 45, 3) := by decide +kernel
theorem dmethod_3_code_18 : decode method_3_code 18 = .ok (.iload_n 0, 1) := by decide +kernel
theorem dmethod_3_code_19 : decode method_3_code 19 = .ok (.bipush 51, 2) := by decide +kernel
theorem dmethod_3_code_21 : decode method_3_code 21 = .ok (.if_icmp .eq 39, 3) := by decide +kernel
theorem dmethod_3_code_24 : decode method_3_code 24 = .ok (.iload_n 0, 1) := by decide +kernel
theorem dmethod_3_code_25 : decode method_3_code 25 = .ok (.bipush 52, 2) := by decide +kernel
theorem dmethod_3_code_27 : decode method_3_code 27 = .ok (.if_icmp .eq 33, 3) := by decide +kernel
theorem dmethod_3_code_30 : decode method_3_code 30 = .ok (.iload_n 0, 1) := by decide +kernel
theorem dmethod_3_code_31 : decode method_3_code 31 = .ok (.bipush 53, 2) := by decide +kernel
theorem dmethod_3_code_33 : decode method_3_code 33 = .ok (.if_icmp .eq 27, 3) := by decide +kernel
theorem dmethod_3_code_36 : decode method_3_code 36 = .ok (.iload_n 0, 1) := by decide +kernel
theorem dmethod_3_code_37 : decode method_3_code 37 = .ok (.bipush 54, 2) := by decide +kernel
theorem dmethod_3_code_39 : decode method_3_code 39 = .ok (.if_icmp .eq 21, 3) := by decide +kernel
theorem dmethod_3_code_42 : decode method_3_code 42 = .ok (.iload_n 0, 1) := by decide +kernel
theorem dmethod_3_code_43 : decode method_3_code 43 = .ok (.bipush 55, 2) := by decide +kernel
theorem dmethod_3_code_45 : decode method_3_code 45 = .ok (.if_icmp .eq 15, 3) := by decide +kernel
theorem dmethod_3_code_48 : decode method_3_code 48 = .ok (.iload_n 0, 1) := by decide +kernel
theorem dmethod_3_code_49 : decode method_3_code 49 = .ok (.bipush 56, 2) := by decide +kernel
theorem dmethod_3_code_51 : decode method_3_code 51 = .ok (.if_icmp .eq 9, 3) := by decide +kernel
theorem dmethod_3_code_54 : decode method_3_code 54 = .ok (.iload_n 0, 1) := by decide +kernel
theorem dmethod_3_code_55 : decode method_3_code 55 = .ok (.bipush 57, 2) := by decide +kernel
theorem dmethod_3_code_57 : decode method_3_code 57 = .ok (.if_icmp .ne 7, 3) := by decide +kernel
theorem dmethod_3_code_64 : decode method_3_code 64 = .ok (.iconst 0, 1) := by decide +kernel
theorem dmethod_3_code_65 : decode method_3_code 65 = .ok (.istore_n 1, 1) := by decide +kernel
theorem dmethod_3_code_66 : decode method_3_code 66 = .ok (.iload_n 0, 1) := by decide +kernel
theorem dmethod_3_code_67 : decode method_3_code 67 = .ok (.invokestatic 15, 3) := by decide +kernel
theorem pd_0 : parseMethodDescriptor "(I)Z" = some ⟨[.int], some .boolean⟩ := by decide +kernel
theorem dmethod_3_code_70 : decode method_3_code 70 = .ok (.iload_n 1, 1) := by decide +kernel
theorem dmethod_3_code_71 : decode method_3_code 71 = .ok (.if_icmp .ne 7, 3) := by decide +kernel
theorem dmethod_3_code_74 : decode method_3_code 74 = .ok (.iconst 1, 1) := by decide +kernel
theorem dmethod_3_code_75 : decode method_3_code 75 = .ok (.goto 4, 3) := by decide +kernel
theorem dmethod_3_code_79 : decode method_3_code 79 = .ok (.ireturn, 1) := by decide +kernel
theorem ef_rmC (m : MethodId) (x0 : Int32) : entryFrame m #[(.int x0)] 2 = mkF m 0 #[.val (.int x0), .unset] [] := by first | (simp [entryFrame, mkF, argsToLocals, Value.category]; done) | rfl
def QC (Z : State) (p1 : Int32) (h0 : Heap) (n0 : Nat) (v : Option Value) (h : Heap) (L : List Loc) : Prop := v = some (.int 1) ∧ L = [] ∧ h = h0
theorem pn_1 : plainName "com/example/darn6/darn6/GrammarIsDigitPinLaw" = true := by first | (simp [plainName, overriddenIn]; done) | decide +kernel
set_option maxRecDepth 65536 in
set_option maxHeartbeats 40000000 in
theorem rmC (l : Launch) (Z : State) (a0 : Array Value) (hw : ∀ d ∈ tables_1, d.before a0 Z = true) (ws : List Jvm.Cond) (p1 : Int32) (h0 : Heap) (n0 : Nat) (Z0 : n0 ≤ h0.size) :
    MetFree l (⟨"com/example/darn6/darn6/GrammarIsDigitPinLaw", "check", "(I)Z"⟩ : MethodName) (head1 (Jvm.Cond.code (⟨"com/example/darn6/darn6/GrammarIsDigitPinLaw", "check", "(I)Z"⟩ : MethodName) method_3_code 2 (some .boolean) :: ws) ({ frames := 1, cells := 0, slots := 0, locals := 12 } : Room)) (fun a U => a = #[(.int p1)] ∧ Z.Warmed39 U.vm ∧ U.heap = h0) (fun _ _ _ _ _ => True) (fun _ U o U' => ∃ v L, o = .returned v ∧ QC Z p1 h0 n0 v U'.heap L ∧ FrameEnd U o U' L ({ frames := 1, cells := 0, slots := 0, locals := 12 } : Room).cells ({ frames := 1, cells := 0, slots := 0, locals := 12 } : Room).slots) := by
  refine MetFree.of_bodySF (plainFor_of_name pn_1) hisR ?_
  intro p e s m args below meth c s₁ Bd hml0 hP hK
  obtain ⟨rfl, hZ, hh⟩ := hP
  have hx := Bd.exec
  have hby := Bd.bytes
  have hml : c.maxLocals = 2 := hml0
  have hown : s.vm.findClass "com/example/darn6/darn6/GrammarIsDigitPinLaw" = some m.cls := findClass_of_methodNamed Bd.named
  have hnm := (name_of_methodNamed Bd.named Bd.method).1
  have X0 : Stand p l e ({ frames := 1, cells := 0, slots := 0, locals := 12 } : Room) s m #[(.int p1)] below meth c s₁ [] 0 0 := Stand.of_body Bd
  have e0 : s₁.heap = h0 := by rw [← hh, Bd.state]; rfl
  have N0 := Fr.nil n0
  have k0 : Go p e below (s₁.setTop (entryFrame m #[(.int p1)] 2)) (s₁.setTop (mkF m 0 #[.val (.int p1), .unset] [])) := fun t k => castTop (ef_rmC m p1) k
  obtain ⟨v1, hj1, k1⟩ : ∃ v1 : Int32, (v1 = own_exp p1) ∧ Go p e below (s₁.setTop (entryFrame m #[(.int p1)] 2)) (s₁.setTop (mkF m 65 #[.val (.int p1), .unset] [(.int v1)])) := by
    have k3 : Go p e below (s₁.setTop (entryFrame m #[(.int p1)] 2)) (s₁.setTop (mkF m 3 #[.val (.int p1), .unset] [(.int (48 : Int32)), (.int p1)])) := fun t kk => k0 t (by
      show Steps p.tables e below (s₁.setTop (mkF m 0 #[.val (.int p1), .unset] [])) _
      refine XS.iloadN X0.here hx rfl (hb hby dmethod_3_code_0) rfl ?_
      show Steps p.tables e below (s₁.setTop (mkF m 1 #[.val (.int p1), .unset] [(.int p1)])) _
      refine XS.bipush X0.here hx rfl (hb hby dmethod_3_code_1) ?_
      exact kk)
    by_cases hc3_2 : p1 = (48 : Int32)
    · have k4 : Go p e below (s₁.setTop (entryFrame m #[(.int p1)] 2)) (s₁.setTop (mkF m 65 #[.val (.int p1), .unset] [(.int (1 : Int32))])) := fun t kk => k3 t (by
        show Steps p.tables e below (s₁.setTop (mkF m 3 #[.val (.int p1), .unset] [(.int (48 : Int32)), (.int p1)])) _
        refine XS.icmpYes X0.here hx rfl (pc0 := 3) (pc' := 60) rfl (hb hby dmethod_3_code_3) rfl (teq hc3_2).1 (by decide) (by decide) ?_
        show Steps p.tables e below (s₁.setTop (mkF m 60 #[.val (.int p1), .unset] [])) _
        refine XS.iconst X0.here hx rfl (hb hby dmethod_3_code_60) ?_
        show Steps p.tables e below (s₁.setTop (mkF m 61 #[.val (.int p1), .unset] [(.int (1 : Int32))])) _
        refine XS.goto X0.here hx rfl (pc0 := 61) (pc' := 65) rfl (hb hby dmethod_3_code_61) (by decide) (by decide) ?_
        exact kk)
      exact ⟨(1 : Int32), by simp [own_exp, hc3_2], k4⟩
    · have k6 : Go p e below (s₁.setTop (entryFrame m #[(.int p1)] 2)) (s₁.setTop (mkF m 9 #[.val (.int p1), .unset] [(.int (49 : Int32)), (.int p1)])) := fun t kk => k3 t (by
        show Steps p.tables e below (s₁.setTop (mkF m 3 #[.val (.int p1), .unset] [(.int (48 : Int32)), (.int p1)])) _
        refine XS.icmpNo X0.here hx rfl (hb hby dmethod_3_code_3) rfl (feq hc3_2).1 ?_
        show Steps p.tables e below (s₁.setTop (mkF m 6 #[.val (.int p1), .unset] [])) _
        refine XS.iloadN X0.here hx rfl (hb hby dmethod_3_code_6) rfl ?_
        show Steps p.tables e below (s₁.setTop (mkF m 7 #[.val (.int p1), .unset] [(.int p1)])) _
        refine XS.bipush X0.here hx rfl (hb hby dmethod_3_code_7) ?_
        exact kk)
      by_cases hc9_5 : p1 = (49 : Int32)
      · have k7 : Go p e below (s₁.setTop (entryFrame m #[(.int p1)] 2)) (s₁.setTop (mkF m 65 #[.val (.int p1), .unset] [(.int (1 : Int32))])) := fun t kk => k6 t (by
          show Steps p.tables e below (s₁.setTop (mkF m 9 #[.val (.int p1), .unset] [(.int (49 : Int32)), (.int p1)])) _
          refine XS.icmpYes X0.here hx rfl (pc0 := 9) (pc' := 60) rfl (hb hby dmethod_3_code_9) rfl (teq hc9_5).1 (by decide) (by decide) ?_
          show Steps p.tables e below (s₁.setTop (mkF m 60 #[.val (.int p1), .unset] [])) _
          refine XS.iconst X0.here hx rfl (hb hby dmethod_3_code_60) ?_
          show Steps p.tables e below (s₁.setTop (mkF m 61 #[.val (.int p1), .unset] [(.int (1 : Int32))])) _
          refine XS.goto X0.here hx rfl (pc0 := 61) (pc' := 65) rfl (hb hby dmethod_3_code_61) (by decide) (by decide) ?_
          exact kk)
        exact ⟨(1 : Int32), by simp [own_exp, hc3_2, hc9_5], k7⟩
      · have k9 : Go p e below (s₁.setTop (entryFrame m #[(.int p1)] 2)) (s₁.setTop (mkF m 15 #[.val (.int p1), .unset] [(.int (50 : Int32)), (.int p1)])) := fun t kk => k6 t (by
          show Steps p.tables e below (s₁.setTop (mkF m 9 #[.val (.int p1), .unset] [(.int (49 : Int32)), (.int p1)])) _
          refine XS.icmpNo X0.here hx rfl (hb hby dmethod_3_code_9) rfl (feq hc9_5).1 ?_
          show Steps p.tables e below (s₁.setTop (mkF m 12 #[.val (.int p1), .unset] [])) _
          refine XS.iloadN X0.here hx rfl (hb hby dmethod_3_code_12) rfl ?_
          show Steps p.tables e below (s₁.setTop (mkF m 13 #[.val (.int p1), .unset] [(.int p1)])) _
          refine XS.bipush X0.here hx rfl (hb hby dmethod_3_code_13) ?_
          exact kk)
        by_cases hc15_8 : p1 = (50 : Int32)
        · have k10 : Go p e below (s₁.setTop (entryFrame m #[(.int p1)] 2)) (s₁.setTop (mkF m 65 #[.val (.int p1), .unset] [(.int (1 : Int32))])) := fun t kk => k9 t (by
            show Steps p.tables e below (s₁.setTop (mkF m 15 #[.val (.int p1), .unset] [(.int (50 : Int32)), (.int p1)])) _
            refine XS.icmpYes X0.here hx rfl (pc0 := 15) (pc' := 60) rfl (hb hby dmethod_3_code_15) rfl (teq hc15_8).1 (by decide) (by decide) ?_
            show Steps p.tables e below (s₁.setTop (mkF m 60 #[.val (.int p1), .unset] [])) _
            refine XS.iconst X0.here hx rfl (hb hby dmethod_3_code_60) ?_
            show Steps p.tables e below (s₁.setTop (mkF m 61 #[.val (.int p1), .unset] [(.int (1 : Int32))])) _
            refine XS.goto X0.here hx rfl (pc0 := 61) (pc' := 65) rfl (hb hby dmethod_3_code_61) (by decide) (by decide) ?_
            exact kk)
          exact ⟨(1 : Int32), by simp [own_exp, hc3_2, hc9_5, hc15_8], k10⟩
        · have k12 : Go p e below (s₁.setTop (entryFrame m #[(.int p1)] 2)) (s₁.setTop (mkF m 21 #[.val (.int p1), .unset] [(.int (51 : Int32)), (.int p1)])) := fun t kk => k9 t (by
            show Steps p.tables e below (s₁.setTop (mkF m 15 #[.val (.int p1), .unset] [(.int (50 : Int32)), (.int p1)])) _
            refine XS.icmpNo X0.here hx rfl (hb hby dmethod_3_code_15) rfl (feq hc15_8).1 ?_
            show Steps p.tables e below (s₁.setTop (mkF m 18 #[.val (.int p1), .unset] [])) _
            refine XS.iloadN X0.here hx rfl (hb hby dmethod_3_code_18) rfl ?_
            show Steps p.tables e below (s₁.setTop (mkF m 19 #[.val (.int p1), .unset] [(.int p1)])) _
            refine XS.bipush X0.here hx rfl (hb hby dmethod_3_code_19) ?_
            exact kk)
          by_cases hc21_11 : p1 = (51 : Int32)
          · have k13 : Go p e below (s₁.setTop (entryFrame m #[(.int p1)] 2)) (s₁.setTop (mkF m 65 #[.val (.int p1), .unset] [(.int (1 : Int32))])) := fun t kk => k12 t (by
              show Steps p.tables e below (s₁.setTop (mkF m 21 #[.val (.int p1), .unset] [(.int (51 : Int32)), (.int p1)])) _
              refine XS.icmpYes X0.here hx rfl (pc0 := 21) (pc' := 60) rfl (hb hby dmethod_3_code_21) rfl (teq hc21_11).1 (by decide) (by decide) ?_
              show Steps p.tables e below (s₁.setTop (mkF m 60 #[.val (.int p1), .unset] [])) _
              refine XS.iconst X0.here hx rfl (hb hby dmethod_3_code_60) ?_
              show Steps p.tables e below (s₁.setTop (mkF m 61 #[.val (.int p1), .unset] [(.int (1 : Int32))])) _
              refine XS.goto X0.here hx rfl (pc0 := 61) (pc' := 65) rfl (hb hby dmethod_3_code_61) (by decide) (by decide) ?_
              exact kk)
            exact ⟨(1 : Int32), by simp [own_exp, hc3_2, hc9_5, hc15_8, hc21_11], k13⟩
          · have k15 : Go p e below (s₁.setTop (entryFrame m #[(.int p1)] 2)) (s₁.setTop (mkF m 27 #[.val (.int p1), .unset] [(.int (52 : Int32)), (.int p1)])) := fun t kk => k12 t (by
              show Steps p.tables e below (s₁.setTop (mkF m 21 #[.val (.int p1), .unset] [(.int (51 : Int32)), (.int p1)])) _
              refine XS.icmpNo X0.here hx rfl (hb hby dmethod_3_code_21) rfl (feq hc21_11).1 ?_
              show Steps p.tables e below (s₁.setTop (mkF m 24 #[.val (.int p1), .unset] [])) _
              refine XS.iloadN X0.here hx rfl (hb hby dmethod_3_code_24) rfl ?_
              show Steps p.tables e below (s₁.setTop (mkF m 25 #[.val (.int p1), .unset] [(.int p1)])) _
              refine XS.bipush X0.here hx rfl (hb hby dmethod_3_code_25) ?_
              exact kk)
            by_cases hc27_14 : p1 = (52 : Int32)
            · have k16 : Go p e below (s₁.setTop (entryFrame m #[(.int p1)] 2)) (s₁.setTop (mkF m 65 #[.val (.int p1), .unset] [(.int (1 : Int32))])) := fun t kk => k15 t (by
                show Steps p.tables e below (s₁.setTop (mkF m 27 #[.val (.int p1), .unset] [(.int (52 : Int32)), (.int p1)])) _
                refine XS.icmpYes X0.here hx rfl (pc0 := 27) (pc' := 60) rfl (hb hby dmethod_3_code_27) rfl (teq hc27_14).1 (by decide) (by decide) ?_
                show Steps p.tables e below (s₁.setTop (mkF m 60 #[.val (.int p1), .unset] [])) _
                refine XS.iconst X0.here hx rfl (hb hby dmethod_3_code_60) ?_
                show Steps p.tables e below (s₁.setTop (mkF m 61 #[.val (.int p1), .unset] [(.int (1 : Int32))])) _
                refine XS.goto X0.here hx rfl (pc0 := 61) (pc' := 65) rfl (hb hby dmethod_3_code_61) (by decide) (by decide) ?_
                exact kk)
              exact ⟨(1 : Int32), by simp [own_exp, hc3_2, hc9_5, hc15_8, hc21_11, hc27_14], k16⟩
            · have k18 : Go p e below (s₁.setTop (entryFrame m #[(.int p1)] 2)) (s₁.setTop (mkF m 33 #[.val (.int p1), .unset] [(.int (53 : Int32)), (.int p1)])) := fun t kk => k15 t (by
                show Steps p.tables e below (s₁.setTop (mkF m 27 #[.val (.int p1), .unset] [(.int (52 : Int32)), (.int p1)])) _
                refine XS.icmpNo X0.here hx rfl (hb hby dmethod_3_code_27) rfl (feq hc27_14).1 ?_
                show Steps p.tables e below (s₁.setTop (mkF m 30 #[.val (.int p1), .unset] [])) _
                refine XS.iloadN X0.here hx rfl (hb hby dmethod_3_code_30) rfl ?_
                show Steps p.tables e below (s₁.setTop (mkF m 31 #[.val (.int p1), .unset] [(.int p1)])) _
                refine XS.bipush X0.here hx rfl (hb hby dmethod_3_code_31) ?_
                exact kk)
              by_cases hc33_17 : p1 = (53 : Int32)
              · have k19 : Go p e below (s₁.setTop (entryFrame m #[(.int p1)] 2)) (s₁.setTop (mkF m 65 #[.val (.int p1), .unset] [(.int (1 : Int32))])) := fun t kk => k18 t (by
                  show Steps p.tables e below (s₁.setTop (mkF m 33 #[.val (.int p1), .unset] [(.int (53 : Int32)), (.int p1)])) _
                  refine XS.icmpYes X0.here hx rfl (pc0 := 33) (pc' := 60) rfl (hb hby dmethod_3_code_33) rfl (teq hc33_17).1 (by decide) (by decide) ?_
                  show Steps p.tables e below (s₁.setTop (mkF m 60 #[.val (.int p1), .unset] [])) _
                  refine XS.iconst X0.here hx rfl (hb hby dmethod_3_code_60) ?_
                  show Steps p.tables e below (s₁.setTop (mkF m 61 #[.val (.int p1), .unset] [(.int (1 : Int32))])) _
                  refine XS.goto X0.here hx rfl (pc0 := 61) (pc' := 65) rfl (hb hby dmethod_3_code_61) (by decide) (by decide) ?_
                  exact kk)
                exact ⟨(1 : Int32), by simp [own_exp, hc3_2, hc9_5, hc15_8, hc21_11, hc27_14, hc33_17], k19⟩
              · have k21 : Go p e below (s₁.setTop (entryFrame m #[(.int p1)] 2)) (s₁.setTop (mkF m 39 #[.val (.int p1), .unset] [(.int (54 : Int32)), (.int p1)])) := fun t kk => k18 t (by
                  show Steps p.tables e below (s₁.setTop (mkF m 33 #[.val (.int p1), .unset] [(.int (53 : Int32)), (.int p1)])) _
                  refine XS.icmpNo X0.here hx rfl (hb hby dmethod_3_code_33) rfl (feq hc33_17).1 ?_
                  show Steps p.tables e below (s₁.setTop (mkF m 36 #[.val (.int p1), .unset] [])) _
                  refine XS.iloadN X0.here hx rfl (hb hby dmethod_3_code_36) rfl ?_
                  show Steps p.tables e below (s₁.setTop (mkF m 37 #[.val (.int p1), .unset] [(.int p1)])) _
                  refine XS.bipush X0.here hx rfl (hb hby dmethod_3_code_37) ?_
                  exact kk)
                by_cases hc39_20 : p1 = (54 : Int32)
                · have k22 : Go p e below (s₁.setTop (entryFrame m #[(.int p1)] 2)) (s₁.setTop (mkF m 65 #[.val (.int p1), .unset] [(.int (1 : Int32))])) := fun t kk => k21 t (by
                    show Steps p.tables e below (s₁.setTop (mkF m 39 #[.val (.int p1), .unset] [(.int (54 : Int32)), (.int p1)])) _
                    refine XS.icmpYes X0.here hx rfl (pc0 := 39) (pc' := 60) rfl (hb hby dmethod_3_code_39) rfl (teq hc39_20).1 (by decide) (by decide) ?_
                    show Steps p.tables e below (s₁.setTop (mkF m 60 #[.val (.int p1), .unset] [])) _
                    refine XS.iconst X0.here hx rfl (hb hby dmethod_3_code_60) ?_
                    show Steps p.tables e below (s₁.setTop (mkF m 61 #[.val (.int p1), .unset] [(.int (1 : Int32))])) _
                    refine XS.goto X0.here hx rfl (pc0 := 61) (pc' := 65) rfl (hb hby dmethod_3_code_61) (by decide) (by decide) ?_
                    exact kk)
                  exact ⟨(1 : Int32), by simp [own_exp, hc3_2, hc9_5, hc15_8, hc21_11, hc27_14, hc33_17, hc39_20], k22⟩
                · have k24 : Go p e below (s₁.setTop (entryFrame m #[(.int p1)] 2)) (s₁.setTop (mkF m 45 #[.val (.int p1), .unset] [(.int (55 : Int32)), (.int p1)])) := fun t kk => k21 t (by
                    show Steps p.tables e below (s₁.setTop (mkF m 39 #[.val (.int p1), .unset] [(.int (54 : Int32)), (.int p1)])) _
                    refine XS.icmpNo X0.here hx rfl (hb hby dmethod_3_code_39) rfl (feq hc39_20).1 ?_
                    show Steps p.tables e below (s₁.setTop (mkF m 42 #[.val (.int p1), .unset] [])) _
                    refine XS.iloadN X0.here hx rfl (hb hby dmethod_3_code_42) rfl ?_
                    show Steps p.tables e below (s₁.setTop (mkF m 43 #[.val (.int p1), .unset] [(.int p1)])) _
                    refine XS.bipush X0.here hx rfl (hb hby dmethod_3_code_43) ?_
                    exact kk)
                  by_cases hc45_23 : p1 = (55 : Int32)
                  · have k25 : Go p e below (s₁.setTop (entryFrame m #[(.int p1)] 2)) (s₁.setTop (mkF m 65 #[.val (.int p1), .unset] [(.int (1 : Int32))])) := fun t kk => k24 t (by
                      show Steps p.tables e below (s₁.setTop (mkF m 45 #[.val (.int p1), .unset] [(.int (55 : Int32)), (.int p1)])) _
                      refine XS.icmpYes X0.here hx rfl (pc0 := 45) (pc' := 60) rfl (hb hby dmethod_3_code_45) rfl (teq hc45_23).1 (by decide) (by decide) ?_
                      show Steps p.tables e below (s₁.setTop (mkF m 60 #[.val (.int p1), .unset] [])) _
                      refine XS.iconst X0.here hx rfl (hb hby dmethod_3_code_60) ?_
                      show Steps p.tables e below (s₁.setTop (mkF m 61 #[.val (.int p1), .unset] [(.int (1 : Int32))])) _
                      refine XS.goto X0.here hx rfl (pc0 := 61) (pc' := 65) rfl (hb hby dmethod_3_code_61) (by decide) (by decide) ?_
                      exact kk)
                    exact ⟨(1 : Int32), by simp [own_exp, hc3_2, hc9_5, hc15_8, hc21_11, hc27_14, hc33_17, hc39_20, hc45_23], k25⟩
                  · have k27 : Go p e below (s₁.setTop (entryFrame m #[(.int p1)] 2)) (s₁.setTop (mkF m 51 #[.val (.int p1), .unset] [(.int (56 : Int32)), (.int p1)])) := fun t kk => k24 t (by
                      show Steps p.tables e below (s₁.setTop (mkF m 45 #[.val (.int p1), .unset] [(.int (55 : Int32)), (.int p1)])) _
                      refine XS.icmpNo X0.here hx rfl (hb hby dmethod_3_code_45) rfl (feq hc45_23).1 ?_
                      show Steps p.tables e below (s₁.setTop (mkF m 48 #[.val (.int p1), .unset] [])) _
                      refine XS.iloadN X0.here hx rfl (hb hby dmethod_3_code_48) rfl ?_
                      show Steps p.tables e below (s₁.setTop (mkF m 49 #[.val (.int p1), .unset] [(.int p1)])) _
                      refine XS.bipush X0.here hx rfl (hb hby dmethod_3_code_49) ?_
                      exact kk)
                    by_cases hc51_26 : p1 = (56 : Int32)
                    · have k28 : Go p e below (s₁.setTop (entryFrame m #[(.int p1)] 2)) (s₁.setTop (mkF m 65 #[.val (.int p1), .unset] [(.int (1 : Int32))])) := fun t kk => k27 t (by
                        show Steps p.tables e below (s₁.setTop (mkF m 51 #[.val (.int p1), .unset] [(.int (56 : Int32)), (.int p1)])) _
                        refine XS.icmpYes X0.here hx rfl (pc0 := 51) (pc' := 60) rfl (hb hby dmethod_3_code_51) rfl (teq hc51_26).1 (by decide) (by decide) ?_
                        show Steps p.tables e below (s₁.setTop (mkF m 60 #[.val (.int p1), .unset] [])) _
                        refine XS.iconst X0.here hx rfl (hb hby dmethod_3_code_60) ?_
                        show Steps p.tables e below (s₁.setTop (mkF m 61 #[.val (.int p1), .unset] [(.int (1 : Int32))])) _
                        refine XS.goto X0.here hx rfl (pc0 := 61) (pc' := 65) rfl (hb hby dmethod_3_code_61) (by decide) (by decide) ?_
                        exact kk)
                      exact ⟨(1 : Int32), by simp [own_exp, hc3_2, hc9_5, hc15_8, hc21_11, hc27_14, hc33_17, hc39_20, hc45_23, hc51_26], k28⟩
                    · have k30 : Go p e below (s₁.setTop (entryFrame m #[(.int p1)] 2)) (s₁.setTop (mkF m 57 #[.val (.int p1), .unset] [(.int (57 : Int32)), (.int p1)])) := fun t kk => k27 t (by
                        show Steps p.tables e below (s₁.setTop (mkF m 51 #[.val (.int p1), .unset] [(.int (56 : Int32)), (.int p1)])) _
                        refine XS.icmpNo X0.here hx rfl (hb hby dmethod_3_code_51) rfl (feq hc51_26).1 ?_
                        show Steps p.tables e below (s₁.setTop (mkF m 54 #[.val (.int p1), .unset] [])) _
                        refine XS.iloadN X0.here hx rfl (hb hby dmethod_3_code_54) rfl ?_
                        show Steps p.tables e below (s₁.setTop (mkF m 55 #[.val (.int p1), .unset] [(.int p1)])) _
                        refine XS.bipush X0.here hx rfl (hb hby dmethod_3_code_55) ?_
                        exact kk)
                      by_cases hc57_29 : p1 = (57 : Int32)
                      · have k31 : Go p e below (s₁.setTop (entryFrame m #[(.int p1)] 2)) (s₁.setTop (mkF m 65 #[.val (.int p1), .unset] [(.int (1 : Int32))])) := fun t kk => k30 t (by
                          show Steps p.tables e below (s₁.setTop (mkF m 57 #[.val (.int p1), .unset] [(.int (57 : Int32)), (.int p1)])) _
                          refine XS.icmpNo X0.here hx rfl (hb hby dmethod_3_code_57) rfl (teq hc57_29).2 ?_
                          show Steps p.tables e below (s₁.setTop (mkF m 60 #[.val (.int p1), .unset] [])) _
                          refine XS.iconst X0.here hx rfl (hb hby dmethod_3_code_60) ?_
                          show Steps p.tables e below (s₁.setTop (mkF m 61 #[.val (.int p1), .unset] [(.int (1 : Int32))])) _
                          refine XS.goto X0.here hx rfl (pc0 := 61) (pc' := 65) rfl (hb hby dmethod_3_code_61) (by decide) (by decide) ?_
                          exact kk)
                        exact ⟨(1 : Int32), by simp [own_exp, hc3_2, hc9_5, hc15_8, hc21_11, hc27_14, hc33_17, hc39_20, hc45_23, hc51_26, hc57_29], k31⟩
                      · have k32 : Go p e below (s₁.setTop (entryFrame m #[(.int p1)] 2)) (s₁.setTop (mkF m 65 #[.val (.int p1), .unset] [(.int (0 : Int32))])) := fun t kk => k30 t (by
                          show Steps p.tables e below (s₁.setTop (mkF m 57 #[.val (.int p1), .unset] [(.int (57 : Int32)), (.int p1)])) _
                          refine XS.icmpYes X0.here hx rfl (pc0 := 57) (pc' := 64) rfl (hb hby dmethod_3_code_57) rfl (feq hc57_29).2 (by decide) (by decide) ?_
                          show Steps p.tables e below (s₁.setTop (mkF m 64 #[.val (.int p1), .unset] [])) _
                          refine XS.iconst X0.here hx rfl (hb hby dmethod_3_code_64) ?_
                          exact kk)
                        exact ⟨(0 : Int32), by simp [own_exp, hc3_2, hc9_5, hc15_8, hc21_11, hc27_14, hc33_17, hc39_20, hc45_23, hc51_26, hc57_29], k32⟩
  have k33 : Go p e below (s₁.setTop (entryFrame m #[(.int p1)] 2)) (s₁.setTop (mkF m 67 #[.val (.int p1), .val (.int v1)] [(.int p1)])) := fun t kk => k1 t (by
    show Steps p.tables e below (s₁.setTop (mkF m 65 #[.val (.int p1), .unset] [(.int v1)])) _
    refine XS.istoreN X0.here hx rfl (hb hby dmethod_3_code_65) rfl (l' := #[.val (.int p1), .val (.int v1)]) rfl ?_
    show Steps p.tables e below (s₁.setTop (mkF m 66 #[.val (.int p1), .val (.int v1)] [])) _
    refine XS.iloadN X0.here hx rfl (hb hby dmethod_3_code_66) rfl ?_
    exact kk)
  obtain ⟨_, _, ⟨T34, L34, kx34, nx34⟩, -, X34, ⟨Lc34, hQ34, l34, y34, z34⟩, st34⟩ := Jvm.LawKit.callS X0 hx (y := (⟨"com/example/darn6/darn6/JsonNumber$Grammar", "isDigit", "(I)Z"⟩ : MethodName)) hown (mvT hZ (hw _ (List.mem_of_getElem? (i := 6) rfl))) (mvT hZ (hw _ (List.mem_of_getElem? (i := 7) rfl))) (mvT hZ (hw _ (List.mem_of_getElem? (i := 8) rfl))) (mvT hZ (hw _ (List.mem_of_getElem? (i := 9) rfl))) (by decide) (backOf (W := 0) (rmI l Z a0 hw [] p1 h0 n0 Z0 ) hZ (hw _ (List.mem_of_getElem? (i := 9) rfl)) (hw _ (List.mem_of_getElem? (i := 8) rfl)) (by decide) (by decide)) (g := (mkF m 67 #[.val (.int p1), .val (.int v1)] [(.int p1)])) rfl (by rw [hml]; rfl) (argsL := [(.int p1)]) (rest := []) (lenOf pd_0 rfl) rfl (by show 2 * 0 + _ ≤ _; exact Nat.le_of_eq rfl) (hb hby dmethod_3_code_67) (fun _ _ => ⟨rfl, e0, (by decide : 0 + 0 ≤ _), (by decide : 0 + 0 ≤ _)⟩)
  dsimp only [Pt.U, Pt.locs, Pt.cells, Pt.slots] at X34 l34 y34 z34 st34 hQ34
  subst l34 y34 z34
  obtain ⟨rfl, rfl, e34⟩ := hQ34
  try rw [List.append_nil] at X34
  have k34 : Go p e below (s₁.setTop (entryFrame m #[(.int p1)] 2)) (T34.setTop (mkF m 70 #[.val (.int p1), .val (.int v1)] [(.int (own_dig p1))])) := fun t kk => k33 t (st34 t kk)
  have hd : (own_dig p1) = v1 := by rw [hj1]; exact own_same p1
  have k35 : Go p e below (s₁.setTop (entryFrame m #[(.int p1)] 2)) (T34.setTop (mkF m 79 #[.val (.int p1), .val (.int v1)] [(.int (1 : Int32))])) := fun t kk => k34 t (by
    show Steps p.tables e below (T34.setTop (mkF m 70 #[.val (.int p1), .val (.int v1)] [(.int (own_dig p1))])) _
    refine XS.iloadN X34.here hx rfl (hb hby dmethod_3_code_70) rfl ?_
    show Steps p.tables e below (T34.setTop (mkF m 71 #[.val (.int p1), .val (.int v1)] [(.int v1), (.int (own_dig p1))])) _
    refine XS.icmpNo X34.here hx rfl (hb hby dmethod_3_code_71) rfl (teq hd).2 ?_
    show Steps p.tables e below (T34.setTop (mkF m 74 #[.val (.int p1), .val (.int v1)] [])) _
    refine XS.iconst X34.here hx rfl (hb hby dmethod_3_code_74) ?_
    show Steps p.tables e below (T34.setTop (mkF m 75 #[.val (.int p1), .val (.int v1)] [(.int (1 : Int32))])) _
    refine XS.goto X34.here hx rfl (pc0 := 75) (pc' := 79) rfl (hb hby dmethod_3_code_75) (by decide) (by decide) ?_
    exact kk)
  obtain ⟨fs, hr, hrun, hended, hW, hsame⟩ := X34.leave (v := some (.int (1 : Int32))) (fun h => by rw [Bd.returns] at h; cases h)
  refine ⟨_, _, k35 _ ?_, hrun, hended, _, _, rfl, ?_, ⟨_, rfl⟩, hW, hsame.mono (by decide) (by decide)⟩
  · show Steps p.tables e below (T34.setTop (mkF m 79 #[.val (.int p1), .val (.int v1)] [(.int (1 : Int32))])) _
    exact retN X34 hx (t := .boolean) Bd.returns (by simp) (hb hby dmethod_3_code_79) hr
  · show QC Z p1 h0 n0 _ T34.heap _
    rw [e34]
    exact ⟨rfl, rfl, rfl⟩
theorem ef_rm0 (m : MethodId) (x0 : Int32) (x1 : Int32) : entryFrame m #[(.int x0), (.int x1)] maxLocals = mkF m 0 #[.val (.int x0), .val (.int x1), .unset, .unset, .unset] [] := by first | (simp [entryFrame, mkF, argsToLocals, Value.category, maxLocals]; done) | rfl
def Q0 (Z : State) (p1 : Int32) (p2 : Int32) (h0 : Heap) (n0 : Nat) (v : Option Value) (h : Heap) (L : List Loc) : Prop := v = some (.int 1) ∧ Fr n0 L
set_option maxRecDepth 65536 in
set_option maxHeartbeats 40000000 in
theorem rm0 (l : Launch) (Z : State) (a0 : Array Value) (hw : ∀ d ∈ tables_1, d.before a0 Z = true) (ws : List Jvm.Cond) (p1 : Int32) (p2 : Int32) (h0 : Heap) (n0 : Nat) (Z0 : n0 ≤ h0.size) :
    MetFree l x (head1 (Jvm.Cond.code x code maxLocals ret :: ws) room_1) (fun a U => a = #[(.int p1), (.int p2)] ∧ Z.Warmed39 U.vm ∧ U.heap = h0) (fun _ _ _ _ _ => True) (fun _ U o U' => ∃ v L, o = .returned v ∧ Q0 Z p1 p2 h0 n0 v U'.heap L ∧ FrameEnd U o U' L room_1.cells room_1.slots) := by
  refine MetFree.of_bodySF (plainFor_of_name pn_1) hisR ?_
  intro p e s m args below meth c s₁ Bd hml0 hP hK
  obtain ⟨rfl, hZ, hh⟩ := hP
  have hx := Bd.exec
  have hby := Bd.bytes
  have hml : c.maxLocals = 5 := hml0
  have hown : s.vm.findClass "com/example/darn6/darn6/GrammarIsDigitPinLaw" = some m.cls := findClass_of_methodNamed Bd.named
  have hnm := (name_of_methodNamed Bd.named Bd.method).1
  have X0 : Stand p l e room_1 s m #[(.int p1), (.int p2)] below meth c s₁ [] 0 0 := Stand.of_body Bd
  have e0 : s₁.heap = h0 := by rw [← hh, Bd.state]; rfl
  have N0 := Fr.nil n0
  have k0 : Go p e below (s₁.setTop (entryFrame m #[(.int p1), (.int p2)] maxLocals)) (s₁.setTop (mkF m 0 #[.val (.int p1), .val (.int p2), .unset, .unset, .unset] [])) := fun t k => castTop (ef_rm0 m p1 p2) k
  have k1 : Go p e below (s₁.setTop (entryFrame m #[(.int p1), (.int p2)] maxLocals)) (s₁.setTop (mkF m 24 #[.val (.int p1), .val (.int p2), .val (.int (((p2 &&& (2147483647 : Int32)) % (14 : Int32)) + (46 : Int32))), .val (.int (p1 &&& (65535 : Int32))), .val (.int (p1 &&& (255 : Int32)))] [(.int p1)])) := fun t kk => k0 t (by
    show Steps p.tables e below (s₁.setTop (mkF m 0 #[.val (.int p1), .val (.int p2), .unset, .unset, .unset] [])) _
    refine XS.iloadN X0.here hx rfl (hb hby at_0) rfl ?_
    show Steps p.tables e below (s₁.setTop (mkF m 1 #[.val (.int p1), .val (.int p2), .unset, .unset, .unset] [(.int p2)])) _
    refine X0.ldcInt hx hown (mvT hZ (hw _ (List.mem_of_getElem? (i := 0) rfl))) (g := (mkF m 1 #[.val (.int p1), .val (.int p2), .unset, .unset, .unset] [(.int p2)])) rfl (hb hby at_1) _ ?_
    show Steps p.tables e below (s₁.setTop (mkF m 3 #[.val (.int p1), .val (.int p2), .unset, .unset, .unset] [(.int (2147483647 : Int32)), (.int p2)])) _
    refine XS.iand X0.here hx rfl (hb hby at_3) rfl ?_
    show Steps p.tables e below (s₁.setTop (mkF m 4 #[.val (.int p1), .val (.int p2), .unset, .unset, .unset] [(.int (p2 &&& (2147483647 : Int32)))])) _
    refine XS.bipush X0.here hx rfl (hb hby at_4) ?_
    show Steps p.tables e below (s₁.setTop (mkF m 6 #[.val (.int p1), .val (.int p2), .unset, .unset, .unset] [(.int (14 : Int32)), (.int (p2 &&& (2147483647 : Int32)))])) _
    refine iremM X0 hx rfl (hb hby at_6) rfl (by decide) ?_
    show Steps p.tables e below (s₁.setTop (mkF m 7 #[.val (.int p1), .val (.int p2), .unset, .unset, .unset] [(.int ((p2 &&& (2147483647 : Int32)) % (14 : Int32)))])) _
    refine XS.bipush X0.here hx rfl (hb hby at_7) ?_
    show Steps p.tables e below (s₁.setTop (mkF m 9 #[.val (.int p1), .val (.int p2), .unset, .unset, .unset] [(.int (46 : Int32)), (.int ((p2 &&& (2147483647 : Int32)) % (14 : Int32)))])) _
    refine XS.iadd X0.here hx rfl (hb hby at_9) rfl ?_
    show Steps p.tables e below (s₁.setTop (mkF m 10 #[.val (.int p1), .val (.int p2), .unset, .unset, .unset] [(.int (((p2 &&& (2147483647 : Int32)) % (14 : Int32)) + (46 : Int32)))])) _
    refine XS.istoreN X0.here hx rfl (hb hby at_10) rfl (l' := #[.val (.int p1), .val (.int p2), .val (.int (((p2 &&& (2147483647 : Int32)) % (14 : Int32)) + (46 : Int32))), .unset, .unset]) rfl ?_
    show Steps p.tables e below (s₁.setTop (mkF m 11 #[.val (.int p1), .val (.int p2), .val (.int (((p2 &&& (2147483647 : Int32)) % (14 : Int32)) + (46 : Int32))), .unset, .unset] [])) _
    refine XS.iloadN X0.here hx rfl (hb hby at_11) rfl ?_
    show Steps p.tables e below (s₁.setTop (mkF m 12 #[.val (.int p1), .val (.int p2), .val (.int (((p2 &&& (2147483647 : Int32)) % (14 : Int32)) + (46 : Int32))), .unset, .unset] [(.int p1)])) _
    refine X0.ldcInt hx hown (mvT hZ (hw _ (List.mem_of_getElem? (i := 1) rfl))) (g := (mkF m 12 #[.val (.int p1), .val (.int p2), .val (.int (((p2 &&& (2147483647 : Int32)) % (14 : Int32)) + (46 : Int32))), .unset, .unset] [(.int p1)])) rfl (hb hby at_12) _ ?_
    show Steps p.tables e below (s₁.setTop (mkF m 14 #[.val (.int p1), .val (.int p2), .val (.int (((p2 &&& (2147483647 : Int32)) % (14 : Int32)) + (46 : Int32))), .unset, .unset] [(.int (65535 : Int32)), (.int p1)])) _
    refine XS.iand X0.here hx rfl (hb hby at_14) rfl ?_
    show Steps p.tables e below (s₁.setTop (mkF m 15 #[.val (.int p1), .val (.int p2), .val (.int (((p2 &&& (2147483647 : Int32)) % (14 : Int32)) + (46 : Int32))), .unset, .unset] [(.int (p1 &&& (65535 : Int32)))])) _
    refine XS.istoreN X0.here hx rfl (hb hby at_15) rfl (l' := #[.val (.int p1), .val (.int p2), .val (.int (((p2 &&& (2147483647 : Int32)) % (14 : Int32)) + (46 : Int32))), .val (.int (p1 &&& (65535 : Int32))), .unset]) rfl ?_
    show Steps p.tables e below (s₁.setTop (mkF m 16 #[.val (.int p1), .val (.int p2), .val (.int (((p2 &&& (2147483647 : Int32)) % (14 : Int32)) + (46 : Int32))), .val (.int (p1 &&& (65535 : Int32))), .unset] [])) _
    refine XS.iloadN X0.here hx rfl (hb hby at_16) rfl ?_
    show Steps p.tables e below (s₁.setTop (mkF m 17 #[.val (.int p1), .val (.int p2), .val (.int (((p2 &&& (2147483647 : Int32)) % (14 : Int32)) + (46 : Int32))), .val (.int (p1 &&& (65535 : Int32))), .unset] [(.int p1)])) _
    refine XS.sipush X0.here hx rfl (hb hby at_17) ?_
    show Steps p.tables e below (s₁.setTop (mkF m 20 #[.val (.int p1), .val (.int p2), .val (.int (((p2 &&& (2147483647 : Int32)) % (14 : Int32)) + (46 : Int32))), .val (.int (p1 &&& (65535 : Int32))), .unset] [(.int (255 : Int32)), (.int p1)])) _
    refine XS.iand X0.here hx rfl (hb hby at_20) rfl ?_
    show Steps p.tables e below (s₁.setTop (mkF m 21 #[.val (.int p1), .val (.int p2), .val (.int (((p2 &&& (2147483647 : Int32)) % (14 : Int32)) + (46 : Int32))), .val (.int (p1 &&& (65535 : Int32))), .unset] [(.int (p1 &&& (255 : Int32)))])) _
    refine XS.istore X0.here hx rfl (hb hby at_21) rfl (l' := #[.val (.int p1), .val (.int p2), .val (.int (((p2 &&& (2147483647 : Int32)) % (14 : Int32)) + (46 : Int32))), .val (.int (p1 &&& (65535 : Int32))), .val (.int (p1 &&& (255 : Int32)))]) rfl ?_
    show Steps p.tables e below (s₁.setTop (mkF m 23 #[.val (.int p1), .val (.int p2), .val (.int (((p2 &&& (2147483647 : Int32)) % (14 : Int32)) + (46 : Int32))), .val (.int (p1 &&& (65535 : Int32))), .val (.int (p1 &&& (255 : Int32)))] [])) _
    refine XS.iloadN X0.here hx rfl (hb hby at_23) rfl ?_
    exact kk)
  obtain ⟨_, _, ⟨T2, L2, kx2, nx2⟩, -, X2, ⟨Lc2, hQ2, l2, y2, z2⟩, st2⟩ := Jvm.LawKit.callS X0 hx (y := (⟨"com/example/darn6/darn6/GrammarIsDigitPinLaw", "check", "(I)Z"⟩ : MethodName)) hown (mvT hZ (hw _ (List.mem_of_getElem? (i := 2) rfl))) (mvT hZ (hw _ (List.mem_of_getElem? (i := 3) rfl))) (mvT hZ (hw _ (List.mem_of_getElem? (i := 4) rfl))) (mvT hZ (hw _ (List.mem_of_getElem? (i := 5) rfl))) (by decide) (backOf (W := 0) (rmC l Z a0 hw [] p1 h0 n0 Z0 ) hZ (hw _ (List.mem_of_getElem? (i := 5) rfl)) (hw _ (List.mem_of_getElem? (i := 4) rfl)) (by decide) (by decide)) (g := (mkF m 24 #[.val (.int p1), .val (.int p2), .val (.int (((p2 &&& (2147483647 : Int32)) % (14 : Int32)) + (46 : Int32))), .val (.int (p1 &&& (65535 : Int32))), .val (.int (p1 &&& (255 : Int32)))] [(.int p1)])) rfl (by rw [hml]; rfl) (argsL := [(.int p1)]) (rest := []) (lenOf pd_0 rfl) rfl (by show 2 * 0 + _ ≤ _; exact Nat.le_of_eq rfl) (hb hby at_24) (fun _ _ => ⟨rfl, e0, (by decide : 0 + 0 ≤ _), (by decide : 0 + 0 ≤ _)⟩)
  dsimp only [Pt.U, Pt.locs, Pt.cells, Pt.slots] at X2 l2 y2 z2 st2 hQ2
  subst l2 y2 z2
  obtain ⟨rfl, rfl, e2⟩ := hQ2
  try rw [List.append_nil] at X2
  have k2 : Go p e below (s₁.setTop (entryFrame m #[(.int p1), (.int p2)] maxLocals)) (T2.setTop (mkF m 27 #[.val (.int p1), .val (.int p2), .val (.int (((p2 &&& (2147483647 : Int32)) % (14 : Int32)) + (46 : Int32))), .val (.int (p1 &&& (65535 : Int32))), .val (.int (p1 &&& (255 : Int32)))] [(.int (1 : Int32))])) := fun t kk => k1 t (st2 t kk)
  have k3 : Go p e below (s₁.setTop (entryFrame m #[(.int p1), (.int p2)] maxLocals)) (T2.setTop (mkF m 31 #[.val (.int p1), .val (.int p2), .val (.int (((p2 &&& (2147483647 : Int32)) % (14 : Int32)) + (46 : Int32))), .val (.int (p1 &&& (65535 : Int32))), .val (.int (p1 &&& (255 : Int32)))] [(.int (((p2 &&& (2147483647 : Int32)) % (14 : Int32)) + (46 : Int32)))])) := fun t kk => k2 t (by
    show Steps p.tables e below (T2.setTop (mkF m 27 #[.val (.int p1), .val (.int p2), .val (.int (((p2 &&& (2147483647 : Int32)) % (14 : Int32)) + (46 : Int32))), .val (.int (p1 &&& (65535 : Int32))), .val (.int (p1 &&& (255 : Int32)))] [(.int (1 : Int32))])) _
    refine XS.ifNo X2.here hx rfl (hb hby at_27) rfl ((if0 _ _).trans (feq (by decide : ¬ ((1 : Int32) = (0 : Int32)))).1) ?_
    show Steps p.tables e below (T2.setTop (mkF m 30 #[.val (.int p1), .val (.int p2), .val (.int (((p2 &&& (2147483647 : Int32)) % (14 : Int32)) + (46 : Int32))), .val (.int (p1 &&& (65535 : Int32))), .val (.int (p1 &&& (255 : Int32)))] [])) _
    refine XS.iloadN X2.here hx rfl (hb hby at_30) rfl ?_
    exact kk)
  obtain ⟨_, _, ⟨T4, L4, kx4, nx4⟩, -, X4, ⟨Lc4, hQ4, l4, y4, z4⟩, st4⟩ := Jvm.LawKit.callS X2 hx (y := (⟨"com/example/darn6/darn6/GrammarIsDigitPinLaw", "check", "(I)Z"⟩ : MethodName)) hown (mvT hZ (hw _ (List.mem_of_getElem? (i := 2) rfl))) (mvT hZ (hw _ (List.mem_of_getElem? (i := 3) rfl))) (mvT hZ (hw _ (List.mem_of_getElem? (i := 4) rfl))) (mvT hZ (hw _ (List.mem_of_getElem? (i := 5) rfl))) (by decide) (backOf (W := 0) (rmC l Z a0 hw [] (((p2 &&& (2147483647 : Int32)) % (14 : Int32)) + (46 : Int32)) h0 n0 Z0 ) hZ (hw _ (List.mem_of_getElem? (i := 5) rfl)) (hw _ (List.mem_of_getElem? (i := 4) rfl)) (by decide) (by decide)) (g := (mkF m 31 #[.val (.int p1), .val (.int p2), .val (.int (((p2 &&& (2147483647 : Int32)) % (14 : Int32)) + (46 : Int32))), .val (.int (p1 &&& (65535 : Int32))), .val (.int (p1 &&& (255 : Int32)))] [(.int (((p2 &&& (2147483647 : Int32)) % (14 : Int32)) + (46 : Int32)))])) rfl (by rw [hml]; rfl) (argsL := [(.int (((p2 &&& (2147483647 : Int32)) % (14 : Int32)) + (46 : Int32)))]) (rest := []) (lenOf pd_0 rfl) rfl (by show 2 * 0 + _ ≤ _; exact Nat.le_of_eq rfl) (hb hby at_31) (fun _ _ => ⟨rfl, e2, (by decide : 0 + 0 ≤ _), (by decide : 0 + 0 ≤ _)⟩)
  dsimp only [Pt.U, Pt.locs, Pt.cells, Pt.slots] at X4 l4 y4 z4 st4 hQ4
  subst l4 y4 z4
  obtain ⟨rfl, rfl, e4⟩ := hQ4
  try rw [List.append_nil] at X4
  have k4 : Go p e below (s₁.setTop (entryFrame m #[(.int p1), (.int p2)] maxLocals)) (T4.setTop (mkF m 34 #[.val (.int p1), .val (.int p2), .val (.int (((p2 &&& (2147483647 : Int32)) % (14 : Int32)) + (46 : Int32))), .val (.int (p1 &&& (65535 : Int32))), .val (.int (p1 &&& (255 : Int32)))] [(.int (1 : Int32))])) := fun t kk => k3 t (st4 t kk)
  have k5 : Go p e below (s₁.setTop (entryFrame m #[(.int p1), (.int p2)] maxLocals)) (T4.setTop (mkF m 38 #[.val (.int p1), .val (.int p2), .val (.int (((p2 &&& (2147483647 : Int32)) % (14 : Int32)) + (46 : Int32))), .val (.int (p1 &&& (65535 : Int32))), .val (.int (p1 &&& (255 : Int32)))] [(.int (p1 &&& (65535 : Int32)))])) := fun t kk => k4 t (by
    show Steps p.tables e below (T4.setTop (mkF m 34 #[.val (.int p1), .val (.int p2), .val (.int (((p2 &&& (2147483647 : Int32)) % (14 : Int32)) + (46 : Int32))), .val (.int (p1 &&& (65535 : Int32))), .val (.int (p1 &&& (255 : Int32)))] [(.int (1 : Int32))])) _
    refine XS.ifNo X4.here hx rfl (hb hby at_34) rfl ((if0 _ _).trans (feq (by decide : ¬ ((1 : Int32) = (0 : Int32)))).1) ?_
    show Steps p.tables e below (T4.setTop (mkF m 37 #[.val (.int p1), .val (.int p2), .val (.int (((p2 &&& (2147483647 : Int32)) % (14 : Int32)) + (46 : Int32))), .val (.int (p1 &&& (65535 : Int32))), .val (.int (p1 &&& (255 : Int32)))] [])) _
    refine XS.iloadN X4.here hx rfl (hb hby at_37) rfl ?_
    exact kk)
  obtain ⟨_, _, ⟨T6, L6, kx6, nx6⟩, -, X6, ⟨Lc6, hQ6, l6, y6, z6⟩, st6⟩ := Jvm.LawKit.callS X4 hx (y := (⟨"com/example/darn6/darn6/GrammarIsDigitPinLaw", "check", "(I)Z"⟩ : MethodName)) hown (mvT hZ (hw _ (List.mem_of_getElem? (i := 2) rfl))) (mvT hZ (hw _ (List.mem_of_getElem? (i := 3) rfl))) (mvT hZ (hw _ (List.mem_of_getElem? (i := 4) rfl))) (mvT hZ (hw _ (List.mem_of_getElem? (i := 5) rfl))) (by decide) (backOf (W := 0) (rmC l Z a0 hw [] (p1 &&& (65535 : Int32)) h0 n0 Z0 ) hZ (hw _ (List.mem_of_getElem? (i := 5) rfl)) (hw _ (List.mem_of_getElem? (i := 4) rfl)) (by decide) (by decide)) (g := (mkF m 38 #[.val (.int p1), .val (.int p2), .val (.int (((p2 &&& (2147483647 : Int32)) % (14 : Int32)) + (46 : Int32))), .val (.int (p1 &&& (65535 : Int32))), .val (.int (p1 &&& (255 : Int32)))] [(.int (p1 &&& (65535 : Int32)))])) rfl (by rw [hml]; rfl) (argsL := [(.int (p1 &&& (65535 : Int32)))]) (rest := []) (lenOf pd_0 rfl) rfl (by show 2 * 0 + _ ≤ _; exact Nat.le_of_eq rfl) (hb hby at_38) (fun _ _ => ⟨rfl, e4, (by decide : 0 + 0 ≤ _), (by decide : 0 + 0 ≤ _)⟩)
  dsimp only [Pt.U, Pt.locs, Pt.cells, Pt.slots] at X6 l6 y6 z6 st6 hQ6
  subst l6 y6 z6
  obtain ⟨rfl, rfl, e6⟩ := hQ6
  try rw [List.append_nil] at X6
  have k6 : Go p e below (s₁.setTop (entryFrame m #[(.int p1), (.int p2)] maxLocals)) (T6.setTop (mkF m 41 #[.val (.int p1), .val (.int p2), .val (.int (((p2 &&& (2147483647 : Int32)) % (14 : Int32)) + (46 : Int32))), .val (.int (p1 &&& (65535 : Int32))), .val (.int (p1 &&& (255 : Int32)))] [(.int (1 : Int32))])) := fun t kk => k5 t (st6 t kk)
  have k7 : Go p e below (s₁.setTop (entryFrame m #[(.int p1), (.int p2)] maxLocals)) (T6.setTop (mkF m 46 #[.val (.int p1), .val (.int p2), .val (.int (((p2 &&& (2147483647 : Int32)) % (14 : Int32)) + (46 : Int32))), .val (.int (p1 &&& (65535 : Int32))), .val (.int (p1 &&& (255 : Int32)))] [(.int (p1 &&& (255 : Int32)))])) := fun t kk => k6 t (by
    show Steps p.tables e below (T6.setTop (mkF m 41 #[.val (.int p1), .val (.int p2), .val (.int (((p2 &&& (2147483647 : Int32)) % (14 : Int32)) + (46 : Int32))), .val (.int (p1 &&& (65535 : Int32))), .val (.int (p1 &&& (255 : Int32)))] [(.int (1 : Int32))])) _
    refine XS.ifNo X6.here hx rfl (hb hby at_41) rfl ((if0 _ _).trans (feq (by decide : ¬ ((1 : Int32) = (0 : Int32)))).1) ?_
    show Steps p.tables e below (T6.setTop (mkF m 44 #[.val (.int p1), .val (.int p2), .val (.int (((p2 &&& (2147483647 : Int32)) % (14 : Int32)) + (46 : Int32))), .val (.int (p1 &&& (65535 : Int32))), .val (.int (p1 &&& (255 : Int32)))] [])) _
    refine XS.iload X6.here hx rfl (hb hby at_44) rfl ?_
    exact kk)
  obtain ⟨_, _, ⟨T8, L8, kx8, nx8⟩, -, X8, ⟨Lc8, hQ8, l8, y8, z8⟩, st8⟩ := Jvm.LawKit.callS X6 hx (y := (⟨"com/example/darn6/darn6/GrammarIsDigitPinLaw", "check", "(I)Z"⟩ : MethodName)) hown (mvT hZ (hw _ (List.mem_of_getElem? (i := 2) rfl))) (mvT hZ (hw _ (List.mem_of_getElem? (i := 3) rfl))) (mvT hZ (hw _ (List.mem_of_getElem? (i := 4) rfl))) (mvT hZ (hw _ (List.mem_of_getElem? (i := 5) rfl))) (by decide) (backOf (W := 0) (rmC l Z a0 hw [] (p1 &&& (255 : Int32)) h0 n0 Z0 ) hZ (hw _ (List.mem_of_getElem? (i := 5) rfl)) (hw _ (List.mem_of_getElem? (i := 4) rfl)) (by decide) (by decide)) (g := (mkF m 46 #[.val (.int p1), .val (.int p2), .val (.int (((p2 &&& (2147483647 : Int32)) % (14 : Int32)) + (46 : Int32))), .val (.int (p1 &&& (65535 : Int32))), .val (.int (p1 &&& (255 : Int32)))] [(.int (p1 &&& (255 : Int32)))])) rfl (by rw [hml]; rfl) (argsL := [(.int (p1 &&& (255 : Int32)))]) (rest := []) (lenOf pd_0 rfl) rfl (by show 2 * 0 + _ ≤ _; exact Nat.le_of_eq rfl) (hb hby at_46) (fun _ _ => ⟨rfl, e6, (by decide : 0 + 0 ≤ _), (by decide : 0 + 0 ≤ _)⟩)
  dsimp only [Pt.U, Pt.locs, Pt.cells, Pt.slots] at X8 l8 y8 z8 st8 hQ8
  subst l8 y8 z8
  obtain ⟨rfl, rfl, e8⟩ := hQ8
  try rw [List.append_nil] at X8
  have k8 : Go p e below (s₁.setTop (entryFrame m #[(.int p1), (.int p2)] maxLocals)) (T8.setTop (mkF m 49 #[.val (.int p1), .val (.int p2), .val (.int (((p2 &&& (2147483647 : Int32)) % (14 : Int32)) + (46 : Int32))), .val (.int (p1 &&& (65535 : Int32))), .val (.int (p1 &&& (255 : Int32)))] [(.int (1 : Int32))])) := fun t kk => k7 t (st8 t kk)
  have k9 : Go p e below (s₁.setTop (entryFrame m #[(.int p1), (.int p2)] maxLocals)) (T8.setTop (mkF m 57 #[.val (.int p1), .val (.int p2), .val (.int (((p2 &&& (2147483647 : Int32)) % (14 : Int32)) + (46 : Int32))), .val (.int (p1 &&& (65535 : Int32))), .val (.int (p1 &&& (255 : Int32)))] [(.int (1 : Int32))])) := fun t kk => k8 t (by
    show Steps p.tables e below (T8.setTop (mkF m 49 #[.val (.int p1), .val (.int p2), .val (.int (((p2 &&& (2147483647 : Int32)) % (14 : Int32)) + (46 : Int32))), .val (.int (p1 &&& (65535 : Int32))), .val (.int (p1 &&& (255 : Int32)))] [(.int (1 : Int32))])) _
    refine XS.ifNo X8.here hx rfl (hb hby at_49) rfl ((if0 _ _).trans (feq (by decide : ¬ ((1 : Int32) = (0 : Int32)))).1) ?_
    show Steps p.tables e below (T8.setTop (mkF m 52 #[.val (.int p1), .val (.int p2), .val (.int (((p2 &&& (2147483647 : Int32)) % (14 : Int32)) + (46 : Int32))), .val (.int (p1 &&& (65535 : Int32))), .val (.int (p1 &&& (255 : Int32)))] [])) _
    refine XS.iconst X8.here hx rfl (hb hby at_52) ?_
    show Steps p.tables e below (T8.setTop (mkF m 53 #[.val (.int p1), .val (.int p2), .val (.int (((p2 &&& (2147483647 : Int32)) % (14 : Int32)) + (46 : Int32))), .val (.int (p1 &&& (65535 : Int32))), .val (.int (p1 &&& (255 : Int32)))] [(.int (1 : Int32))])) _
    refine XS.goto X8.here hx rfl (pc0 := 53) (pc' := 57) rfl (hb hby at_53) (by decide) (by decide) ?_
    exact kk)
  obtain ⟨fs, hr, hrun, hended, hW, hsame⟩ := X8.leave (v := some (.int (1 : Int32))) (fun h => by rw [Bd.returns] at h; cases h)
  refine ⟨_, _, k9 _ ?_, hrun, hended, _, _, rfl, ?_, ⟨_, rfl⟩, hW, hsame.mono (by decide) (by decide)⟩
  · show Steps p.tables e below (T8.setTop (mkF m 57 #[.val (.int p1), .val (.int p2), .val (.int (((p2 &&& (2147483647 : Int32)) % (14 : Int32)) + (46 : Int32))), .val (.int (p1 &&& (65535 : Int32))), .val (.int (p1 &&& (255 : Int32)))] [(.int (1 : Int32))])) _
    exact retN X8 hx (t := .boolean) Bd.returns (by simp) (hb hby at_57) hr
  · show Q0 Z p1 p2 h0 n0 _ T8.heap _
    rw [e8]
    exact ⟨rfl, N0⟩
set_option maxRecDepth 65536 in
set_option maxHeartbeats 40000000 in
theorem comes_1 {Post : Tables → Env → Array Value → State → Outcome → State → Prop} (hpost : ∀ tb e args s v u, (limb_1_1.after args s (.returned v) u = true ∧ limb_1_2.after args s (.returned v) u = true ∧ True) → FrameEnd s (.returned v) u (Jvm.fieldLocs frame_1_writes args s ++ Jvm.arrayLocs frame_1_arrays args s ++ Jvm.staticLocs frame_1_statics s) 0 0 → Post tb e args s (.returned v) u) :
    ArmFor flags0 classFile x code maxLocals ret World_1 tables_1 room_1 Calls_1 rest_1 Pre_1 Post := by
  intro l hfl _ _ p e ha hc hk s m args below hf hA hF happ hP
  obtain ⟨hcalls, hrest, hpre⟩ := hP
  obtain ⟨-, -, -, hnamed, -, -, -, hat⟩ := (Spec.applies_iff hf).mp happ
  obtain ⟨hg, hn⟩ := and_e (Cond.before_iff.mp (show (Jvm.Cond.and given_1 narrow_1).before args s = true from hpre))
  obtain ⟨g1, g2⟩ := and_e hg
  obtain ⟨g3, g4⟩ := and_e g2
  obtain ⟨w0, w1, rfl⟩ : ∃ w0 w1 : Value, args = #[w0, w1] := by
    have hs : args.size = 2 := by simpa [Cond.value, given_1] using g1
    obtain ⟨L⟩ := args
    match L, hs with
    | [w0, w1], _ => exact ⟨w0, w1, rfl⟩
  have hw := fun d (hd : d ∈ tables_1) => atoms_spec (ws := Jvm.Cond.code x code maxLocals ret :: tables_1) hat d (List.mem_cons_of_mem _ hd)
  have hfit : Fit s := fun {y c} hc i hi => by
    obtain ⟨ha, rfl⟩ := Array.getElem?_eq_some_iff.mp hc
    have q := List.all_eq_true.mp ((Array.all_eq_true_iff_forall_mem.mp hF) _ (Array.getElem_mem ha)) i (List.mem_range.mpr hi)
    simpa [Array.getElem?_eq_getElem hi] using q
  obtain ⟨i0, ei0⟩ := is_v g3
  obtain rfl : w0 = (.int i0) := Option.some.inj ei0
  obtain ⟨i1, ei1⟩ := is_v g4
  obtain rfl : w1 = (.int i1) := Option.some.inj ei1
  obtain ⟨n, o, h1, h2, h3, _, L, rfl, ⟨rfl, N⟩, hq⟩ := rm0 l s _ hw tables_1 i0 i1  s.heap s.heap.size (Nat.le_refl _)  p e ha hc hk s m _ below hf ((Spec.applies_iff_loose hf).mp happ).1 ⟨rfl, State.Warmed39.refl s, rfl⟩ trivial
  refine ⟨n, _, h1, h2, h3, hpost _ _ _ _ _ _ ⟨Cond.after_iff.mpr rfl, Cond.after_iff.mpr (eq_i res_at (Term.int_eval (1)) rfl), trivial⟩ ⟨hq.1, hq.2.1, (hq.2.2.sift fun y hy => Or.inr (N y hy)).mono (by decide) (by decide)⟩⟩
theorem main_1_1 : Claimed_1_1 := comes_1 fun _ _ _ _ _ _ h hF => ⟨h.1, hF⟩
theorem main_1_2 : Claimed_1_2 := comes_1 fun _ _ _ _ _ _ h hF => ⟨h.2.1, hF⟩
end Jvm.Pilot.@@N@@
namespace Jvm.Pilot.@@N@@
open Jvm Jvm.ClassFile Sem Op Lib Jvm.Free Jvm.Stand Jvm.Pilot.@@N@@.Jvm.D
/-! MADE BY PROGRAM (witnessworld.py) out of the Statement's table words and the real class files: 12 classes; the members and pool entries that the words name. The judged class is class 1, her method 1. -/
namespace start1
open Jvm.ClassFile
def u (s : String) : CpInfo := .utf8 (stringToUtf16 s)
/-- a pool by its gaps: so many unusable entries, then the entry; so many at the end -/
def gap : Nat → List CpInfo → List CpInfo
  | 0, r => r
  | n + 1, r => .unusable :: gap n r
def poolList (es : List (Nat × CpInfo)) (last : Nat) : List CpInfo := es.foldr (fun e r => gap e.1 (e.2 :: r)) (gap last [])
def pool (es : List (Nat × CpInfo)) (last : Nat) : Array CpInfo := ⟨poolList es last⟩
def fileOf (pool : Array CpInfo) (this : Nat) (attrs : Array Attribute := #[]) (ms : Array MethodInfo := #[]) (fl : Nat := 33) (sup : Nat := 0) (ifs : Array Nat := #[]) (fds : Array FieldInfo := #[]) : ClassFile where
  minorVersion := 0
  majorVersion := 65
  constantPool := pool
  accessFlags := fl
  thisClass := this
  superClass := sup
  interfaces := ifs
  fields := fds
  methods := ms
  attributes := attrs
def plain (name : String) (sup : Option ClassId) : Class where
  name := name
  kind := .ordinary
  loader := none
  accessFlags := 33
  super := sup
  interfaces := #[]
  cf := none
  fields := #[]
  methods := #[]
  instanceTypes := #[]
  staticTypes := #[]
  resolved := #[]
  callSites := []
  init := .initialized
  statics := none
  mirror := none

def pool0 : Array CpInfo := pool [(5, u "<init>"), (0, u "()V"), (1, .class_ 10), (1, u "java/lang/Object")] 113

def k0m0 : Method := { name := "<init>", desc := "()V", sig := { parameters := [], returnType := none }, accessFlags := 1, code := none }
/-- java/lang/Object -/
def k0 : Class := { plain "java/lang/Object" none with
  accessFlags := 33
  interfaces := #[]
  cf := some (fileOf pool0 8 #[] #[{ accessFlags := 1, nameIndex := 5, descriptorIndex := 6, attributes := #[] }] 33 0 #[] #[])
  fields := #[]
  methods := #[k0m0]
  instanceTypes := #[]
  staticTypes := #[]
  resolved := Array.replicate 124 none
  statics := none }

def pool1 : Array CpInfo := pool [(2, .class_ 4), (1, u "java/lang/Object"), (0, u "<init>"), (0, u "()V"), (0, .integer 2147483647), (0, .integer 65535), (0, .methodref 10 11), (0, .class_ 12), (0, .nameAndType 13 14), (0, u "com/example/darn6/darn6/GrammarIsDigitPinLaw"), (0, u "check"), (0, u "(I)Z"), (0, .methodref 16 17), (0, .class_ 18), (0, .nameAndType 19 14), (0, u "com/example/darn6/darn6/JsonNumber$Grammar"), (0, u "isDigit"), (2, u "law"), (0, u "(II)Z")] 7

def k1m0 : Method := { name := "<init>", desc := "()V", sig := { parameters := [], returnType := none }, accessFlags := 2, code := none }
def k1c1 : Code := { maxStack := 2, maxLocals := 5, code := code, exceptionTable := #[], attributes := #[] }
def k1m1 : Method := { name := "law", desc := "(II)Z", sig := { parameters := [.int, .int], returnType := some .boolean }, accessFlags := 9, code := some k1c1 }
def k1c2 : Code := { maxStack := 2, maxLocals := 2, code := method_3_code, exceptionTable := #[], attributes := #[] }
def k1m2 : Method := { name := "check", desc := "(I)Z", sig := { parameters := [.int], returnType := some .boolean }, accessFlags := 10, code := some k1c2 }
/-- com/example/darn6/darn6/GrammarIsDigitPinLaw -/
def k1 : Class := { plain "com/example/darn6/darn6/GrammarIsDigitPinLaw" (some 0) with
  accessFlags := 49
  interfaces := #[]
  cf := some (fileOf pool1 10 #[] #[{ accessFlags := 2, nameIndex := 5, descriptorIndex := 6, attributes := #[] }, { accessFlags := 9, nameIndex := 22, descriptorIndex := 23, attributes := #[] }, { accessFlags := 10, nameIndex := 13, descriptorIndex := 14, attributes := #[] }] 49 2 #[] #[])
  fields := #[]
  methods := #[k1m0, k1m1, k1m2]
  instanceTypes := #[]
  staticTypes := #[]
  resolved := Array.replicate 31 none
  statics := none }

def pool2 : Array CpInfo := pool [(1, .class_ 2), (0, u "java/lang/constant/Constable"), (0, .class_ 4), (0, u "java/lang/Object")] 6

/-- java/lang/constant/Constable -/
def k2 : Class := { plain "java/lang/constant/Constable" (some 0) with
  accessFlags := 1537
  interfaces := #[]
  cf := some (fileOf pool2 1 #[] #[] 1537 3 #[] #[])
  fields := #[]
  methods := #[]
  instanceTypes := #[]
  staticTypes := #[]
  resolved := Array.replicate 11 none
  statics := none }

def pool3 : Array CpInfo := pool [(1, .class_ 2), (0, u "java/lang/Comparable"), (0, .class_ 4), (0, u "java/lang/Object")] 7

/-- java/lang/Comparable -/
def k3 : Class := { plain "java/lang/Comparable" (some 0) with
  accessFlags := 1537
  interfaces := #[]
  cf := some (fileOf pool3 1 #[] #[] 1537 3 #[] #[])
  fields := #[]
  methods := #[]
  instanceTypes := #[]
  staticTypes := #[]
  resolved := Array.replicate 12 none
  statics := none }

def pool4 : Array CpInfo := pool [(1, .class_ 2), (0, u "java/io/Serializable"), (0, .class_ 4), (0, u "java/lang/Object")] 2

/-- java/io/Serializable -/
def k4 : Class := { plain "java/io/Serializable" (some 0) with
  accessFlags := 1537
  interfaces := #[]
  cf := some (fileOf pool4 1 #[] #[] 1537 3 #[] #[])
  fields := #[]
  methods := #[]
  instanceTypes := #[]
  staticTypes := #[]
  resolved := Array.replicate 7 none
  statics := none }

def pool5 : Array CpInfo := pool [(2, .class_ 4), (1, u "java/lang/Enum"), (0, u "name"), (0, u "Ljava/lang/String;"), (2, u "ordinal"), (0, u "I"), (1, .class_ 14), (1, u "java/lang/Object"), (4, u "hash"), (86, .class_ 108), (1, u "java/lang/Enum$EnumDesc"), (2, .class_ 112), (0, u "java/lang/constant/Constable"), (0, .class_ 114), (0, u "java/lang/Comparable"), (0, .class_ 116), (0, u "java/io/Serializable")] 87

/-- java/lang/Enum -/
def k5 : Class := { plain "java/lang/Enum" (some 0) with
  accessFlags := 1057
  interfaces := #[2, 3, 4]
  cf := some (fileOf pool5 2 #[.nestMembers #[106]] #[] 1057 12 #[111, 113, 115] #[{ accessFlags := 18, nameIndex := 5, descriptorIndex := 6, attributes := #[] }, { accessFlags := 18, nameIndex := 9, descriptorIndex := 10, attributes := #[] }, { accessFlags := 2, nameIndex := 19, descriptorIndex := 10, attributes := #[] }])
  fields := #[{ name := "name", type := (.object "java/lang/String"), accessFlags := 18, slot := 0, constantValue := 0 }, { name := "ordinal", type := .int, accessFlags := 18, slot := 1, constantValue := 0 }, { name := "hash", type := .int, accessFlags := 2, slot := 2, constantValue := 0 }]
  methods := #[]
  instanceTypes := #[(.object "java/lang/String"), .int, .int]
  staticTypes := #[]
  resolved := Array.replicate 204 none
  statics := none }

def pool6 : Array CpInfo := pool [(1, .class_ 2), (0, u "com/example/darn6/darn6/JsonNumber$Grammar"), (2, u "START"), (0, u "Lcom/example/darn6/darn6/JsonNumber$Grammar;"), (2, u "MINUS"), (2, u "ZERO"), (2, u "INTEGER"), (2, u "POINT"), (2, u "FRACTION"), (2, u "MARK"), (2, u "SIGN"), (2, u "EXPONENT"), (2, u "$VALUES"), (0, u "[Lcom/example/darn6/darn6/JsonNumber$Grammar;"), (6, .class_ 43), (1, u "java/lang/Enum"), (8, u "isDigit"), (0, u "(I)Z"), (58, .class_ 113), (0, u "com/example/darn6/darn6/JsonNumber")] 2

def k6c0 : Code := { maxStack := 2, maxLocals := 1, code := prog_40_method_8_code, exceptionTable := #[], attributes := #[] }
def k6m0 : Method := { name := "isDigit", desc := "(I)Z", sig := { parameters := [.int], returnType := some .boolean }, accessFlags := 8, code := some k6c0 }
/-- com/example/darn6/darn6/JsonNumber$Grammar -/
def k6 : Class := { plain "com/example/darn6/darn6/JsonNumber$Grammar" (some 5) with
  accessFlags := 16432
  interfaces := #[]
  cf := some (fileOf pool6 1 #[.nestHost 112] #[{ accessFlags := 8, nameIndex := 52, descriptorIndex := 53, attributes := #[] }] 16432 41 #[] #[{ accessFlags := 16409, nameIndex := 5, descriptorIndex := 6, attributes := #[] }, { accessFlags := 16409, nameIndex := 9, descriptorIndex := 6, attributes := #[] }, { accessFlags := 16409, nameIndex := 12, descriptorIndex := 6, attributes := #[] }, { accessFlags := 16409, nameIndex := 15, descriptorIndex := 6, attributes := #[] }, { accessFlags := 16409, nameIndex := 18, descriptorIndex := 6, attributes := #[] }, { accessFlags := 16409, nameIndex := 21, descriptorIndex := 6, attributes := #[] }, { accessFlags := 16409, nameIndex := 24, descriptorIndex := 6, attributes := #[] }, { accessFlags := 16409, nameIndex := 27, descriptorIndex := 6, attributes := #[] }, { accessFlags := 16409, nameIndex := 30, descriptorIndex := 6, attributes := #[] }, { accessFlags := 4122, nameIndex := 33, descriptorIndex := 34, attributes := #[] }])
  fields := #[{ name := "START", type := (.object "com/example/darn6/darn6/JsonNumber$Grammar"), accessFlags := 16409, slot := 0, constantValue := 0 }, { name := "MINUS", type := (.object "com/example/darn6/darn6/JsonNumber$Grammar"), accessFlags := 16409, slot := 1, constantValue := 0 }, { name := "ZERO", type := (.object "com/example/darn6/darn6/JsonNumber$Grammar"), accessFlags := 16409, slot := 2, constantValue := 0 }, { name := "INTEGER", type := (.object "com/example/darn6/darn6/JsonNumber$Grammar"), accessFlags := 16409, slot := 3, constantValue := 0 }, { name := "POINT", type := (.object "com/example/darn6/darn6/JsonNumber$Grammar"), accessFlags := 16409, slot := 4, constantValue := 0 }, { name := "FRACTION", type := (.object "com/example/darn6/darn6/JsonNumber$Grammar"), accessFlags := 16409, slot := 5, constantValue := 0 }, { name := "MARK", type := (.object "com/example/darn6/darn6/JsonNumber$Grammar"), accessFlags := 16409, slot := 6, constantValue := 0 }, { name := "SIGN", type := (.object "com/example/darn6/darn6/JsonNumber$Grammar"), accessFlags := 16409, slot := 7, constantValue := 0 }, { name := "EXPONENT", type := (.object "com/example/darn6/darn6/JsonNumber$Grammar"), accessFlags := 16409, slot := 8, constantValue := 0 }, { name := "$VALUES", type := (.array (.object "com/example/darn6/darn6/JsonNumber$Grammar")), accessFlags := 4122, slot := 9, constantValue := 0 }]
  methods := #[k6m0]
  instanceTypes := #[(.object "java/lang/String"), .int, .int]
  staticTypes := #[(.object "com/example/darn6/darn6/JsonNumber$Grammar"), (.object "com/example/darn6/darn6/JsonNumber$Grammar"), (.object "com/example/darn6/darn6/JsonNumber$Grammar"), (.object "com/example/darn6/darn6/JsonNumber$Grammar"), (.object "com/example/darn6/darn6/JsonNumber$Grammar"), (.object "com/example/darn6/darn6/JsonNumber$Grammar"), (.object "com/example/darn6/darn6/JsonNumber$Grammar"), (.object "com/example/darn6/darn6/JsonNumber$Grammar"), (.object "com/example/darn6/darn6/JsonNumber$Grammar"), (.array (.object "com/example/darn6/darn6/JsonNumber$Grammar"))]
  resolved := Array.replicate 116 none
  statics := none }

def pool7 : Array CpInfo := pool [(1, u "java/lang/Cloneable"), (0, .class_ 1), (0, u "java/lang/Object"), (0, .class_ 3)] 3

/-- java/lang/Cloneable -/
def k7 : Class := { plain "java/lang/Cloneable" (some 0) with
  accessFlags := 1537
  interfaces := #[]
  cf := some (fileOf pool7 2 #[] #[] 1537 4 #[] #[])
  fields := #[]
  methods := #[]
  instanceTypes := #[]
  staticTypes := #[]
  resolved := Array.replicate 8 none
  statics := none }

/-- the primitive byte -/
def k8 : Class := { plain "byte" none with kind := .primitive 'B', accessFlags := 0x411 }
/-- [B -/
def k9 : Class := { plain "[B" (some 0) with kind := .array 8 .byte, interfaces := #[7, 4], accessFlags := 1041 }

/-- the primitive int -/
def k10 : Class := { plain "int" none with kind := .primitive 'I', accessFlags := 0x411 }
/-- [I -/
def k11 : Class := { plain "[I" (some 0) with kind := .array 10 .int, interfaces := #[7, 4], accessFlags := 1041 }

def heap : Heap := #[]
def classes : Array Class := #[k0, k1, k2, k3, k4, k5, k6, k7, k8, k9, k10, k11]
def interned : List (Array UInt16 × Addr) := []
def slotsUsed : Nat := 0
def theMethod : MethodId := ⟨1, 1⟩
def args0 : Array Value := #[.int 5, .int 6]
def aboutOver (below : List Frame) : State where
  vm := { classes := classes, interned := interned.toArray }
  heap := heap
  slotsUsed := slotsUsed
  threads := #[{ frames := .invoking theMethod args0 :: below }]
def below0 : List Frame := [.native { method := ⟨0, 0⟩, args := #[] }]
def about1 : State := aboutOver below0
def p0 : Program := .bare "" "" ""
def e0 : Env := launch0.env 0 0 0
theorem w_frames : about1.frames = Frame.invoking theMethod args0 :: below0 := rfl
set_option maxRecDepth 65536 in
theorem w_args : argsFit about1.vm theMethod args0 = true := by decide +kernel
set_option maxRecDepth 65536 in
theorem w_heap : heapFits about1 = true := by decide +kernel
set_option maxRecDepth 65536 in
theorem w_runnable : about1.curStatus? = some .runnable := by decide +kernel
set_option maxRecDepth 65536 in
theorem w_alone : about1.alone = true := by decide +kernel
set_option maxRecDepth 65536 in
theorem w_named : about1.methodNamed? x = some theMethod := by decide +kernel
set_option maxRecDepth 65536 in
theorem w_hears : about1.hears theMethod below0 = true := by decide +kernel
set_option maxRecDepth 65536 in
theorem w_ripe : about1.ripe theMethod args0 below0 = true := by decide +kernel
theorem w_running : about1.status = .running := rfl
set_option maxRecDepth 65536 in
theorem w_room : about1.hasRoom e0.platform room_1 = true :=
  launch0.hasRoom_least _ room_1 (by decide +kernel) (by decide +kernel) (by decide +kernel) (by decide +kernel) (by decide +kernel) (by decide +kernel)
theorem allAtoms_all (ts : List Jvm.Cond) (a : Array Jvm.Value) (st : Jvm.State) : (allAtoms ts).before a st = ts.all (fun c => c.before a st) := by
  induction ts with
  | nil => rfl
  | cons c t ih =>
    show (Jvm.Cond.and c (allAtoms t)).before a st = _
    rw [Jvm.Cond.before_and, ih, List.all_cons]
def words1 : List Jvm.Cond := Jvm.Cond.code x code maxLocals ret :: tables_1
/-- a 'code' word, met by the world's own term for the bytes: nothing is compared byte by byte -/
theorem code_word {y : MethodName} {bytes : ByteArray} {mx : Nat} {rt : Option FieldType} {a : Array Value} {s : State} {m : MethodId} {meth : Method} {c : Code} (h1 : s.methodNamed? y = some m) (h2 : s.vm.method? m = some meth) (h3 : meth.code = some c) (h4 : c.code = bytes)
    (h5 : (c.maxLocals == mx && c.exceptionTable.isEmpty && decide (c.maxStack ≤ mostOperands) && decide (meth.sig.returnType = rt) && !meth.locks && decide (parseMethodDescriptor y.desc = some meth.sig)) = true) : (Jvm.Cond.code y bytes mx rt).before a s = true := by
  simp only [Bool.and_eq_true, beq_iff_eq, Bool.not_eq_true', decide_eq_true_eq] at h5
  obtain ⟨⟨⟨⟨⟨g1, g2⟩, g3⟩, g4⟩, g5⟩, g6⟩ := h5
  simp [Cond.before, Cond.holds, Cond.value, h1, h2, h3, h4, g1, g2, g3, g4, g5, g6]
def isCode : Jvm.Cond → Bool
  | .code _ _ _ _ => true
  | _ => false
theorem all_split {L : List Jvm.Cond} {P : Jvm.Cond → Bool} (h1 : L.all (fun c => isCode c || P c) = true) (h2 : ∀ c ∈ L.filter isCode, P c = true) : L.all P = true := by
  refine List.all_eq_true.mpr fun c hc => ?_
  have h := List.all_eq_true.mp h1 c hc
  rcases Bool.eq_false_or_eq_true (isCode c) with hi | hi
  · exact h2 c (List.mem_filter.mpr ⟨hc, hi⟩)
  · simpa [hi] using h
set_option maxRecDepth 65536 in
theorem w_c0 : (Jvm.Cond.code x code maxLocals ret).before args0 about1 = true := code_word (m := ⟨1, 1⟩) (meth := k1m1) (c := k1c1) (by decide +kernel) rfl rfl rfl (by decide +kernel)
set_option maxRecDepth 65536 in
theorem w_c1 : (Jvm.Cond.code ({ cls := "com/example/darn6/darn6/GrammarIsDigitPinLaw", name := "check", desc := "(I)Z" } : Jvm.MethodName) method_3_code (2 : Nat) (Option.some Jvm.ClassFile.FieldType.boolean)).before args0 about1 = true := code_word (m := ⟨1, 2⟩) (meth := k1m2) (c := k1c2) (by decide +kernel) rfl rfl rfl (by decide +kernel)
set_option maxRecDepth 65536 in
theorem w_c2 : (Jvm.Cond.code ({ cls := "com/example/darn6/darn6/JsonNumber$Grammar", name := "isDigit", desc := "(I)Z" } : Jvm.MethodName) prog_40_method_8_code (1 : Nat) (Option.some Jvm.ClassFile.FieldType.boolean)).before args0 about1 = true := code_word (m := ⟨6, 0⟩) (meth := k6m0) (c := k6c0) (by decide +kernel) rfl rfl rfl (by decide +kernel)
def codes1 : List Jvm.Cond := [Jvm.Cond.code x code maxLocals ret, Jvm.Cond.code ({ cls := "com/example/darn6/darn6/GrammarIsDigitPinLaw", name := "check", desc := "(I)Z" } : Jvm.MethodName) method_3_code (2 : Nat) (Option.some Jvm.ClassFile.FieldType.boolean), Jvm.Cond.code ({ cls := "com/example/darn6/darn6/JsonNumber$Grammar", name := "isDigit", desc := "(I)Z" } : Jvm.MethodName) prog_40_method_8_code (1 : Nat) (Option.some Jvm.ClassFile.FieldType.boolean)]
set_option maxRecDepth 65536 in
theorem codes_eq : words1.filter isCode = codes1 := rfl
theorem w_codes : ∀ c ∈ words1.filter isCode, c.before args0 about1 = true := by
  rw [codes_eq]
  intro c hc
  simp only [codes1, List.mem_cons, List.not_mem_nil, or_false] at hc
  rcases hc with rfl | rfl | rfl
  · exact w_c0
  · exact w_c1
  · exact w_c2
set_option maxRecDepth 65536 in
theorem w_t1 : words1.all (fun c => isCode c || c.before args0 about1) = true := by decide +kernel
theorem w_tables : (allAtoms (Jvm.Cond.code x code maxLocals ret :: tables_1)).before args0 about1 = true := by
  rw [allAtoms_all]
  show words1.all (fun c => c.before args0 about1) = true
  refine all_split ?_ w_codes
  rw [w_t1]
set_option maxRecDepth 65536 in
theorem w_case : (Jvm.Cond.and given_1 narrow_1).before args0 about1 = true := by decide +kernel
theorem w_applies : (headSpec (Jvm.Cond.code x code maxLocals ret :: tables_1) room_1).applies x e0.platform about1 = true :=
  (Spec.applies_iff w_frames).mpr ⟨w_running, w_runnable, w_alone, w_named, w_hears, w_ripe, w_room, w_tables⟩
theorem atStart : AtStart classFile x code maxLocals ret World_1 tables_1 room_1 Calls_1 rest_1 Pre_1 launch0 p0 e0 about1 theMethod args0 below0 :=
  ⟨lists_1, trivial, launch0.admits_env _ _ _, launch0.least_env, fairChoices_fair.cas, fairChoices_fair.clock, w_frames, w_args, w_heap, w_applies, trivial, trivial, w_case⟩
end start1
theorem witness_1 : WitnessClaimed_1 := ⟨start1.p0, start1.e0, start1.about1, start1.theMethod, start1.args0, start1.below0, start1.atStart⟩
end Jvm.Pilot.@@N@@
