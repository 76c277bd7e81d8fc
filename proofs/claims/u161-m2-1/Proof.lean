import JvmDerived
import JvmDerived.Pilot.@@N@@Statement
import JvmDerived.Pilot.@@N@@Code
set_option linter.unusedVariables false
set_option linter.unusedSimpArgs false
namespace Jvm.RoadKit
open Sem ClassFile Op Lib Jvm.Stand Jvm.Free Jvm.LawKit
section New
variable {p : Program} {l : Launch} {e : Env} {R : Room} {s : State} {m : MethodId} {args : Array Value} {below : List Frame} {meth : Method} {c : Code} {T : State} {locs : List Loc} {cells slots : Nat}
theorem retI (X : Stand p l e R s m args below meth c T locs cells slots) (hx : p.tables.exec = Jvm.exec) {pc : Nat} {Ls : Array Slot} {z : Int32} {rest : List Value} (hret : meth.sig.returnType = some .int) (hd : decode c.code pc = .ok (.ireturn, 1)) {fs : List Frame}
    (hl : ∀ (f : JFrame) (acts : List Action), f.method = m → f.locked = none → f.entered = [] → (doReturn e (T.setTop f) acts (some (.int z))).1 = T.setFrames fs) : Steps p.tables e below (T.setTop (mkF m pc Ls (.int z :: rest))) (T.setFrames fs) := by
  have hm' : T.vm.method? m = some meth := X.method'
  have hn : narrow .int (.int z) = .int z := rfl
  show Steps p.tables e below (T.setTop { method := m, pc := pc, locals := Ls, stack := _ :: rest, locked := none }) _
  jvm_step X.here [X.here.top, hx, hd, hm', hret, hn]
  first | (intro acts; rw [hl _ acts rfl rfl rfl]) | rw [hl _ _ rfl rfl rfl]
  exact Steps.refl _
/-- whatever is reached from the one state is reached from the other -/
def Go (p : Program) (e : Env) (below : List Frame) (A B : State) : Prop := ∀ t, Steps p.tables e below B t → Steps p.tables e below A t
end New
end Jvm.RoadKit
namespace Jvm.Pilot.@@N@@
open Jvm Jvm.ClassFile Sem Op Lib Jvm.Free Jvm.Stand Jvm.LawKit Jvm.RoadKit Bundle Jvm.Pilot.@@N@@.Jvm.D
def own_max (a b : Int32) : Int32 := if a < b then b else a
def own_last (c n st : Int32) : Int32 := if (c % n) + 1 = st then 1 else 0
def own_rnd (c n st r : Int32) : Int32 := if own_last c n st = 0 then r else r + 1
theorem own_last01 (c n st : Int32) : nar .boolean (own_last c n st) = own_last c n st := by
  unfold own_last; split <;> rfl
theorem djdk_29_method_65_code_0 : decode jdk_29_method_65_code 0 = .ok (.iload_n 0, 1) := by decide +kernel
theorem djdk_29_method_65_code_1 : decode jdk_29_method_65_code 1 = .ok (.iload_n 1, 1) := by decide +kernel
theorem djdk_29_method_65_code_2 : decode jdk_29_method_65_code 2 = .ok (.if_icmp .lt 7, 3) := by decide +kernel
theorem djdk_29_method_65_code_9 : decode jdk_29_method_65_code 9 = .ok (.iload_n 1, 1) := by decide +kernel
theorem djdk_29_method_65_code_5 : decode jdk_29_method_65_code 5 = .ok (.iload_n 0, 1) := by decide +kernel
theorem djdk_29_method_65_code_6 : decode jdk_29_method_65_code 6 = .ok (.goto 4, 3) := by decide +kernel
theorem djdk_29_method_65_code_10 : decode jdk_29_method_65_code 10 = .ok (.ireturn, 1) := by decide +kernel
theorem ef_rmM (m : MethodId) (x0 : Int32) (x1 : Int32) : entryFrame m #[(.int x0), (.int x1)] 2 = mkF m 0 #[.val (.int x0), .val (.int x1)] [] := by first | (simp [entryFrame, mkF, argsToLocals, Value.category]; done) | rfl
def QM (Z : State) (p1 : Int32) (p2 : Int32) (h0 : Heap) (n0 : Nat) (v : Option Value) (h : Heap) (L : List Loc) : Prop := v = some (.int (own_max p1 p2)) ∧ L = [] ∧ h = h0
set_option maxRecDepth 65536 in
set_option maxHeartbeats 40000000 in
theorem rmM (l : Launch) (Z : State) (a0 : Array Value) (hw : ∀ d ∈ tables_1, d.before a0 Z = true) (ws : List Jvm.Cond) (p1 : Int32) (p2 : Int32) (h0 : Heap) (n0 : Nat) (Z0 : n0 ≤ h0.size) :
    MetFree l (⟨"java/lang/Math", "max", "(II)I"⟩ : MethodName) (head1 (Jvm.Cond.code (⟨"java/lang/Math", "max", "(II)I"⟩ : MethodName) jdk_29_method_65_code 2 (some .int) :: ws) ({ frames := 0, cells := 0, slots := 0, locals := 0 } : Room)) (fun a U => a = #[(.int p1), (.int p2)] ∧ Z.Warmed39 U.vm ∧ U.heap = h0) (fun _ _ _ _ _ => True) (fun _ U o U' => ∃ v L, o = .returned v ∧ QM Z p1 p2 h0 n0 v U'.heap L ∧ FrameEnd U o U' L ({ frames := 0, cells := 0, slots := 0, locals := 0 } : Room).cells ({ frames := 0, cells := 0, slots := 0, locals := 0 } : Room).slots) := by
  refine MetFree.of_bodySF (Jvm.Free.JP.mathPlain rfl (by decide +kernel)) hisR ?_
  intro p e s m args below meth c s₁ Bd hml0 hP hK
  obtain ⟨rfl, hZ, hh⟩ := hP
  have hx := Bd.exec
  have hby := Bd.bytes
  have hml : c.maxLocals = 2 := hml0
  have hown : s.vm.findClass "java/lang/Math" = some m.cls := findClass_of_methodNamed Bd.named
  have hnm := (name_of_methodNamed Bd.named Bd.method).1
  have X0 : Stand p l e ({ frames := 0, cells := 0, slots := 0, locals := 0 } : Room) s m #[(.int p1), (.int p2)] below meth c s₁ [] 0 0 := Stand.of_body Bd
  have e0 : s₁.heap = h0 := by rw [← hh, Bd.state]; rfl
  have N0 := Fr.nil n0
  have k0 : Go p e below (s₁.setTop (entryFrame m #[(.int p1), (.int p2)] 2)) (s₁.setTop (mkF m 0 #[.val (.int p1), .val (.int p2)] [])) := fun t k => castTop (ef_rmM m p1 p2) k
  obtain ⟨v1, hj1, k1⟩ : ∃ v1 : Int32, (v1 = own_max p1 p2) ∧ Go p e below (s₁.setTop (entryFrame m #[(.int p1), (.int p2)] 2)) (s₁.setTop (mkF m 10 #[.val (.int p1), .val (.int p2)] [(.int v1)])) := by
    have k3 : Go p e below (s₁.setTop (entryFrame m #[(.int p1), (.int p2)] 2)) (s₁.setTop (mkF m 2 #[.val (.int p1), .val (.int p2)] [(.int p2), (.int p1)])) := fun t kk => k0 t (by
      show Steps p.tables e below (s₁.setTop (mkF m 0 #[.val (.int p1), .val (.int p2)] [])) _
      refine XS.iloadN X0.here hx rfl (hb hby djdk_29_method_65_code_0) rfl ?_
      show Steps p.tables e below (s₁.setTop (mkF m 1 #[.val (.int p1), .val (.int p2)] [(.int p1)])) _
      refine XS.iloadN X0.here hx rfl (hb hby djdk_29_method_65_code_1) rfl ?_
      exact kk)
    by_cases hc2_2 : p1 < p2
    · have k4 : Go p e below (s₁.setTop (entryFrame m #[(.int p1), (.int p2)] 2)) (s₁.setTop (mkF m 10 #[.val (.int p1), .val (.int p2)] [(.int p2)])) := fun t kk => k3 t (by
        show Steps p.tables e below (s₁.setTop (mkF m 2 #[.val (.int p1), .val (.int p2)] [(.int p2), (.int p1)])) _
        refine XS.icmpYes X0.here hx rfl (pc0 := 2) (pc' := 9) rfl (hb hby djdk_29_method_65_code_2) rfl (tlt hc2_2).1 (by decide) (by decide) ?_
        show Steps p.tables e below (s₁.setTop (mkF m 9 #[.val (.int p1), .val (.int p2)] [])) _
        refine XS.iloadN X0.here hx rfl (hb hby djdk_29_method_65_code_9) rfl ?_
        exact kk)
      exact ⟨p2, by simp [own_max, hc2_2], k4⟩
    · have k5 : Go p e below (s₁.setTop (entryFrame m #[(.int p1), (.int p2)] 2)) (s₁.setTop (mkF m 10 #[.val (.int p1), .val (.int p2)] [(.int p1)])) := fun t kk => k3 t (by
        show Steps p.tables e below (s₁.setTop (mkF m 2 #[.val (.int p1), .val (.int p2)] [(.int p2), (.int p1)])) _
        refine XS.icmpNo X0.here hx rfl (hb hby djdk_29_method_65_code_2) rfl (flt hc2_2).1 ?_
        show Steps p.tables e below (s₁.setTop (mkF m 5 #[.val (.int p1), .val (.int p2)] [])) _
        refine XS.iloadN X0.here hx rfl (hb hby djdk_29_method_65_code_5) rfl ?_
        show Steps p.tables e below (s₁.setTop (mkF m 6 #[.val (.int p1), .val (.int p2)] [(.int p1)])) _
        refine XS.goto X0.here hx rfl (pc0 := 6) (pc' := 10) rfl (hb hby djdk_29_method_65_code_6) (by decide) (by decide) ?_
        exact kk)
      exact ⟨p1, by simp [own_max, hc2_2], k5⟩
  subst hj1
  obtain ⟨fs, hr, hrun, hended, hW, hsame⟩ := X0.leave (v := some (.int (own_max p1 p2))) (fun h => by rw [Bd.returns] at h; cases h)
  refine ⟨_, _, k1 _ ?_, hrun, hended, _, _, rfl, ?_, ⟨_, rfl⟩, hW, hsame.mono (by decide) (by decide)⟩
  · show Steps p.tables e below (s₁.setTop (mkF m 10 #[.val (.int p1), .val (.int p2)] [(.int (own_max p1 p2))])) _
    exact retI X0 hx Bd.returns (hb hby djdk_29_method_65_code_10) hr
  · show QM Z p1 p2 h0 n0 _ s₁.heap _
    rw [e0]
    exact ⟨rfl, rfl, rfl⟩
theorem dprog_5_method_1_code_0 : decode prog_5_method_1_code 0 = .ok (.aload_n 0, 1) := by decide +kernel
theorem dprog_5_method_1_code_1 : decode prog_5_method_1_code 1 = .ok (.invokespecial 1, 3) := by decide +kernel
theorem dprog_5_method_1_code_4 : decode prog_5_method_1_code 4 = .ok (.aload_n 0, 1) := by decide +kernel
theorem dprog_5_method_1_code_5 : decode prog_5_method_1_code 5 = .ok (.iconst 1, 1) := by decide +kernel
theorem dprog_5_method_1_code_6 : decode prog_5_method_1_code 6 = .ok (.putfield 7, 3) := by decide +kernel
theorem dprog_5_method_1_code_9 : decode prog_5_method_1_code 9 = .ok (.iload_n 2, 1) := by decide +kernel
theorem dprog_5_method_1_code_10 : decode prog_5_method_1_code 10 = .ok (.iconst 1, 1) := by decide +kernel
theorem dprog_5_method_1_code_11 : decode prog_5_method_1_code 11 = .ok (.if_icmp .lt 8, 3) := by decide +kernel
theorem dprog_5_method_1_code_14 : decode prog_5_method_1_code 14 = .ok (.iload_n 2, 1) := by decide +kernel
theorem dprog_5_method_1_code_15 : decode prog_5_method_1_code 15 = .ok (.iload_n 1, 1) := by decide +kernel
theorem dprog_5_method_1_code_16 : decode prog_5_method_1_code 16 = .ok (.if_icmp .le 18, 3) := by decide +kernel
theorem dprog_5_method_1_code_34 : decode prog_5_method_1_code 34 = .ok (.aload_n 0, 1) := by decide +kernel
theorem dprog_5_method_1_code_35 : decode prog_5_method_1_code 35 = .ok (.iload_n 1, 1) := by decide +kernel
theorem dprog_5_method_1_code_36 : decode prog_5_method_1_code 36 = .ok (.putfield 22, 3) := by decide +kernel
theorem dprog_5_method_1_code_39 : decode prog_5_method_1_code 39 = .ok (.aload_n 0, 1) := by decide +kernel
theorem dprog_5_method_1_code_40 : decode prog_5_method_1_code 40 = .ok (.iload_n 2, 1) := by decide +kernel
theorem dprog_5_method_1_code_41 : decode prog_5_method_1_code 41 = .ok (.putfield 25, 3) := by decide +kernel
theorem dprog_5_method_1_code_44 : decode prog_5_method_1_code 44 = .ok (.aload_n 0, 1) := by decide +kernel
theorem dprog_5_method_1_code_45 : decode prog_5_method_1_code 45 = .ok (.iload_n 2, 1) := by decide +kernel
theorem dprog_5_method_1_code_46 : decode prog_5_method_1_code 46 = .ok (.putfield 28, 3) := by decide +kernel
theorem dprog_5_method_1_code_49 : decode prog_5_method_1_code 49 = .ok (.return_, 1) := by decide +kernel
theorem ef_rmN (m : MethodId) (x0 : Addr) (x1 : Int32) (x2 : Int32) : entryFrame m #[(.ref x0), (.int x1), (.int x2)] 3 = mkF m 0 #[.val (.ref x0), .val (.int x1), .val (.int x2)] [] := by first | (simp [entryFrame, mkF, argsToLocals, Value.category]; done) | rfl
def QN (Z : State) (a1 : Addr) (p2 : Int32) (p3 : Int32) (h0 : Heap) (n0 : Nat) (v : Option Value) (h : Heap) (L : List Loc) : Prop := v = none ∧ Fr n0 L ∧ Keep h0 h [a1] ∧ Fld Z h a1 "com/example/tabularium/tabularium/engine/TurnOrder" "round" "I" (.int (1 : Int32)) ∧ Fld Z h a1 "com/example/tabularium/tabularium/engine/TurnOrder" "players" "I" (.int p2) ∧ Fld Z h a1 "com/example/tabularium/tabularium/engine/TurnOrder" "start" "I" (.int p3) ∧ Fld Z h a1 "com/example/tabularium/tabularium/engine/TurnOrder" "current" "I" (.int p3)
theorem pn_0 : plainName "com/example/tabularium/tabularium/engine/TurnOrder" = true := by first | (simp [plainName, overriddenIn]; done) | decide +kernel
set_option maxRecDepth 65536 in
set_option maxHeartbeats 40000000 in
theorem rmN (l : Launch) (Z : State) (a0 : Array Value) (hw : ∀ d ∈ tables_1, d.before a0 Z = true) (ws : List Jvm.Cond) (a1 : Addr) (p2 : Int32) (p3 : Int32) (h0 : Heap) (n0 : Nat) (Z0 : n0 ≤ h0.size) (F_round : Fld Z h0 a1 "com/example/tabularium/tabularium/engine/TurnOrder" "round" "I" (.int (0 : Int32))) (F_players : Fld Z h0 a1 "com/example/tabularium/tabularium/engine/TurnOrder" "players" "I" (.int (0 : Int32))) (F_start : Fld Z h0 a1 "com/example/tabularium/tabularium/engine/TurnOrder" "start" "I" (.int (0 : Int32))) (F_current : Fld Z h0 a1 "com/example/tabularium/tabularium/engine/TurnOrder" "current" "I" (.int (0 : Int32))) (E1 : Exa Z h0 a1 "com/example/tabularium/tabularium/engine/TurnOrder") (g1 : n0 ≤ a1) (hc1 : ¬ (p3 < (1 : Int32))) (hc2 : ¬ (p2 < p3)) :
    MetFree l (⟨"com/example/tabularium/tabularium/engine/TurnOrder", "<init>", "(II)V"⟩ : MethodName) (head1 (Jvm.Cond.code (⟨"com/example/tabularium/tabularium/engine/TurnOrder", "<init>", "(II)V"⟩ : MethodName) prog_5_method_1_code 3 none :: ws) ({ frames := 1, cells := 0, slots := 0, locals := 12 } : Room)) (fun a U => a = #[(.ref a1), (.int p2), (.int p3)] ∧ Z.Warmed39 U.vm ∧ U.heap = h0) (fun _ _ _ _ _ => True) (fun _ U o U' => ∃ v L, o = .returned v ∧ QN Z a1 p2 p3 h0 n0 v U'.heap L ∧ FrameEnd U o U' L ({ frames := 1, cells := 0, slots := 0, locals := 12 } : Room).cells ({ frames := 1, cells := 0, slots := 0, locals := 12 } : Room).slots) := by
  refine MetFree.of_bodySF (plainFor_of_name pn_0) hisR ?_
  intro p e s m args below meth c s₁ Bd hml0 hP hK
  obtain ⟨rfl, hZ, hh⟩ := hP
  have hx := Bd.exec
  have hby := Bd.bytes
  have hml : c.maxLocals = 3 := hml0
  have hown : s.vm.findClass "com/example/tabularium/tabularium/engine/TurnOrder" = some m.cls := findClass_of_methodNamed Bd.named
  have hnm := (name_of_methodNamed Bd.named Bd.method).1
  have X0 : Stand p l e ({ frames := 1, cells := 0, slots := 0, locals := 12 } : Room) s m #[(.ref a1), (.int p2), (.int p3)] below meth c s₁ [] 0 0 := Stand.of_body Bd
  have e0 : s₁.heap = h0 := by rw [← hh, Bd.state]; rfl
  have N0 := Fr.nil n0
  have k0 : Go p e below (s₁.setTop (entryFrame m #[(.ref a1), (.int p2), (.int p3)] 3)) (s₁.setTop (mkF m 0 #[.val (.ref a1), .val (.int p2), .val (.int p3)] [])) := fun t k => castTop (ef_rmN m a1 p2 p3) k
  have k1 : Go p e below (s₁.setTop (entryFrame m #[(.ref a1), (.int p2), (.int p3)] 3)) (s₁.setTop (mkF m 1 #[.val (.ref a1), .val (.int p2), .val (.int p3)] [(.ref a1)])) := fun t kk => k0 t (by
    show Steps p.tables e below (s₁.setTop (mkF m 0 #[.val (.ref a1), .val (.int p2), .val (.int p3)] [])) _
    refine XS.aloadN X0.here hx rfl (hb hby dprog_5_method_1_code_0) rfl rfl ?_
    exact kk)
  obtain ⟨T2, X2, e2, st2⟩ := initO X0 hx hZ hown (hw _ (List.mem_of_getElem? (i := 11) rfl)) (hw _ (List.mem_of_getElem? (i := 12) rfl)) (hw _ (List.mem_of_getElem? (i := 13) rfl)) e0 (g := (mkF m 1 #[.val (.ref a1), .val (.int p2), .val (.int p3)] [(.ref a1)])) rfl (by rw [hml]; rfl) rfl (hb hby dprog_5_method_1_code_1) (by decide) (W := 0) (by show 2 * 0 + _ ≤ _; exact Nat.le_of_eq rfl) (by decide)
  have k2 : Go p e below (s₁.setTop (entryFrame m #[(.ref a1), (.int p2), (.int p3)] 3)) (T2.setTop (mkF m 4 #[.val (.ref a1), .val (.int p2), .val (.int p3)] [])) := fun t kk => k1 t (st2 t kk)
  have k3 : Go p e below (s₁.setTop (entryFrame m #[(.ref a1), (.int p2), (.int p3)] 3)) (T2.setTop (mkF m 6 #[.val (.ref a1), .val (.int p2), .val (.int p3)] [(.int (1 : Int32)), (.ref a1)])) := fun t kk => k2 t (by
    show Steps p.tables e below (T2.setTop (mkF m 4 #[.val (.ref a1), .val (.int p2), .val (.int p3)] [])) _
    refine XS.aloadN X2.here hx rfl (hb hby dprog_5_method_1_code_4) rfl rfl ?_
    show Steps p.tables e below (T2.setTop (mkF m 5 #[.val (.ref a1), .val (.int p2), .val (.int p3)] [(.ref a1)])) _
    refine XS.iconst X2.here hx rfl (hb hby dprog_5_method_1_code_5) ?_
    exact kk)
  obtain ⟨T4, h4, X4, e4, W4, st4⟩ := putF X2 hx hZ hown (host := "") (Or.inl (hw _ (List.mem_of_getElem? (i := 14) rfl))) Via.refl e2 F_round E1 (Or.inl (hw _ (List.mem_of_getElem? (i := 15) rfl))) (hw _ (List.mem_of_getElem? (i := 6) rfl)) (ty := .int) (by decide) rfl rfl (g := (mkF m 6 #[.val (.ref a1), .val (.int p2), .val (.int p3)] [(.int (1 : Int32)), (.ref a1)])) rfl rfl (hb hby dprog_5_method_1_code_6)
  have N4 := Fr.snoc X4 N0 g1
  have f5 := F_round.same W4
  have f6 := F_players.other W4 (Or.inr (slot_ne (Or.inr (hw _ (List.mem_of_getElem? (i := 17) rfl))) (Or.inl (hw _ (List.mem_of_getElem? (i := 15) rfl))) (by decide) (t := .int) (t' := .int) (by decide) (by decide)))
  have f7 := F_start.other W4 (Or.inr (slot_ne (Or.inr (hw _ (List.mem_of_getElem? (i := 19) rfl))) (Or.inl (hw _ (List.mem_of_getElem? (i := 15) rfl))) (by decide) (t := .int) (t' := .int) (by decide) (by decide)))
  have f8 := F_current.other W4 (Or.inr (slot_ne (Or.inl (hw _ (List.mem_of_getElem? (i := 21) rfl))) (Or.inl (hw _ (List.mem_of_getElem? (i := 15) rfl))) (by decide) (t := .int) (t' := .int) (by decide) (by decide)))
  have f9 := E1.wr W4
  have K4 := ((Keep.refl h0 [a1])).wr W4 (Or.inl (List.mem_of_getElem? (i := 0) rfl))
  have Zs4 : n0 ≤ h4.size := Nat.le_trans Z0 (Keep.of_wr W4).1
  have k4 : Go p e below (s₁.setTop (entryFrame m #[(.ref a1), (.int p2), (.int p3)] 3)) (T4.setTop (mkF m 9 #[.val (.ref a1), .val (.int p2), .val (.int p3)] [])) := fun t kk => k3 t (st4 t kk)
  have k10 : Go p e below (s₁.setTop (entryFrame m #[(.ref a1), (.int p2), (.int p3)] 3)) (T4.setTop (mkF m 36 #[.val (.ref a1), .val (.int p2), .val (.int p3)] [(.int p2), (.ref a1)])) := fun t kk => k4 t (by
    show Steps p.tables e below (T4.setTop (mkF m 9 #[.val (.ref a1), .val (.int p2), .val (.int p3)] [])) _
    refine XS.iloadN X4.here hx rfl (hb hby dprog_5_method_1_code_9) rfl ?_
    show Steps p.tables e below (T4.setTop (mkF m 10 #[.val (.ref a1), .val (.int p2), .val (.int p3)] [(.int p3)])) _
    refine XS.iconst X4.here hx rfl (hb hby dprog_5_method_1_code_10) ?_
    show Steps p.tables e below (T4.setTop (mkF m 11 #[.val (.ref a1), .val (.int p2), .val (.int p3)] [(.int (1 : Int32)), (.int p3)])) _
    refine XS.icmpNo X4.here hx rfl (hb hby dprog_5_method_1_code_11) rfl (flt hc1).1 ?_
    show Steps p.tables e below (T4.setTop (mkF m 14 #[.val (.ref a1), .val (.int p2), .val (.int p3)] [])) _
    refine XS.iloadN X4.here hx rfl (hb hby dprog_5_method_1_code_14) rfl ?_
    show Steps p.tables e below (T4.setTop (mkF m 15 #[.val (.ref a1), .val (.int p2), .val (.int p3)] [(.int p3)])) _
    refine XS.iloadN X4.here hx rfl (hb hby dprog_5_method_1_code_15) rfl ?_
    show Steps p.tables e below (T4.setTop (mkF m 16 #[.val (.ref a1), .val (.int p2), .val (.int p3)] [(.int p2), (.int p3)])) _
    refine XS.icmpYes X4.here hx rfl (pc0 := 16) (pc' := 34) rfl (hb hby dprog_5_method_1_code_16) rfl (flt hc2).2.2.2 (by decide) (by decide) ?_
    show Steps p.tables e below (T4.setTop (mkF m 34 #[.val (.ref a1), .val (.int p2), .val (.int p3)] [])) _
    refine XS.aloadN X4.here hx rfl (hb hby dprog_5_method_1_code_34) rfl rfl ?_
    show Steps p.tables e below (T4.setTop (mkF m 35 #[.val (.ref a1), .val (.int p2), .val (.int p3)] [(.ref a1)])) _
    refine XS.iloadN X4.here hx rfl (hb hby dprog_5_method_1_code_35) rfl ?_
    exact kk)
  obtain ⟨T11, h11, X11, e11, W11, st11⟩ := putF X4 hx hZ hown (host := "") (Or.inl (hw _ (List.mem_of_getElem? (i := 16) rfl))) Via.refl e4 f6 f9 (Or.inr ⟨(hw _ (List.mem_of_getElem? (i := 17) rfl)), rfl, hnm⟩) (hw _ (List.mem_of_getElem? (i := 6) rfl)) (ty := .int) (by decide) rfl rfl (g := (mkF m 36 #[.val (.ref a1), .val (.int p2), .val (.int p3)] [(.int p2), (.ref a1)])) rfl rfl (hb hby dprog_5_method_1_code_36)
  have N11 := Fr.snoc X11 N4 g1
  have f12 := f5.other W11 (Or.inr (slot_ne (Or.inl (hw _ (List.mem_of_getElem? (i := 15) rfl))) (Or.inr (hw _ (List.mem_of_getElem? (i := 17) rfl))) (by decide) (t := .int) (t' := .int) (by decide) (by decide)))
  have f13 := f6.same W11
  have f14 := f7.other W11 (Or.inr (slot_ne (Or.inr (hw _ (List.mem_of_getElem? (i := 19) rfl))) (Or.inr (hw _ (List.mem_of_getElem? (i := 17) rfl))) (by decide) (t := .int) (t' := .int) (by decide) (by decide)))
  have f15 := f8.other W11 (Or.inr (slot_ne (Or.inl (hw _ (List.mem_of_getElem? (i := 21) rfl))) (Or.inr (hw _ (List.mem_of_getElem? (i := 17) rfl))) (by decide) (t := .int) (t' := .int) (by decide) (by decide)))
  have f16 := f9.wr W11
  have K11 := (K4).wr W11 (Or.inl (List.mem_of_getElem? (i := 0) rfl))
  have Zs11 : n0 ≤ h11.size := Nat.le_trans Zs4 (Keep.of_wr W11).1
  have k11 : Go p e below (s₁.setTop (entryFrame m #[(.ref a1), (.int p2), (.int p3)] 3)) (T11.setTop (mkF m 39 #[.val (.ref a1), .val (.int p2), .val (.int p3)] [])) := fun t kk => k10 t (st11 t kk)
  have k17 : Go p e below (s₁.setTop (entryFrame m #[(.ref a1), (.int p2), (.int p3)] 3)) (T11.setTop (mkF m 41 #[.val (.ref a1), .val (.int p2), .val (.int p3)] [(.int p3), (.ref a1)])) := fun t kk => k11 t (by
    show Steps p.tables e below (T11.setTop (mkF m 39 #[.val (.ref a1), .val (.int p2), .val (.int p3)] [])) _
    refine XS.aloadN X11.here hx rfl (hb hby dprog_5_method_1_code_39) rfl rfl ?_
    show Steps p.tables e below (T11.setTop (mkF m 40 #[.val (.ref a1), .val (.int p2), .val (.int p3)] [(.ref a1)])) _
    refine XS.iloadN X11.here hx rfl (hb hby dprog_5_method_1_code_40) rfl ?_
    exact kk)
  obtain ⟨T18, h18, X18, e18, W18, st18⟩ := putF X11 hx hZ hown (host := "") (Or.inl (hw _ (List.mem_of_getElem? (i := 18) rfl))) Via.refl e11 f14 f16 (Or.inr ⟨(hw _ (List.mem_of_getElem? (i := 19) rfl)), rfl, hnm⟩) (hw _ (List.mem_of_getElem? (i := 6) rfl)) (ty := .int) (by decide) rfl rfl (g := (mkF m 41 #[.val (.ref a1), .val (.int p2), .val (.int p3)] [(.int p3), (.ref a1)])) rfl rfl (hb hby dprog_5_method_1_code_41)
  have N18 := Fr.snoc X18 N11 g1
  have f19 := f12.other W18 (Or.inr (slot_ne (Or.inl (hw _ (List.mem_of_getElem? (i := 15) rfl))) (Or.inr (hw _ (List.mem_of_getElem? (i := 19) rfl))) (by decide) (t := .int) (t' := .int) (by decide) (by decide)))
  have f20 := f13.other W18 (Or.inr (slot_ne (Or.inr (hw _ (List.mem_of_getElem? (i := 17) rfl))) (Or.inr (hw _ (List.mem_of_getElem? (i := 19) rfl))) (by decide) (t := .int) (t' := .int) (by decide) (by decide)))
  have f21 := f14.same W18
  have f22 := f15.other W18 (Or.inr (slot_ne (Or.inl (hw _ (List.mem_of_getElem? (i := 21) rfl))) (Or.inr (hw _ (List.mem_of_getElem? (i := 19) rfl))) (by decide) (t := .int) (t' := .int) (by decide) (by decide)))
  have f23 := f16.wr W18
  have K18 := (K11).wr W18 (Or.inl (List.mem_of_getElem? (i := 0) rfl))
  have Zs18 : n0 ≤ h18.size := Nat.le_trans Zs11 (Keep.of_wr W18).1
  have k18 : Go p e below (s₁.setTop (entryFrame m #[(.ref a1), (.int p2), (.int p3)] 3)) (T18.setTop (mkF m 44 #[.val (.ref a1), .val (.int p2), .val (.int p3)] [])) := fun t kk => k17 t (st18 t kk)
  have k24 : Go p e below (s₁.setTop (entryFrame m #[(.ref a1), (.int p2), (.int p3)] 3)) (T18.setTop (mkF m 46 #[.val (.ref a1), .val (.int p2), .val (.int p3)] [(.int p3), (.ref a1)])) := fun t kk => k18 t (by
    show Steps p.tables e below (T18.setTop (mkF m 44 #[.val (.ref a1), .val (.int p2), .val (.int p3)] [])) _
    refine XS.aloadN X18.here hx rfl (hb hby dprog_5_method_1_code_44) rfl rfl ?_
    show Steps p.tables e below (T18.setTop (mkF m 45 #[.val (.ref a1), .val (.int p2), .val (.int p3)] [(.ref a1)])) _
    refine XS.iloadN X18.here hx rfl (hb hby dprog_5_method_1_code_45) rfl ?_
    exact kk)
  obtain ⟨T25, h25, X25, e25, W25, st25⟩ := putF X18 hx hZ hown (host := "") (Or.inl (hw _ (List.mem_of_getElem? (i := 20) rfl))) Via.refl e18 f22 f23 (Or.inl (hw _ (List.mem_of_getElem? (i := 21) rfl))) (hw _ (List.mem_of_getElem? (i := 6) rfl)) (ty := .int) (by decide) rfl rfl (g := (mkF m 46 #[.val (.ref a1), .val (.int p2), .val (.int p3)] [(.int p3), (.ref a1)])) rfl rfl (hb hby dprog_5_method_1_code_46)
  have N25 := Fr.snoc X25 N18 g1
  have f26 := f19.other W25 (Or.inr (slot_ne (Or.inl (hw _ (List.mem_of_getElem? (i := 15) rfl))) (Or.inl (hw _ (List.mem_of_getElem? (i := 21) rfl))) (by decide) (t := .int) (t' := .int) (by decide) (by decide)))
  have f27 := f20.other W25 (Or.inr (slot_ne (Or.inr (hw _ (List.mem_of_getElem? (i := 17) rfl))) (Or.inl (hw _ (List.mem_of_getElem? (i := 21) rfl))) (by decide) (t := .int) (t' := .int) (by decide) (by decide)))
  have f28 := f21.other W25 (Or.inr (slot_ne (Or.inr (hw _ (List.mem_of_getElem? (i := 19) rfl))) (Or.inl (hw _ (List.mem_of_getElem? (i := 21) rfl))) (by decide) (t := .int) (t' := .int) (by decide) (by decide)))
  have f29 := f22.same W25
  have f30 := f23.wr W25
  have K25 := (K18).wr W25 (Or.inl (List.mem_of_getElem? (i := 0) rfl))
  have Zs25 : n0 ≤ h25.size := Nat.le_trans Zs18 (Keep.of_wr W25).1
  have k25 : Go p e below (s₁.setTop (entryFrame m #[(.ref a1), (.int p2), (.int p3)] 3)) (T25.setTop (mkF m 49 #[.val (.ref a1), .val (.int p2), .val (.int p3)] [])) := fun t kk => k24 t (st25 t kk)
  obtain ⟨fs, hr, hrun, hended, hW, hsame⟩ := X25.leave (v := none) (fun _ => rfl)
  refine ⟨_, _, k25 _ ?_, hrun, hended, _, _, rfl, ?_, ⟨_, rfl⟩, hW, hsame.mono (by decide) (by decide)⟩
  · show Steps p.tables e below (T25.setTop (mkF m 49 #[.val (.ref a1), .val (.int p2), .val (.int p3)] [])) _
    exact X25.returnOut hx Bd.returns (hb hby dprog_5_method_1_code_49) hr
  · show QN Z a1 p2 p3 h0 n0 _ T25.heap _
    rw [e25]
    exact ⟨rfl, N25, K25, f26, f27, f28, f29⟩
theorem dprog_5_method_7_code_0 : decode prog_5_method_7_code 0 = .ok (.aload_n 0, 1) := by decide +kernel
theorem dprog_5_method_7_code_1 : decode prog_5_method_7_code 1 = .ok (.getfield 28, 3) := by decide +kernel
theorem dprog_5_method_7_code_4 : decode prog_5_method_7_code 4 = .ok (.aload_n 0, 1) := by decide +kernel
theorem dprog_5_method_7_code_5 : decode prog_5_method_7_code 5 = .ok (.getfield 22, 3) := by decide +kernel
theorem dprog_5_method_7_code_8 : decode prog_5_method_7_code 8 = .ok (.irem, 1) := by decide +kernel
theorem dprog_5_method_7_code_9 : decode prog_5_method_7_code 9 = .ok (.iconst 1, 1) := by decide +kernel
theorem dprog_5_method_7_code_10 : decode prog_5_method_7_code 10 = .ok (.iadd, 1) := by decide +kernel
theorem dprog_5_method_7_code_11 : decode prog_5_method_7_code 11 = .ok (.ireturn, 1) := by decide +kernel
theorem ef_rmX (m : MethodId) (x0 : Addr) : entryFrame m #[(.ref x0)] 1 = mkF m 0 #[.val (.ref x0)] [] := by first | (simp [entryFrame, mkF, argsToLocals, Value.category]; done) | rfl
def QX (Z : State) (a1 : Addr) (cu : Int32) (pn : Int32) (h0 : Heap) (n0 : Nat) (v : Option Value) (h : Heap) (L : List Loc) : Prop := v = some (.int ((cu % pn) + 1)) ∧ L = [] ∧ h = h0
set_option maxRecDepth 65536 in
set_option maxHeartbeats 40000000 in
theorem rmX (l : Launch) (Z : State) (a0 : Array Value) (hw : ∀ d ∈ tables_1, d.before a0 Z = true) (ws : List Jvm.Cond) (a1 : Addr) (cu : Int32) (pn : Int32) (h0 : Heap) (n0 : Nat) (Z0 : n0 ≤ h0.size) (F1 : Fld Z h0 a1 "com/example/tabularium/tabularium/engine/TurnOrder" "current" "I" (.int cu)) (F2 : Fld Z h0 a1 "com/example/tabularium/tabularium/engine/TurnOrder" "players" "I" (.int pn)) (hz0 : pn ≠ 0) :
    MetFree l (⟨"com/example/tabularium/tabularium/engine/TurnOrder", "next", "()I"⟩ : MethodName) (head1 (Jvm.Cond.code (⟨"com/example/tabularium/tabularium/engine/TurnOrder", "next", "()I"⟩ : MethodName) prog_5_method_7_code 1 (some .int) :: ws) ({ frames := 0, cells := 0, slots := 0, locals := 0 } : Room)) (fun a U => a = #[(.ref a1)] ∧ Z.Warmed39 U.vm ∧ U.heap = h0) (fun _ _ _ _ _ => True) (fun _ U o U' => ∃ v L, o = .returned v ∧ QX Z a1 cu pn h0 n0 v U'.heap L ∧ FrameEnd U o U' L ({ frames := 0, cells := 0, slots := 0, locals := 0 } : Room).cells ({ frames := 0, cells := 0, slots := 0, locals := 0 } : Room).slots) := by
  refine MetFree.of_bodySF (plainFor_of_name pn_0) hisR ?_
  intro p e s m args below meth c s₁ Bd hml0 hP hK
  obtain ⟨rfl, hZ, hh⟩ := hP
  have hx := Bd.exec
  have hby := Bd.bytes
  have hml : c.maxLocals = 1 := hml0
  have hown : s.vm.findClass "com/example/tabularium/tabularium/engine/TurnOrder" = some m.cls := findClass_of_methodNamed Bd.named
  have hnm := (name_of_methodNamed Bd.named Bd.method).1
  have X0 : Stand p l e ({ frames := 0, cells := 0, slots := 0, locals := 0 } : Room) s m #[(.ref a1)] below meth c s₁ [] 0 0 := Stand.of_body Bd
  have e0 : s₁.heap = h0 := by rw [← hh, Bd.state]; rfl
  have N0 := Fr.nil n0
  have k0 : Go p e below (s₁.setTop (entryFrame m #[(.ref a1)] 1)) (s₁.setTop (mkF m 0 #[.val (.ref a1)] [])) := fun t k => castTop (ef_rmX m a1) k
  have k1 : Go p e below (s₁.setTop (entryFrame m #[(.ref a1)] 1)) (s₁.setTop (mkF m 1 #[.val (.ref a1)] [(.ref a1)])) := fun t kk => k0 t (by
    show Steps p.tables e below (s₁.setTop (mkF m 0 #[.val (.ref a1)] [])) _
    refine XS.aloadN X0.here hx rfl (hb hby dprog_5_method_7_code_0) rfl rfl ?_
    exact kk)
  obtain ⟨T2, X2, e2, st2⟩ := getF X0 hx hZ hown (host := "") (Or.inl (hw _ (List.mem_of_getElem? (i := 20) rfl))) Via.refl e0 F1 (g := (mkF m 1 #[.val (.ref a1)] [(.ref a1)])) rfl rfl (hb hby dprog_5_method_7_code_1)
  have k2 : Go p e below (s₁.setTop (entryFrame m #[(.ref a1)] 1)) (T2.setTop (mkF m 4 #[.val (.ref a1)] [(.int cu)])) := fun t kk => k1 t (st2 t kk)
  have k3 : Go p e below (s₁.setTop (entryFrame m #[(.ref a1)] 1)) (T2.setTop (mkF m 5 #[.val (.ref a1)] [(.ref a1), (.int cu)])) := fun t kk => k2 t (by
    show Steps p.tables e below (T2.setTop (mkF m 4 #[.val (.ref a1)] [(.int cu)])) _
    refine XS.aloadN X2.here hx rfl (hb hby dprog_5_method_7_code_4) rfl rfl ?_
    exact kk)
  obtain ⟨T4, X4, e4, st4⟩ := getF X2 hx hZ hown (host := "") (Or.inl (hw _ (List.mem_of_getElem? (i := 16) rfl))) Via.refl e2 F2 (g := (mkF m 5 #[.val (.ref a1)] [(.ref a1), (.int cu)])) rfl rfl (hb hby dprog_5_method_7_code_5)
  have k4 : Go p e below (s₁.setTop (entryFrame m #[(.ref a1)] 1)) (T4.setTop (mkF m 8 #[.val (.ref a1)] [(.int pn), (.int cu)])) := fun t kk => k3 t (st4 t kk)
  have k5 : Go p e below (s₁.setTop (entryFrame m #[(.ref a1)] 1)) (T4.setTop (mkF m 11 #[.val (.ref a1)] [(.int ((cu % pn) + (1 : Int32)))])) := fun t kk => k4 t (by
    show Steps p.tables e below (T4.setTop (mkF m 8 #[.val (.ref a1)] [(.int pn), (.int cu)])) _
    refine iremM X4 hx rfl (hb hby dprog_5_method_7_code_8) rfl hz0 ?_
    show Steps p.tables e below (T4.setTop (mkF m 9 #[.val (.ref a1)] [(.int (cu % pn))])) _
    refine XS.iconst X4.here hx rfl (hb hby dprog_5_method_7_code_9) ?_
    show Steps p.tables e below (T4.setTop (mkF m 10 #[.val (.ref a1)] [(.int (1 : Int32)), (.int (cu % pn))])) _
    refine XS.iadd X4.here hx rfl (hb hby dprog_5_method_7_code_10) rfl ?_
    exact kk)
  obtain ⟨fs, hr, hrun, hended, hW, hsame⟩ := X4.leave (v := some (.int ((cu % pn) + (1 : Int32)))) (fun h => by rw [Bd.returns] at h; cases h)
  refine ⟨_, _, k5 _ ?_, hrun, hended, _, _, rfl, ?_, ⟨_, rfl⟩, hW, hsame.mono (by decide) (by decide)⟩
  · show Steps p.tables e below (T4.setTop (mkF m 11 #[.val (.ref a1)] [(.int ((cu % pn) + (1 : Int32)))])) _
    exact retI X4 hx Bd.returns (hb hby dprog_5_method_7_code_11) hr
  · show QX Z a1 cu pn h0 n0 _ T4.heap _
    rw [e4]
    exact ⟨rfl, rfl, rfl⟩
theorem dprog_5_method_5_code_0 : decode prog_5_method_5_code 0 = .ok (.aload_n 0, 1) := by decide +kernel
theorem dprog_5_method_5_code_1 : decode prog_5_method_5_code 1 = .ok (.invokevirtual 31, 3) := by decide +kernel
theorem pd_0 : parseMethodDescriptor "()I" = some ⟨[], some .int⟩ := by decide +kernel
theorem own_selpriv {s : State} {args : Array Value} {y : MethodName} {n : Nat} (wi : (Jvm.Cond.instantiable y.cls n).before args s = true) (hp : (Jvm.Cond.privateMethod y).before args s = true) (hin : (Jvm.Cond.instanceMethod y).before args s = true) (hy : y.cls ≠ "java/lang/invoke/MethodHandle" ∧ y.cls ≠ "java/lang/invoke/VarHandle") : (Jvm.Cond.selects y.cls y y).before args s = true := by
  obtain ⟨c, k, h1, h2, -, h4, -⟩ := Cond.instantiable_spec wi
  exact Jvm.Stand.selects_self_of_private h1 h2 (by simp only [Bool.or_eq_false_iff] at h4; exact h4.1) (Cond.privateMethod_at hp) hin hy
theorem dprog_5_method_5_code_4 : decode prog_5_method_5_code 4 = .ok (.aload_n 0, 1) := by decide +kernel
theorem dprog_5_method_5_code_5 : decode prog_5_method_5_code 5 = .ok (.getfield 25, 3) := by decide +kernel
theorem dprog_5_method_5_code_8 : decode prog_5_method_5_code 8 = .ok (.if_icmp .ne 7, 3) := by decide +kernel
theorem dprog_5_method_5_code_11 : decode prog_5_method_5_code 11 = .ok (.iconst 1, 1) := by decide +kernel
theorem dprog_5_method_5_code_12 : decode prog_5_method_5_code 12 = .ok (.goto 4, 3) := by decide +kernel
theorem dprog_5_method_5_code_15 : decode prog_5_method_5_code 15 = .ok (.iconst 0, 1) := by decide +kernel
theorem dprog_5_method_5_code_16 : decode prog_5_method_5_code 16 = .ok (.ireturn, 1) := by decide +kernel
theorem ef_rmL (m : MethodId) (x0 : Addr) : entryFrame m #[(.ref x0)] 1 = mkF m 0 #[.val (.ref x0)] [] := by first | (simp [entryFrame, mkF, argsToLocals, Value.category]; done) | rfl
def QL (Z : State) (a1 : Addr) (cu : Int32) (pn : Int32) (st : Int32) (h0 : Heap) (n0 : Nat) (v : Option Value) (h : Heap) (L : List Loc) : Prop := v = some (.int (own_last cu pn st)) ∧ L = [] ∧ h = h0
set_option maxRecDepth 65536 in
set_option maxHeartbeats 40000000 in
theorem rmL (l : Launch) (Z : State) (a0 : Array Value) (hw : ∀ d ∈ tables_1, d.before a0 Z = true) (ws : List Jvm.Cond) (a1 : Addr) (cu : Int32) (pn : Int32) (st : Int32) (h0 : Heap) (n0 : Nat) (Z0 : n0 ≤ h0.size) (F1 : Fld Z h0 a1 "com/example/tabularium/tabularium/engine/TurnOrder" "current" "I" (.int cu)) (F2 : Fld Z h0 a1 "com/example/tabularium/tabularium/engine/TurnOrder" "players" "I" (.int pn)) (F3 : Fld Z h0 a1 "com/example/tabularium/tabularium/engine/TurnOrder" "start" "I" (.int st)) (E1 : Exa Z h0 a1 "com/example/tabularium/tabularium/engine/TurnOrder") (hz0 : pn ≠ 0) :
    MetFree l (⟨"com/example/tabularium/tabularium/engine/TurnOrder", "isLastOfRound", "()Z"⟩ : MethodName) (head1 (Jvm.Cond.code (⟨"com/example/tabularium/tabularium/engine/TurnOrder", "isLastOfRound", "()Z"⟩ : MethodName) prog_5_method_5_code 1 (some .boolean) :: ws) ({ frames := 1, cells := 0, slots := 0, locals := 12 } : Room)) (fun a U => a = #[(.ref a1)] ∧ Z.Warmed39 U.vm ∧ U.heap = h0) (fun _ _ _ _ _ => True) (fun _ U o U' => ∃ v L, o = .returned v ∧ QL Z a1 cu pn st h0 n0 v U'.heap L ∧ FrameEnd U o U' L ({ frames := 1, cells := 0, slots := 0, locals := 12 } : Room).cells ({ frames := 1, cells := 0, slots := 0, locals := 12 } : Room).slots) := by
  refine MetFree.of_bodySF (plainFor_of_name pn_0) hisR ?_
  intro p e s m args below meth c s₁ Bd hml0 hP hK
  obtain ⟨rfl, hZ, hh⟩ := hP
  have hx := Bd.exec
  have hby := Bd.bytes
  have hml : c.maxLocals = 1 := hml0
  have hown : s.vm.findClass "com/example/tabularium/tabularium/engine/TurnOrder" = some m.cls := findClass_of_methodNamed Bd.named
  have hnm := (name_of_methodNamed Bd.named Bd.method).1
  have X0 : Stand p l e ({ frames := 1, cells := 0, slots := 0, locals := 12 } : Room) s m #[(.ref a1)] below meth c s₁ [] 0 0 := Stand.of_body Bd
  have e0 : s₁.heap = h0 := by rw [← hh, Bd.state]; rfl
  have N0 := Fr.nil n0
  have k0 : Go p e below (s₁.setTop (entryFrame m #[(.ref a1)] 1)) (s₁.setTop (mkF m 0 #[.val (.ref a1)] [])) := fun t k => castTop (ef_rmL m a1) k
  obtain ⟨T1, X1, e1, v1, hj1, k1⟩ : ∃ T' : State, Stand p l e ({ frames := 1, cells := 0, slots := 0, locals := 12 } : Room) s m #[(.ref a1)] below meth c T' [] 0 0 ∧ T'.heap = h0 ∧ ∃ v1 : Int32, (v1 = own_last cu pn st) ∧ Go p e below (s₁.setTop (entryFrame m #[(.ref a1)] 1)) (T'.setTop (mkF m 16 #[.val (.ref a1)] [(.int v1)])) := by
    have k2 : Go p e below (s₁.setTop (entryFrame m #[(.ref a1)] 1)) (s₁.setTop (mkF m 1 #[.val (.ref a1)] [(.ref a1)])) := fun t kk => k0 t (by
      show Steps p.tables e below (s₁.setTop (mkF m 0 #[.val (.ref a1)] [])) _
      refine XS.aloadN X0.here hx rfl (hb hby dprog_5_method_5_code_0) rfl rfl ?_
      exact kk)
    obtain ⟨cq3, q3, q3'⟩ := E1.cell
    obtain ⟨_, _, ⟨T3, L3, kx3, nx3⟩, -, X3, ⟨Lc3, hQ3, l3, y3, z3⟩, st3⟩ := X0.privateBack hx (y := (⟨"com/example/tabularium/tabularium/engine/TurnOrder", "next", "()I"⟩ : MethodName)) hown (mvT hZ (hw _ (List.mem_of_getElem? (i := 32) rfl))) (mvT hZ (hw _ (List.mem_of_getElem? (i := 33) rfl))) (own_selpriv (mvT hZ (hw _ (List.mem_of_getElem? (i := 6) rfl))) (mvP hZ (hw _ (List.mem_of_getElem? (i := 34) rfl))) (mvT hZ (hw _ (List.mem_of_getElem? (i := 33) rfl))) (by decide)) (Cond.privateMethod_at (mvP hZ (hw _ (List.mem_of_getElem? (i := 34) rfl)) (args := #[]))) (mvT hZ (hw _ (List.mem_of_getElem? (i := 35) rfl))) (by decide) (backOf (W := 0) (rmX l Z a0 hw [] a1 cu pn h0 n0 Z0 F1 F2 hz0) hZ (hw _ (List.mem_of_getElem? (i := 35) rfl)) (hw _ (List.mem_of_getElem? (i := 7) rfl)) (by decide) (by decide)) (g := (mkF m 1 #[.val (.ref a1)] [(.ref a1)])) rfl (by rw [hml]; rfl) (Steps.refl _) (a := a1) (by rw [e0]; exact q3) q3' (argsL := []) (rest := []) (lenOf pd_0 rfl) rfl (by show 2 * 0 + _ ≤ _; exact Nat.le_of_eq rfl) (hb hby dprog_5_method_5_code_1) (fun _ _ => ⟨rfl, e0, (by decide : 0 + 0 ≤ _), (by decide : 0 + 0 ≤ _)⟩)
    dsimp only [Pt.U, Pt.locs, Pt.cells, Pt.slots] at X3 l3 y3 z3 st3 hQ3
    subst l3 y3 z3
    obtain ⟨rfl, rfl, e3⟩ := hQ3
    try rw [List.append_nil] at X3
    have k3 : Go p e below (s₁.setTop (entryFrame m #[(.ref a1)] 1)) (T3.setTop (mkF m 4 #[.val (.ref a1)] [(.int ((cu % pn) + (1 : Int32)))])) := fun t kk => k2 t (st3.trans kk)
    have k4 : Go p e below (s₁.setTop (entryFrame m #[(.ref a1)] 1)) (T3.setTop (mkF m 5 #[.val (.ref a1)] [(.ref a1), (.int ((cu % pn) + (1 : Int32)))])) := fun t kk => k3 t (by
      show Steps p.tables e below (T3.setTop (mkF m 4 #[.val (.ref a1)] [(.int ((cu % pn) + (1 : Int32)))])) _
      refine XS.aloadN X3.here hx rfl (hb hby dprog_5_method_5_code_4) rfl rfl ?_
      exact kk)
    obtain ⟨T5, X5, e5, st5⟩ := getF X3 hx hZ hown (host := "") (Or.inl (hw _ (List.mem_of_getElem? (i := 18) rfl))) Via.refl e3 F3 (g := (mkF m 5 #[.val (.ref a1)] [(.ref a1), (.int ((cu % pn) + (1 : Int32)))])) rfl rfl (hb hby dprog_5_method_5_code_5)
    have k5 : Go p e below (s₁.setTop (entryFrame m #[(.ref a1)] 1)) (T5.setTop (mkF m 8 #[.val (.ref a1)] [(.int st), (.int ((cu % pn) + (1 : Int32)))])) := fun t kk => k4 t (st5 t kk)
    by_cases hc8_6 : ((cu % pn) + (1 : Int32)) = st
    · have k7 : Go p e below (s₁.setTop (entryFrame m #[(.ref a1)] 1)) (T5.setTop (mkF m 16 #[.val (.ref a1)] [(.int (1 : Int32))])) := fun t kk => k5 t (by
        show Steps p.tables e below (T5.setTop (mkF m 8 #[.val (.ref a1)] [(.int st), (.int ((cu % pn) + (1 : Int32)))])) _
        refine XS.icmpNo X5.here hx rfl (hb hby dprog_5_method_5_code_8) rfl (teq hc8_6).2 ?_
        show Steps p.tables e below (T5.setTop (mkF m 11 #[.val (.ref a1)] [])) _
        refine XS.iconst X5.here hx rfl (hb hby dprog_5_method_5_code_11) ?_
        show Steps p.tables e below (T5.setTop (mkF m 12 #[.val (.ref a1)] [(.int (1 : Int32))])) _
        refine XS.goto X5.here hx rfl (pc0 := 12) (pc' := 16) rfl (hb hby dprog_5_method_5_code_12) (by decide) (by decide) ?_
        exact kk)
      exact ⟨T5, X5, e5, (1 : Int32), by simp [own_last, hc8_6], k7⟩
    · have k8 : Go p e below (s₁.setTop (entryFrame m #[(.ref a1)] 1)) (T5.setTop (mkF m 16 #[.val (.ref a1)] [(.int (0 : Int32))])) := fun t kk => k5 t (by
        show Steps p.tables e below (T5.setTop (mkF m 8 #[.val (.ref a1)] [(.int st), (.int ((cu % pn) + (1 : Int32)))])) _
        refine XS.icmpYes X5.here hx rfl (pc0 := 8) (pc' := 15) rfl (hb hby dprog_5_method_5_code_8) rfl (feq hc8_6).2 (by decide) (by decide) ?_
        show Steps p.tables e below (T5.setTop (mkF m 15 #[.val (.ref a1)] [])) _
        refine XS.iconst X5.here hx rfl (hb hby dprog_5_method_5_code_15) ?_
        exact kk)
      exact ⟨T5, X5, e5, (0 : Int32), by simp [own_last, hc8_6], k8⟩
  subst hj1
  obtain ⟨fs, hr, hrun, hended, hW, hsame⟩ := X1.leave (v := some (.int (nar .boolean (own_last cu pn st)))) (fun h => by rw [Bd.returns] at h; cases h)
  refine ⟨_, _, k1 _ ?_, hrun, hended, _, _, rfl, ?_, ⟨_, rfl⟩, hW, hsame.mono (by decide) (by decide)⟩
  · show Steps p.tables e below (T1.setTop (mkF m 16 #[.val (.ref a1)] [(.int (own_last cu pn st))])) _
    exact retN X1 hx (t := .boolean) Bd.returns (by simp) (hb hby dprog_5_method_5_code_16) hr
  · show QL Z a1 cu pn st h0 n0 _ T1.heap _
    rw [e1]
    exact ⟨by rw [own_last01], rfl, rfl⟩
theorem dprog_5_method_6_code_0 : decode prog_5_method_6_code 0 = .ok (.aload_n 0, 1) := by decide +kernel
theorem dprog_5_method_6_code_1 : decode prog_5_method_6_code 1 = .ok (.invokevirtual 35, 3) := by decide +kernel
theorem pd_1 : parseMethodDescriptor "()Z" = some ⟨[], some .boolean⟩ := by decide +kernel
theorem dprog_5_method_6_code_4 : decode prog_5_method_6_code 4 = .ok (.ifCond .eq 13, 3) := by decide +kernel
theorem dprog_5_method_6_code_17 : decode prog_5_method_6_code 17 = .ok (.aload_n 0, 1) := by decide +kernel
theorem dprog_5_method_6_code_18 : decode prog_5_method_6_code 18 = .ok (.aload_n 0, 1) := by decide +kernel
theorem dprog_5_method_6_code_19 : decode prog_5_method_6_code 19 = .ok (.invokevirtual 31, 3) := by decide +kernel
theorem dprog_5_method_6_code_22 : decode prog_5_method_6_code 22 = .ok (.putfield 28, 3) := by decide +kernel
theorem dprog_5_method_6_code_25 : decode prog_5_method_6_code 25 = .ok (.return_, 1) := by decide +kernel
theorem dprog_5_method_6_code_7 : decode prog_5_method_6_code 7 = .ok (.aload_n 0, 1) := by decide +kernel
theorem dprog_5_method_6_code_8 : decode prog_5_method_6_code 8 = .ok (.dup, 1) := by decide +kernel
theorem dprog_5_method_6_code_9 : decode prog_5_method_6_code 9 = .ok (.getfield 7, 3) := by decide +kernel
theorem dprog_5_method_6_code_12 : decode prog_5_method_6_code 12 = .ok (.iconst 1, 1) := by decide +kernel
theorem dprog_5_method_6_code_13 : decode prog_5_method_6_code 13 = .ok (.iadd, 1) := by decide +kernel
theorem dprog_5_method_6_code_14 : decode prog_5_method_6_code 14 = .ok (.putfield 7, 3) := by decide +kernel
theorem ef_rmP (m : MethodId) (x0 : Addr) : entryFrame m #[(.ref x0)] 1 = mkF m 0 #[.val (.ref x0)] [] := by first | (simp [entryFrame, mkF, argsToLocals, Value.category]; done) | rfl
def QP (Z : State) (a1 : Addr) (r : Int32) (pn : Int32) (st : Int32) (cu : Int32) (h0 : Heap) (n0 : Nat) (v : Option Value) (h : Heap) (L : List Loc) : Prop := v = none ∧ Fr n0 L ∧ Keep h0 h [a1] ∧ Fld Z h a1 "com/example/tabularium/tabularium/engine/TurnOrder" "round" "I" (.int (own_rnd cu pn st r)) ∧ Fld Z h a1 "com/example/tabularium/tabularium/engine/TurnOrder" "players" "I" (.int pn) ∧ Fld Z h a1 "com/example/tabularium/tabularium/engine/TurnOrder" "start" "I" (.int st) ∧ Fld Z h a1 "com/example/tabularium/tabularium/engine/TurnOrder" "current" "I" (.int ((cu % pn) + 1))
set_option maxRecDepth 65536 in
set_option maxHeartbeats 40000000 in
theorem rmP (l : Launch) (Z : State) (a0 : Array Value) (hw : ∀ d ∈ tables_1, d.before a0 Z = true) (ws : List Jvm.Cond) (a1 : Addr) (r : Int32) (pn : Int32) (st : Int32) (cu : Int32) (h0 : Heap) (n0 : Nat) (Z0 : n0 ≤ h0.size) (F_round : Fld Z h0 a1 "com/example/tabularium/tabularium/engine/TurnOrder" "round" "I" (.int r)) (F_players : Fld Z h0 a1 "com/example/tabularium/tabularium/engine/TurnOrder" "players" "I" (.int pn)) (F_start : Fld Z h0 a1 "com/example/tabularium/tabularium/engine/TurnOrder" "start" "I" (.int st)) (F_current : Fld Z h0 a1 "com/example/tabularium/tabularium/engine/TurnOrder" "current" "I" (.int cu)) (E1 : Exa Z h0 a1 "com/example/tabularium/tabularium/engine/TurnOrder") (g1 : n0 ≤ a1) (hz0 : pn ≠ 0) :
    MetFree l (⟨"com/example/tabularium/tabularium/engine/TurnOrder", "pass", "()V"⟩ : MethodName) (head1 (Jvm.Cond.code (⟨"com/example/tabularium/tabularium/engine/TurnOrder", "pass", "()V"⟩ : MethodName) prog_5_method_6_code 1 none :: ws) ({ frames := 2, cells := 0, slots := 0, locals := 26 } : Room)) (fun a U => a = #[(.ref a1)] ∧ Z.Warmed39 U.vm ∧ U.heap = h0) (fun _ _ _ _ _ => True) (fun _ U o U' => ∃ v L, o = .returned v ∧ QP Z a1 r pn st cu h0 n0 v U'.heap L ∧ FrameEnd U o U' L ({ frames := 2, cells := 0, slots := 0, locals := 26 } : Room).cells ({ frames := 2, cells := 0, slots := 0, locals := 26 } : Room).slots) := by
  refine MetFree.of_bodySF (plainFor_of_name pn_0) hisR ?_
  intro p e s m args below meth c s₁ Bd hml0 hP hK
  obtain ⟨rfl, hZ, hh⟩ := hP
  have hx := Bd.exec
  have hby := Bd.bytes
  have hml : c.maxLocals = 1 := hml0
  have hown : s.vm.findClass "com/example/tabularium/tabularium/engine/TurnOrder" = some m.cls := findClass_of_methodNamed Bd.named
  have hnm := (name_of_methodNamed Bd.named Bd.method).1
  have X0 : Stand p l e ({ frames := 2, cells := 0, slots := 0, locals := 26 } : Room) s m #[(.ref a1)] below meth c s₁ [] 0 0 := Stand.of_body Bd
  have e0 : s₁.heap = h0 := by rw [← hh, Bd.state]; rfl
  have N0 := Fr.nil n0
  have k0 : Go p e below (s₁.setTop (entryFrame m #[(.ref a1)] 1)) (s₁.setTop (mkF m 0 #[.val (.ref a1)] [])) := fun t k => castTop (ef_rmP m a1) k
  have k1 : Go p e below (s₁.setTop (entryFrame m #[(.ref a1)] 1)) (s₁.setTop (mkF m 1 #[.val (.ref a1)] [(.ref a1)])) := fun t kk => k0 t (by
    show Steps p.tables e below (s₁.setTop (mkF m 0 #[.val (.ref a1)] [])) _
    refine XS.aloadN X0.here hx rfl (hb hby dprog_5_method_6_code_0) rfl rfl ?_
    exact kk)
  obtain ⟨cq2, kq2, q2a, q2b, q2c⟩ := isOf hZ e0 E1
  obtain ⟨_, _, ⟨T2, L2, kx2, nx2⟩, -, X2, ⟨Lc2, hQ2, l2, y2, z2⟩, st2⟩ := X0.virtualBack hx (y := (⟨"com/example/tabularium/tabularium/engine/TurnOrder", "isLastOfRound", "()Z"⟩ : MethodName)) (z := (⟨"com/example/tabularium/tabularium/engine/TurnOrder", "isLastOfRound", "()Z"⟩ : MethodName)) hown (mvT hZ (hw _ (List.mem_of_getElem? (i := 27) rfl))) (mvT hZ (hw _ (List.mem_of_getElem? (i := 28) rfl))) (notFace_of_selects (args := #[]) (mvT hZ (hw _ (List.mem_of_getElem? (i := 30) rfl)))) (mvT hZ (hw _ (List.mem_of_getElem? (i := 30) rfl))) (mvT hZ (hw _ (List.mem_of_getElem? (i := 29) rfl))) (by decide) (backOf (W := 0) (rmL l Z a0 hw [] a1 cu pn st h0 n0 Z0 F_current F_players F_start E1 hz0) hZ (hw _ (List.mem_of_getElem? (i := 31) rfl)) (hw _ (List.mem_of_getElem? (i := 7) rfl)) (by decide) (by decide)) q2a q2c (g := (mkF m 1 #[.val (.ref a1)] [(.ref a1)])) rfl (by rw [hml]; rfl) (Steps.refl _) (argsL := []) (rest := []) (lenOf pd_1 rfl) rfl (by show 2 * 0 + _ ≤ _; exact Nat.le_of_eq rfl) (hb hby dprog_5_method_6_code_1) (fun _ _ => ⟨rfl, e0, (by decide : 0 + 0 ≤ _), (by decide : 0 + 0 ≤ _)⟩)
  dsimp only [Pt.U, Pt.locs, Pt.cells, Pt.slots] at X2 l2 y2 z2 st2 hQ2
  subst l2 y2 z2
  obtain ⟨rfl, rfl, e2⟩ := hQ2
  try rw [List.append_nil] at X2
  have k2 : Go p e below (s₁.setTop (entryFrame m #[(.ref a1)] 1)) (T2.setTop (mkF m 4 #[.val (.ref a1)] [(.int (own_last cu pn st))])) := fun t kk => k1 t (st2.trans kk)
  by_cases hc4_3 : (own_last cu pn st) = (0 : Int32)
  · have k4 : Go p e below (s₁.setTop (entryFrame m #[(.ref a1)] 1)) (T2.setTop (mkF m 19 #[.val (.ref a1)] [(.ref a1), (.ref a1)])) := fun t kk => k2 t (by
      show Steps p.tables e below (T2.setTop (mkF m 4 #[.val (.ref a1)] [(.int (own_last cu pn st))])) _
      refine XS.ifYes X2.here hx rfl (pc0 := 4) (pc' := 17) rfl (hb hby dprog_5_method_6_code_4) rfl ((if0 _ _).trans (teq hc4_3).1) (by decide) (by decide) ?_
      show Steps p.tables e below (T2.setTop (mkF m 17 #[.val (.ref a1)] [])) _
      refine XS.aloadN X2.here hx rfl (hb hby dprog_5_method_6_code_17) rfl rfl ?_
      show Steps p.tables e below (T2.setTop (mkF m 18 #[.val (.ref a1)] [(.ref a1)])) _
      refine XS.aloadN X2.here hx rfl (hb hby dprog_5_method_6_code_18) rfl rfl ?_
      exact kk)
    obtain ⟨cq5, q5, q5'⟩ := E1.cell
    obtain ⟨_, _, ⟨T5, L5, kx5, nx5⟩, -, X5, ⟨Lc5, hQ5, l5, y5, z5⟩, st5⟩ := X2.privateBack hx (y := (⟨"com/example/tabularium/tabularium/engine/TurnOrder", "next", "()I"⟩ : MethodName)) hown (mvT hZ (hw _ (List.mem_of_getElem? (i := 32) rfl))) (mvT hZ (hw _ (List.mem_of_getElem? (i := 33) rfl))) (own_selpriv (mvT hZ (hw _ (List.mem_of_getElem? (i := 6) rfl))) (mvP hZ (hw _ (List.mem_of_getElem? (i := 34) rfl))) (mvT hZ (hw _ (List.mem_of_getElem? (i := 33) rfl))) (by decide)) (Cond.privateMethod_at (mvP hZ (hw _ (List.mem_of_getElem? (i := 34) rfl)) (args := #[]))) (mvT hZ (hw _ (List.mem_of_getElem? (i := 35) rfl))) (by decide) (backOf (W := 1) (rmX l Z a0 hw [] a1 cu pn h0 n0 Z0 F_current F_players hz0) hZ (hw _ (List.mem_of_getElem? (i := 35) rfl)) (hw _ (List.mem_of_getElem? (i := 7) rfl)) (by decide) (by decide)) (g := (mkF m 19 #[.val (.ref a1)] [(.ref a1), (.ref a1)])) rfl (by rw [hml]; rfl) (Steps.refl _) (a := a1) (by rw [e2]; exact q5) q5' (argsL := []) (rest := [(.ref a1)]) (lenOf pd_0 rfl) rfl (by show 2 * 0 + _ ≤ _; exact Nat.le_of_eq rfl) (hb hby dprog_5_method_6_code_19) (fun _ _ => ⟨rfl, e2, (by decide : 0 + 0 ≤ _), (by decide : 0 + 0 ≤ _)⟩)
    dsimp only [Pt.U, Pt.locs, Pt.cells, Pt.slots] at X5 l5 y5 z5 st5 hQ5
    subst l5 y5 z5
    obtain ⟨rfl, rfl, e5⟩ := hQ5
    try rw [List.append_nil] at X5
    have k5 : Go p e below (s₁.setTop (entryFrame m #[(.ref a1)] 1)) (T5.setTop (mkF m 22 #[.val (.ref a1)] [(.int ((cu % pn) + (1 : Int32))), (.ref a1)])) := fun t kk => k4 t (st5.trans kk)
    obtain ⟨T6, h6, X6, e6, W6, st6⟩ := putF X5 hx hZ hown (host := "") (Or.inl (hw _ (List.mem_of_getElem? (i := 20) rfl))) Via.refl e5 F_current E1 (Or.inl (hw _ (List.mem_of_getElem? (i := 21) rfl))) (hw _ (List.mem_of_getElem? (i := 6) rfl)) (ty := .int) (by decide) rfl rfl (g := (mkF m 22 #[.val (.ref a1)] [(.int ((cu % pn) + (1 : Int32))), (.ref a1)])) rfl rfl (hb hby dprog_5_method_6_code_22)
    have N6 := Fr.snoc X6 N0 g1
    have f7 := F_round.other W6 (Or.inr (slot_ne (Or.inl (hw _ (List.mem_of_getElem? (i := 15) rfl))) (Or.inl (hw _ (List.mem_of_getElem? (i := 21) rfl))) (by decide) (t := .int) (t' := .int) (by decide) (by decide)))
    have f8 := F_players.other W6 (Or.inr (slot_ne (Or.inr (hw _ (List.mem_of_getElem? (i := 17) rfl))) (Or.inl (hw _ (List.mem_of_getElem? (i := 21) rfl))) (by decide) (t := .int) (t' := .int) (by decide) (by decide)))
    have f9 := F_start.other W6 (Or.inr (slot_ne (Or.inr (hw _ (List.mem_of_getElem? (i := 19) rfl))) (Or.inl (hw _ (List.mem_of_getElem? (i := 21) rfl))) (by decide) (t := .int) (t' := .int) (by decide) (by decide)))
    have f10 := F_current.same W6
    have f11 := E1.wr W6
    have K6 := ((Keep.refl h0 [a1])).wr W6 (Or.inl (List.mem_of_getElem? (i := 0) rfl))
    have Zs6 : n0 ≤ h6.size := Nat.le_trans Z0 (Keep.of_wr W6).1
    have k6 : Go p e below (s₁.setTop (entryFrame m #[(.ref a1)] 1)) (T6.setTop (mkF m 25 #[.val (.ref a1)] [])) := fun t kk => k5 t (st6 t kk)
    have ro12 : own_rnd cu pn st r = r := by simp [own_rnd, hc4_3]
    obtain ⟨fs, hr, hrun, hended, hW, hsame⟩ := X6.leave (v := none) (fun _ => rfl)
    refine ⟨_, _, k6 _ ?_, hrun, hended, _, _, rfl, ?_, ⟨_, rfl⟩, hW, hsame.mono (by decide) (by decide)⟩
    · show Steps p.tables e below (T6.setTop (mkF m 25 #[.val (.ref a1)] [])) _
      exact X6.returnOut hx Bd.returns (hb hby dprog_5_method_6_code_25) hr
    · show QP Z a1 r pn st cu h0 n0 _ T6.heap _
      rw [e6]
      exact ⟨rfl, N6, K6, (by rw [ro12]; exact f7), f8, f9, f10⟩
  · have k14 : Go p e below (s₁.setTop (entryFrame m #[(.ref a1)] 1)) (T2.setTop (mkF m 9 #[.val (.ref a1)] [(.ref a1), (.ref a1)])) := fun t kk => k2 t (by
      show Steps p.tables e below (T2.setTop (mkF m 4 #[.val (.ref a1)] [(.int (own_last cu pn st))])) _
      refine XS.ifNo X2.here hx rfl (hb hby dprog_5_method_6_code_4) rfl ((if0 _ _).trans (feq hc4_3).1) ?_
      show Steps p.tables e below (T2.setTop (mkF m 7 #[.val (.ref a1)] [])) _
      refine XS.aloadN X2.here hx rfl (hb hby dprog_5_method_6_code_7) rfl rfl ?_
      show Steps p.tables e below (T2.setTop (mkF m 8 #[.val (.ref a1)] [(.ref a1)])) _
      refine XS.dup X2.here hx rfl (hb hby dprog_5_method_6_code_8) rfl rfl ?_
      exact kk)
    obtain ⟨T15, X15, e15, st15⟩ := getF X2 hx hZ hown (host := "") (Or.inl (hw _ (List.mem_of_getElem? (i := 14) rfl))) Via.refl e2 F_round (g := (mkF m 9 #[.val (.ref a1)] [(.ref a1), (.ref a1)])) rfl rfl (hb hby dprog_5_method_6_code_9)
    have k15 : Go p e below (s₁.setTop (entryFrame m #[(.ref a1)] 1)) (T15.setTop (mkF m 12 #[.val (.ref a1)] [(.int r), (.ref a1)])) := fun t kk => k14 t (st15 t kk)
    have k16 : Go p e below (s₁.setTop (entryFrame m #[(.ref a1)] 1)) (T15.setTop (mkF m 14 #[.val (.ref a1)] [(.int (r + (1 : Int32))), (.ref a1)])) := fun t kk => k15 t (by
      show Steps p.tables e below (T15.setTop (mkF m 12 #[.val (.ref a1)] [(.int r), (.ref a1)])) _
      refine XS.iconst X15.here hx rfl (hb hby dprog_5_method_6_code_12) ?_
      show Steps p.tables e below (T15.setTop (mkF m 13 #[.val (.ref a1)] [(.int (1 : Int32)), (.int r), (.ref a1)])) _
      refine XS.iadd X15.here hx rfl (hb hby dprog_5_method_6_code_13) rfl ?_
      exact kk)
    obtain ⟨T17, h17, X17, e17, W17, st17⟩ := putF X15 hx hZ hown (host := "") (Or.inl (hw _ (List.mem_of_getElem? (i := 14) rfl))) Via.refl e15 F_round E1 (Or.inl (hw _ (List.mem_of_getElem? (i := 15) rfl))) (hw _ (List.mem_of_getElem? (i := 6) rfl)) (ty := .int) (by decide) rfl rfl (g := (mkF m 14 #[.val (.ref a1)] [(.int (r + (1 : Int32))), (.ref a1)])) rfl rfl (hb hby dprog_5_method_6_code_14)
    have N17 := Fr.snoc X17 N0 g1
    have f18 := F_round.same W17
    have f19 := F_players.other W17 (Or.inr (slot_ne (Or.inr (hw _ (List.mem_of_getElem? (i := 17) rfl))) (Or.inl (hw _ (List.mem_of_getElem? (i := 15) rfl))) (by decide) (t := .int) (t' := .int) (by decide) (by decide)))
    have f20 := F_start.other W17 (Or.inr (slot_ne (Or.inr (hw _ (List.mem_of_getElem? (i := 19) rfl))) (Or.inl (hw _ (List.mem_of_getElem? (i := 15) rfl))) (by decide) (t := .int) (t' := .int) (by decide) (by decide)))
    have f21 := F_current.other W17 (Or.inr (slot_ne (Or.inl (hw _ (List.mem_of_getElem? (i := 21) rfl))) (Or.inl (hw _ (List.mem_of_getElem? (i := 15) rfl))) (by decide) (t := .int) (t' := .int) (by decide) (by decide)))
    have f22 := E1.wr W17
    have K17 := ((Keep.refl h0 [a1])).wr W17 (Or.inl (List.mem_of_getElem? (i := 0) rfl))
    have Zs17 : n0 ≤ h17.size := Nat.le_trans Z0 (Keep.of_wr W17).1
    have k17 : Go p e below (s₁.setTop (entryFrame m #[(.ref a1)] 1)) (T17.setTop (mkF m 17 #[.val (.ref a1)] [])) := fun t kk => k16 t (st17 t kk)
    have k23 : Go p e below (s₁.setTop (entryFrame m #[(.ref a1)] 1)) (T17.setTop (mkF m 19 #[.val (.ref a1)] [(.ref a1), (.ref a1)])) := fun t kk => k17 t (by
      show Steps p.tables e below (T17.setTop (mkF m 17 #[.val (.ref a1)] [])) _
      refine XS.aloadN X17.here hx rfl (hb hby dprog_5_method_6_code_17) rfl rfl ?_
      show Steps p.tables e below (T17.setTop (mkF m 18 #[.val (.ref a1)] [(.ref a1)])) _
      refine XS.aloadN X17.here hx rfl (hb hby dprog_5_method_6_code_18) rfl rfl ?_
      exact kk)
    obtain ⟨cq24, q24, q24'⟩ := f22.cell
    obtain ⟨_, _, ⟨T24, L24, kx24, nx24⟩, -, X24, ⟨Lc24, hQ24, l24, y24, z24⟩, st24⟩ := X17.privateBack hx (y := (⟨"com/example/tabularium/tabularium/engine/TurnOrder", "next", "()I"⟩ : MethodName)) hown (mvT hZ (hw _ (List.mem_of_getElem? (i := 32) rfl))) (mvT hZ (hw _ (List.mem_of_getElem? (i := 33) rfl))) (own_selpriv (mvT hZ (hw _ (List.mem_of_getElem? (i := 6) rfl))) (mvP hZ (hw _ (List.mem_of_getElem? (i := 34) rfl))) (mvT hZ (hw _ (List.mem_of_getElem? (i := 33) rfl))) (by decide)) (Cond.privateMethod_at (mvP hZ (hw _ (List.mem_of_getElem? (i := 34) rfl)) (args := #[]))) (mvT hZ (hw _ (List.mem_of_getElem? (i := 35) rfl))) (by decide) (backOf (W := 1) (rmX l Z a0 hw [] a1 cu pn h17 n0 Zs17 f21 f19 hz0) hZ (hw _ (List.mem_of_getElem? (i := 35) rfl)) (hw _ (List.mem_of_getElem? (i := 7) rfl)) (by decide) (by decide)) (g := (mkF m 19 #[.val (.ref a1)] [(.ref a1), (.ref a1)])) rfl (by rw [hml]; rfl) (Steps.refl _) (a := a1) (by rw [e17]; exact q24) q24' (argsL := []) (rest := [(.ref a1)]) (lenOf pd_0 rfl) rfl (by show 2 * 0 + _ ≤ _; exact Nat.le_of_eq rfl) (hb hby dprog_5_method_6_code_19) (fun _ _ => ⟨rfl, e17, (by decide : 0 + 0 ≤ _), (by decide : 0 + 0 ≤ _)⟩)
    dsimp only [Pt.U, Pt.locs, Pt.cells, Pt.slots] at X24 l24 y24 z24 st24 hQ24
    subst l24 y24 z24
    obtain ⟨rfl, rfl, e24⟩ := hQ24
    try rw [List.append_nil] at X24
    have k24 : Go p e below (s₁.setTop (entryFrame m #[(.ref a1)] 1)) (T24.setTop (mkF m 22 #[.val (.ref a1)] [(.int ((cu % pn) + (1 : Int32))), (.ref a1)])) := fun t kk => k23 t (st24.trans kk)
    obtain ⟨T25, h25, X25, e25, W25, st25⟩ := putF X24 hx hZ hown (host := "") (Or.inl (hw _ (List.mem_of_getElem? (i := 20) rfl))) Via.refl e24 f21 f22 (Or.inl (hw _ (List.mem_of_getElem? (i := 21) rfl))) (hw _ (List.mem_of_getElem? (i := 6) rfl)) (ty := .int) (by decide) rfl rfl (g := (mkF m 22 #[.val (.ref a1)] [(.int ((cu % pn) + (1 : Int32))), (.ref a1)])) rfl rfl (hb hby dprog_5_method_6_code_22)
    have N25 := Fr.snoc X25 N17 g1
    have f26 := f18.other W25 (Or.inr (slot_ne (Or.inl (hw _ (List.mem_of_getElem? (i := 15) rfl))) (Or.inl (hw _ (List.mem_of_getElem? (i := 21) rfl))) (by decide) (t := .int) (t' := .int) (by decide) (by decide)))
    have f27 := f19.other W25 (Or.inr (slot_ne (Or.inr (hw _ (List.mem_of_getElem? (i := 17) rfl))) (Or.inl (hw _ (List.mem_of_getElem? (i := 21) rfl))) (by decide) (t := .int) (t' := .int) (by decide) (by decide)))
    have f28 := f20.other W25 (Or.inr (slot_ne (Or.inr (hw _ (List.mem_of_getElem? (i := 19) rfl))) (Or.inl (hw _ (List.mem_of_getElem? (i := 21) rfl))) (by decide) (t := .int) (t' := .int) (by decide) (by decide)))
    have f29 := f21.same W25
    have f30 := f22.wr W25
    have K25 := (K17).wr W25 (Or.inl (List.mem_of_getElem? (i := 0) rfl))
    have Zs25 : n0 ≤ h25.size := Nat.le_trans Zs17 (Keep.of_wr W25).1
    have k25 : Go p e below (s₁.setTop (entryFrame m #[(.ref a1)] 1)) (T25.setTop (mkF m 25 #[.val (.ref a1)] [])) := fun t kk => k24 t (st25 t kk)
    have ro31 : own_rnd cu pn st r = (r + (1 : Int32)) := by simp [own_rnd, hc4_3]
    obtain ⟨fs, hr, hrun, hended, hW, hsame⟩ := X25.leave (v := none) (fun _ => rfl)
    refine ⟨_, _, k25 _ ?_, hrun, hended, _, _, rfl, ?_, ⟨_, rfl⟩, hW, hsame.mono (by decide) (by decide)⟩
    · show Steps p.tables e below (T25.setTop (mkF m 25 #[.val (.ref a1)] [])) _
      exact X25.returnOut hx Bd.returns (hb hby dprog_5_method_6_code_25) hr
    · show QP Z a1 r pn st cu h0 n0 _ T25.heap _
      rw [e25]
      exact ⟨rfl, N25, K25, (by rw [ro31]; exact f26), f27, f28, f29⟩
theorem dprog_5_method_2_code_0 : decode prog_5_method_2_code 0 = .ok (.aload_n 0, 1) := by decide +kernel
theorem dprog_5_method_2_code_1 : decode prog_5_method_2_code 1 = .ok (.getfield 28, 3) := by decide +kernel
theorem dprog_5_method_2_code_4 : decode prog_5_method_2_code 4 = .ok (.ireturn, 1) := by decide +kernel
theorem ef_rmGc (m : MethodId) (x0 : Addr) : entryFrame m #[(.ref x0)] 1 = mkF m 0 #[.val (.ref x0)] [] := by first | (simp [entryFrame, mkF, argsToLocals, Value.category]; done) | rfl
def QrmGc (Z : State) (a1 : Addr) (cu : Int32) (h0 : Heap) (n0 : Nat) (v : Option Value) (h : Heap) (L : List Loc) : Prop := v = some (.int cu) ∧ L = [] ∧ h = h0
set_option maxRecDepth 65536 in
set_option maxHeartbeats 40000000 in
theorem rmGc (l : Launch) (Z : State) (a0 : Array Value) (hw : ∀ d ∈ tables_1, d.before a0 Z = true) (ws : List Jvm.Cond) (a1 : Addr) (cu : Int32) (h0 : Heap) (n0 : Nat) (Z0 : n0 ≤ h0.size) (F1 : Fld Z h0 a1 "com/example/tabularium/tabularium/engine/TurnOrder" "current" "I" (.int cu)) :
    MetFree l (⟨"com/example/tabularium/tabularium/engine/TurnOrder", "current", "()I"⟩ : MethodName) (head1 (Jvm.Cond.code (⟨"com/example/tabularium/tabularium/engine/TurnOrder", "current", "()I"⟩ : MethodName) prog_5_method_2_code 1 (some .int) :: ws) ({ frames := 0, cells := 0, slots := 0, locals := 0 } : Room)) (fun a U => a = #[(.ref a1)] ∧ Z.Warmed39 U.vm ∧ U.heap = h0) (fun _ _ _ _ _ => True) (fun _ U o U' => ∃ v L, o = .returned v ∧ QrmGc Z a1 cu h0 n0 v U'.heap L ∧ FrameEnd U o U' L ({ frames := 0, cells := 0, slots := 0, locals := 0 } : Room).cells ({ frames := 0, cells := 0, slots := 0, locals := 0 } : Room).slots) := by
  refine MetFree.of_bodySF (plainFor_of_name pn_0) hisR ?_
  intro p e s m args below meth c s₁ Bd hml0 hP hK
  obtain ⟨rfl, hZ, hh⟩ := hP
  have hx := Bd.exec
  have hby := Bd.bytes
  have hml : c.maxLocals = 1 := hml0
  have hown : s.vm.findClass "com/example/tabularium/tabularium/engine/TurnOrder" = some m.cls := findClass_of_methodNamed Bd.named
  have hnm := (name_of_methodNamed Bd.named Bd.method).1
  have X0 : Stand p l e ({ frames := 0, cells := 0, slots := 0, locals := 0 } : Room) s m #[(.ref a1)] below meth c s₁ [] 0 0 := Stand.of_body Bd
  have e0 : s₁.heap = h0 := by rw [← hh, Bd.state]; rfl
  have N0 := Fr.nil n0
  have k0 : Go p e below (s₁.setTop (entryFrame m #[(.ref a1)] 1)) (s₁.setTop (mkF m 0 #[.val (.ref a1)] [])) := fun t k => castTop (ef_rmGc m a1) k
  have k1 : Go p e below (s₁.setTop (entryFrame m #[(.ref a1)] 1)) (s₁.setTop (mkF m 1 #[.val (.ref a1)] [(.ref a1)])) := fun t kk => k0 t (by
    show Steps p.tables e below (s₁.setTop (mkF m 0 #[.val (.ref a1)] [])) _
    refine XS.aloadN X0.here hx rfl (hb hby dprog_5_method_2_code_0) rfl rfl ?_
    exact kk)
  obtain ⟨T2, X2, e2, st2⟩ := getF X0 hx hZ hown (host := "") (Or.inl (hw _ (List.mem_of_getElem? (i := 20) rfl))) Via.refl e0 F1 (g := (mkF m 1 #[.val (.ref a1)] [(.ref a1)])) rfl rfl (hb hby dprog_5_method_2_code_1)
  have k2 : Go p e below (s₁.setTop (entryFrame m #[(.ref a1)] 1)) (T2.setTop (mkF m 4 #[.val (.ref a1)] [(.int cu)])) := fun t kk => k1 t (st2 t kk)
  obtain ⟨fs, hr, hrun, hended, hW, hsame⟩ := X2.leave (v := some (.int cu)) (fun h => by rw [Bd.returns] at h; cases h)
  refine ⟨_, _, k2 _ ?_, hrun, hended, _, _, rfl, ?_, ⟨_, rfl⟩, hW, hsame.mono (by decide) (by decide)⟩
  · show Steps p.tables e below (T2.setTop (mkF m 4 #[.val (.ref a1)] [(.int cu)])) _
    exact retI X2 hx Bd.returns (hb hby dprog_5_method_2_code_4) hr
  · show QrmGc Z a1 cu h0 n0 _ T2.heap _
    rw [e2]
    exact ⟨rfl, rfl, rfl⟩
theorem dprog_5_method_4_code_0 : decode prog_5_method_4_code 0 = .ok (.aload_n 0, 1) := by decide +kernel
theorem dprog_5_method_4_code_1 : decode prog_5_method_4_code 1 = .ok (.getfield 7, 3) := by decide +kernel
theorem dprog_5_method_4_code_4 : decode prog_5_method_4_code 4 = .ok (.ireturn, 1) := by decide +kernel
theorem ef_rmGr (m : MethodId) (x0 : Addr) : entryFrame m #[(.ref x0)] 1 = mkF m 0 #[.val (.ref x0)] [] := by first | (simp [entryFrame, mkF, argsToLocals, Value.category]; done) | rfl
def QrmGr (Z : State) (a1 : Addr) (cu : Int32) (h0 : Heap) (n0 : Nat) (v : Option Value) (h : Heap) (L : List Loc) : Prop := v = some (.int cu) ∧ L = [] ∧ h = h0
set_option maxRecDepth 65536 in
set_option maxHeartbeats 40000000 in
theorem rmGr (l : Launch) (Z : State) (a0 : Array Value) (hw : ∀ d ∈ tables_1, d.before a0 Z = true) (ws : List Jvm.Cond) (a1 : Addr) (cu : Int32) (h0 : Heap) (n0 : Nat) (Z0 : n0 ≤ h0.size) (F1 : Fld Z h0 a1 "com/example/tabularium/tabularium/engine/TurnOrder" "round" "I" (.int cu)) :
    MetFree l (⟨"com/example/tabularium/tabularium/engine/TurnOrder", "round", "()I"⟩ : MethodName) (head1 (Jvm.Cond.code (⟨"com/example/tabularium/tabularium/engine/TurnOrder", "round", "()I"⟩ : MethodName) prog_5_method_4_code 1 (some .int) :: ws) ({ frames := 0, cells := 0, slots := 0, locals := 0 } : Room)) (fun a U => a = #[(.ref a1)] ∧ Z.Warmed39 U.vm ∧ U.heap = h0) (fun _ _ _ _ _ => True) (fun _ U o U' => ∃ v L, o = .returned v ∧ QrmGr Z a1 cu h0 n0 v U'.heap L ∧ FrameEnd U o U' L ({ frames := 0, cells := 0, slots := 0, locals := 0 } : Room).cells ({ frames := 0, cells := 0, slots := 0, locals := 0 } : Room).slots) := by
  refine MetFree.of_bodySF (plainFor_of_name pn_0) hisR ?_
  intro p e s m args below meth c s₁ Bd hml0 hP hK
  obtain ⟨rfl, hZ, hh⟩ := hP
  have hx := Bd.exec
  have hby := Bd.bytes
  have hml : c.maxLocals = 1 := hml0
  have hown : s.vm.findClass "com/example/tabularium/tabularium/engine/TurnOrder" = some m.cls := findClass_of_methodNamed Bd.named
  have hnm := (name_of_methodNamed Bd.named Bd.method).1
  have X0 : Stand p l e ({ frames := 0, cells := 0, slots := 0, locals := 0 } : Room) s m #[(.ref a1)] below meth c s₁ [] 0 0 := Stand.of_body Bd
  have e0 : s₁.heap = h0 := by rw [← hh, Bd.state]; rfl
  have N0 := Fr.nil n0
  have k0 : Go p e below (s₁.setTop (entryFrame m #[(.ref a1)] 1)) (s₁.setTop (mkF m 0 #[.val (.ref a1)] [])) := fun t k => castTop (ef_rmGr m a1) k
  have k1 : Go p e below (s₁.setTop (entryFrame m #[(.ref a1)] 1)) (s₁.setTop (mkF m 1 #[.val (.ref a1)] [(.ref a1)])) := fun t kk => k0 t (by
    show Steps p.tables e below (s₁.setTop (mkF m 0 #[.val (.ref a1)] [])) _
    refine XS.aloadN X0.here hx rfl (hb hby dprog_5_method_4_code_0) rfl rfl ?_
    exact kk)
  obtain ⟨T2, X2, e2, st2⟩ := getF X0 hx hZ hown (host := "") (Or.inl (hw _ (List.mem_of_getElem? (i := 14) rfl))) Via.refl e0 F1 (g := (mkF m 1 #[.val (.ref a1)] [(.ref a1)])) rfl rfl (hb hby dprog_5_method_4_code_1)
  have k2 : Go p e below (s₁.setTop (entryFrame m #[(.ref a1)] 1)) (T2.setTop (mkF m 4 #[.val (.ref a1)] [(.int cu)])) := fun t kk => k1 t (st2 t kk)
  obtain ⟨fs, hr, hrun, hended, hW, hsame⟩ := X2.leave (v := some (.int cu)) (fun h => by rw [Bd.returns] at h; cases h)
  refine ⟨_, _, k2 _ ?_, hrun, hended, _, _, rfl, ?_, ⟨_, rfl⟩, hW, hsame.mono (by decide) (by decide)⟩
  · show Steps p.tables e below (T2.setTop (mkF m 4 #[.val (.ref a1)] [(.int cu)])) _
    exact retI X2 hx Bd.returns (hb hby dprog_5_method_4_code_4) hr
  · show QrmGr Z a1 cu h0 n0 _ T2.heap _
    rw [e2]
    exact ⟨rfl, rfl, rfl⟩
theorem own_maskI (x : Int32) : 0 ≤ (x &&& (2147483647 : Int32)).toInt ∧ (x &&& (2147483647 : Int32)).toInt ≤ 2147483647 := by
  have h0 : (x &&& (2147483647 : Int32)).toInt = x.toInt % (2 ^ 31 : Nat) := c_mask x 2147483647 31 (by decide) (by decide)
  rw [h0]; omega
theorem own_max1 {x : Int32} (h : 0 ≤ x.toInt) : 1 ≤ (own_max 1 x).toInt := by
  unfold own_max
  have e : (1 : Int32).toInt = 1 := rfl
  split
  · rename_i q; rw [Int32.lt_iff_toInt_lt] at q; omega
  · omega
theorem own_nz {n : Int32} (h : 1 ≤ n.toInt) : n ≠ 0 := fun q => by
  rw [q] at h; exact absurd h (by decide)
theorem own_start {x n : Int32} (h : 1 ≤ n.toInt) (hx : 0 ≤ x.toInt) : 1 ≤ (1 + x % n).toInt ∧ (1 + x % n).toInt ≤ n.toInt := by
  obtain ⟨a1, a2, -⟩ := (c_iremV x n).1 hx (by omega)
  have e : (1 : Int32).toInt = 1 := rfl
  have b := c_iadd 1 (x % n)
  have r := rng32 (1 + x % n)
  have r2 := rng32 n
  omega
theorem own_next {c n : Int32} (h : 1 ≤ n.toInt) (h1 : 1 ≤ c.toInt) (h2 : c.toInt ≤ n.toInt) : ((c % n) + 1).toInt = if c.toInt = n.toInt then 1 else c.toInt + 1 := by
  obtain ⟨a1, a2, a3, a4, a5⟩ := (c_iremV c n).1 (by omega) (by omega)
  have e : (1 : Int32).toInt = 1 := rfl
  have b := c_iadd (c % n) 1
  have r := rng32 ((c % n) + 1)
  have r2 := rng32 n
  split
  · have := a5 (by omega) (by omega); omega
  · have := a4 (by omega); omega
theorem own_range {c n : Int32} (h : 1 ≤ n.toInt) (h1 : 1 ≤ c.toInt ∧ c.toInt ≤ n.toInt) : 1 ≤ ((c % n) + 1).toInt ∧ ((c % n) + 1).toInt ≤ n.toInt := by
  rw [own_next h h1.1 h1.2]; split <;> omega
theorem own_lt {a b : Int32} (h : b.toInt ≤ a.toInt) : ¬ (a < b) := by rw [Int32.lt_iff_toInt_lt]; omega
def own_cur (pn st j : Int32) : Int64 := ((((st.toInt64 - (1 : Int64)) + j.toInt64) - (((st.toInt64 - (1 : Int64)) + j.toInt64) / pn.toInt64) * pn.toInt64) + (1 : Int64))
def own_rd (pn j : Int32) : Int32 := ((1 : Int32) + (j / pn))
theorem dmethod_2_code_0 : decode method_2_code 0 = .ok (.iload_n 2, 1) := by decide +kernel
theorem dmethod_2_code_1 : decode method_2_code 1 = .ok (.i2l, 1) := by decide +kernel
theorem dmethod_2_code_2 : decode method_2_code 2 = .ok (.lconst 1, 1) := by decide +kernel
theorem dmethod_2_code_3 : decode method_2_code 3 = .ok (.lsub, 1) := by decide +kernel
theorem dmethod_2_code_4 : decode method_2_code 4 = .ok (.iload_n 3, 1) := by decide +kernel
theorem dmethod_2_code_5 : decode method_2_code 5 = .ok (.i2l, 1) := by decide +kernel
theorem dmethod_2_code_6 : decode method_2_code 6 = .ok (.ladd, 1) := by decide +kernel
theorem dmethod_2_code_7 : decode method_2_code 7 = .ok (.iload_n 1, 1) := by decide +kernel
theorem dmethod_2_code_8 : decode method_2_code 8 = .ok (.i2l, 1) := by decide +kernel
theorem dmethod_2_code_9 : decode method_2_code 9 = .ok (.lrem, 1) := by decide +kernel
theorem dmethod_2_code_10 : decode method_2_code 10 = .ok (.lconst 1, 1) := by decide +kernel
theorem dmethod_2_code_11 : decode method_2_code 11 = .ok (.ladd, 1) := by decide +kernel
theorem dmethod_2_code_12 : decode method_2_code 12 = .ok (.lstore 4, 2) := by decide +kernel
theorem dmethod_2_code_14 : decode method_2_code 14 = .ok (.iconst 1, 1) := by decide +kernel
theorem dmethod_2_code_15 : decode method_2_code 15 = .ok (.iload_n 3, 1) := by decide +kernel
theorem dmethod_2_code_16 : decode method_2_code 16 = .ok (.iload_n 1, 1) := by decide +kernel
theorem dmethod_2_code_17 : decode method_2_code 17 = .ok (.idiv, 1) := by decide +kernel
theorem dmethod_2_code_18 : decode method_2_code 18 = .ok (.iadd, 1) := by decide +kernel
theorem dmethod_2_code_19 : decode method_2_code 19 = .ok (.istore 6, 2) := by decide +kernel
theorem dmethod_2_code_21 : decode method_2_code 21 = .ok (.aload_n 0, 1) := by decide +kernel
theorem dmethod_2_code_22 : decode method_2_code 22 = .ok (.invokevirtual 7, 3) := by decide +kernel
theorem dmethod_2_code_25 : decode method_2_code 25 = .ok (.i2l, 1) := by decide +kernel
theorem dmethod_2_code_26 : decode method_2_code 26 = .ok (.lload 4, 2) := by decide +kernel
theorem dmethod_2_code_28 : decode method_2_code 28 = .ok (.lcmp, 1) := by decide +kernel
theorem dmethod_2_code_29 : decode method_2_code 29 = .ok (.ifCond .ne 16, 3) := by decide +kernel
theorem dmethod_2_code_32 : decode method_2_code 32 = .ok (.aload_n 0, 1) := by decide +kernel
theorem dmethod_2_code_33 : decode method_2_code 33 = .ok (.invokevirtual 13, 3) := by decide +kernel
theorem dmethod_2_code_36 : decode method_2_code 36 = .ok (.iload 6, 2) := by decide +kernel
theorem dmethod_2_code_38 : decode method_2_code 38 = .ok (.if_icmp .ne 7, 3) := by decide +kernel
theorem dmethod_2_code_41 : decode method_2_code 41 = .ok (.iconst 1, 1) := by decide +kernel
theorem dmethod_2_code_42 : decode method_2_code 42 = .ok (.goto 4, 3) := by decide +kernel
theorem dmethod_2_code_46 : decode method_2_code 46 = .ok (.ireturn, 1) := by decide +kernel
theorem ef_rmK (m : MethodId) (x0 : Addr) (x1 : Int32) (x2 : Int32) (x3 : Int32) : entryFrame m #[(.ref x0), (.int x1), (.int x2), (.int x3)] 7 = mkF m 0 #[.val (.ref x0), .val (.int x1), .val (.int x2), .val (.int x3), .unset, .unset, .unset] [] := by first | (simp [entryFrame, mkF, argsToLocals, Value.category]; done) | rfl
def QK (Z : State) (a1 : Addr) (pn : Int32) (st : Int32) (j : Int32) (cu : Int32) (r : Int32) (h0 : Heap) (n0 : Nat) (v : Option Value) (h : Heap) (L : List Loc) : Prop := v = some (.int 1) ∧ L = [] ∧ h = h0
theorem pn_1 : plainName "com/example/tabularium/tabularium/engine/TurnOrderPassPinLaw" = true := by first | (simp [plainName, overriddenIn]; done) | decide +kernel
set_option maxRecDepth 65536 in
set_option maxHeartbeats 40000000 in
theorem rmK (l : Launch) (Z : State) (a0 : Array Value) (hw : ∀ d ∈ tables_1, d.before a0 Z = true) (ws : List Jvm.Cond) (a1 : Addr) (pn : Int32) (st : Int32) (j : Int32) (cu : Int32) (r : Int32) (h0 : Heap) (n0 : Nat) (Z0 : n0 ≤ h0.size) (F1 : Fld Z h0 a1 "com/example/tabularium/tabularium/engine/TurnOrder" "current" "I" (.int cu)) (F2 : Fld Z h0 a1 "com/example/tabularium/tabularium/engine/TurnOrder" "round" "I" (.int r)) (E1 : Exa Z h0 a1 "com/example/tabularium/tabularium/engine/TurnOrder") (hz0 : pn ≠ 0) (hzl : (pn.toInt64) ≠ 0) (hc1 : cu.toInt64 = own_cur pn st j) (hc2 : r = own_rd pn j) :
    MetFree l (⟨"com/example/tabularium/tabularium/engine/TurnOrderPassPinLaw", "check", "(Lcom/example/tabularium/tabularium/engine/TurnOrder;III)Z"⟩ : MethodName) (head1 (Jvm.Cond.code (⟨"com/example/tabularium/tabularium/engine/TurnOrderPassPinLaw", "check", "(Lcom/example/tabularium/tabularium/engine/TurnOrder;III)Z"⟩ : MethodName) method_2_code 7 (some .boolean) :: ws) ({ frames := 1, cells := 0, slots := 0, locals := 14 } : Room)) (fun a U => a = #[(.ref a1), (.int pn), (.int st), (.int j)] ∧ Z.Warmed39 U.vm ∧ U.heap = h0) (fun _ _ _ _ _ => True) (fun _ U o U' => ∃ v L, o = .returned v ∧ QK Z a1 pn st j cu r h0 n0 v U'.heap L ∧ FrameEnd U o U' L ({ frames := 1, cells := 0, slots := 0, locals := 14 } : Room).cells ({ frames := 1, cells := 0, slots := 0, locals := 14 } : Room).slots) := by
  refine MetFree.of_bodySF (plainFor_of_name pn_1) hisR ?_
  intro p e s m args below meth c s₁ Bd hml0 hP hK
  obtain ⟨rfl, hZ, hh⟩ := hP
  have hx := Bd.exec
  have hby := Bd.bytes
  have hml : c.maxLocals = 7 := hml0
  have hown : s.vm.findClass "com/example/tabularium/tabularium/engine/TurnOrderPassPinLaw" = some m.cls := findClass_of_methodNamed Bd.named
  have hnm := (name_of_methodNamed Bd.named Bd.method).1
  have X0 : Stand p l e ({ frames := 1, cells := 0, slots := 0, locals := 14 } : Room) s m #[(.ref a1), (.int pn), (.int st), (.int j)] below meth c s₁ [] 0 0 := Stand.of_body Bd
  have e0 : s₁.heap = h0 := by rw [← hh, Bd.state]; rfl
  have N0 := Fr.nil n0
  have k0 : Go p e below (s₁.setTop (entryFrame m #[(.ref a1), (.int pn), (.int st), (.int j)] 7)) (s₁.setTop (mkF m 0 #[.val (.ref a1), .val (.int pn), .val (.int st), .val (.int j), .unset, .unset, .unset] [])) := fun t k => castTop (ef_rmK m a1 pn st j) k
  have k1 : Go p e below (s₁.setTop (entryFrame m #[(.ref a1), (.int pn), (.int st), (.int j)] 7)) (s₁.setTop (mkF m 22 #[.val (.ref a1), .val (.int pn), .val (.int st), .val (.int j), .val (.long (((((st.toInt64) - (1 : Int64)) + (j.toInt64)) - ((((st.toInt64) - (1 : Int64)) + (j.toInt64)) / (pn.toInt64)) * (pn.toInt64)) + (1 : Int64))), .second, .val (.int ((1 : Int32) + (j / pn)))] [(.ref a1)])) := fun t kk => k0 t (by
    show Steps p.tables e below (s₁.setTop (mkF m 0 #[.val (.ref a1), .val (.int pn), .val (.int st), .val (.int j), .unset, .unset, .unset] [])) _
    refine XS.iloadN X0.here hx rfl (hb hby dmethod_2_code_0) rfl ?_
    show Steps p.tables e below (s₁.setTop (mkF m 1 #[.val (.ref a1), .val (.int pn), .val (.int st), .val (.int j), .unset, .unset, .unset] [(.int st)])) _
    refine XS.i2l X0.here hx rfl (hb hby dmethod_2_code_1) rfl ?_
    show Steps p.tables e below (s₁.setTop (mkF m 2 #[.val (.ref a1), .val (.int pn), .val (.int st), .val (.int j), .unset, .unset, .unset] [(.long (st.toInt64))])) _
    refine XS.lconst X0.here hx rfl (hb hby dmethod_2_code_2) ?_
    show Steps p.tables e below (s₁.setTop (mkF m 3 #[.val (.ref a1), .val (.int pn), .val (.int st), .val (.int j), .unset, .unset, .unset] [(.long (1 : Int64)), (.long (st.toInt64))])) _
    refine XS.lsub X0.here hx rfl (hb hby dmethod_2_code_3) rfl ?_
    show Steps p.tables e below (s₁.setTop (mkF m 4 #[.val (.ref a1), .val (.int pn), .val (.int st), .val (.int j), .unset, .unset, .unset] [(.long ((st.toInt64) - (1 : Int64)))])) _
    refine XS.iloadN X0.here hx rfl (hb hby dmethod_2_code_4) rfl ?_
    show Steps p.tables e below (s₁.setTop (mkF m 5 #[.val (.ref a1), .val (.int pn), .val (.int st), .val (.int j), .unset, .unset, .unset] [(.int j), (.long ((st.toInt64) - (1 : Int64)))])) _
    refine XS.i2l X0.here hx rfl (hb hby dmethod_2_code_5) rfl ?_
    show Steps p.tables e below (s₁.setTop (mkF m 6 #[.val (.ref a1), .val (.int pn), .val (.int st), .val (.int j), .unset, .unset, .unset] [(.long (j.toInt64)), (.long ((st.toInt64) - (1 : Int64)))])) _
    refine XS.ladd X0.here hx rfl (hb hby dmethod_2_code_6) rfl ?_
    show Steps p.tables e below (s₁.setTop (mkF m 7 #[.val (.ref a1), .val (.int pn), .val (.int st), .val (.int j), .unset, .unset, .unset] [(.long (((st.toInt64) - (1 : Int64)) + (j.toInt64)))])) _
    refine XS.iloadN X0.here hx rfl (hb hby dmethod_2_code_7) rfl ?_
    show Steps p.tables e below (s₁.setTop (mkF m 8 #[.val (.ref a1), .val (.int pn), .val (.int st), .val (.int j), .unset, .unset, .unset] [(.int pn), (.long (((st.toInt64) - (1 : Int64)) + (j.toInt64)))])) _
    refine XS.i2l X0.here hx rfl (hb hby dmethod_2_code_8) rfl ?_
    show Steps p.tables e below (s₁.setTop (mkF m 9 #[.val (.ref a1), .val (.int pn), .val (.int st), .val (.int j), .unset, .unset, .unset] [(.long (pn.toInt64)), (.long (((st.toInt64) - (1 : Int64)) + (j.toInt64)))])) _
    refine XS.lrem X0.here hx rfl (hb hby dmethod_2_code_9) rfl hzl ?_
    show Steps p.tables e below (s₁.setTop (mkF m 10 #[.val (.ref a1), .val (.int pn), .val (.int st), .val (.int j), .unset, .unset, .unset] [(.long ((((st.toInt64) - (1 : Int64)) + (j.toInt64)) - ((((st.toInt64) - (1 : Int64)) + (j.toInt64)) / (pn.toInt64)) * (pn.toInt64)))])) _
    refine XS.lconst X0.here hx rfl (hb hby dmethod_2_code_10) ?_
    show Steps p.tables e below (s₁.setTop (mkF m 11 #[.val (.ref a1), .val (.int pn), .val (.int st), .val (.int j), .unset, .unset, .unset] [(.long (1 : Int64)), (.long ((((st.toInt64) - (1 : Int64)) + (j.toInt64)) - ((((st.toInt64) - (1 : Int64)) + (j.toInt64)) / (pn.toInt64)) * (pn.toInt64)))])) _
    refine XS.ladd X0.here hx rfl (hb hby dmethod_2_code_11) rfl ?_
    show Steps p.tables e below (s₁.setTop (mkF m 12 #[.val (.ref a1), .val (.int pn), .val (.int st), .val (.int j), .unset, .unset, .unset] [(.long (((((st.toInt64) - (1 : Int64)) + (j.toInt64)) - ((((st.toInt64) - (1 : Int64)) + (j.toInt64)) / (pn.toInt64)) * (pn.toInt64)) + (1 : Int64)))])) _
    refine XS.lstore X0.here hx rfl (hb hby dmethod_2_code_12) rfl (l' := #[.val (.ref a1), .val (.int pn), .val (.int st), .val (.int j), .val (.long (((((st.toInt64) - (1 : Int64)) + (j.toInt64)) - ((((st.toInt64) - (1 : Int64)) + (j.toInt64)) / (pn.toInt64)) * (pn.toInt64)) + (1 : Int64))), .second, .unset]) rfl ?_
    show Steps p.tables e below (s₁.setTop (mkF m 14 #[.val (.ref a1), .val (.int pn), .val (.int st), .val (.int j), .val (.long (((((st.toInt64) - (1 : Int64)) + (j.toInt64)) - ((((st.toInt64) - (1 : Int64)) + (j.toInt64)) / (pn.toInt64)) * (pn.toInt64)) + (1 : Int64))), .second, .unset] [])) _
    refine XS.iconst X0.here hx rfl (hb hby dmethod_2_code_14) ?_
    show Steps p.tables e below (s₁.setTop (mkF m 15 #[.val (.ref a1), .val (.int pn), .val (.int st), .val (.int j), .val (.long (((((st.toInt64) - (1 : Int64)) + (j.toInt64)) - ((((st.toInt64) - (1 : Int64)) + (j.toInt64)) / (pn.toInt64)) * (pn.toInt64)) + (1 : Int64))), .second, .unset] [(.int (1 : Int32))])) _
    refine XS.iloadN X0.here hx rfl (hb hby dmethod_2_code_15) rfl ?_
    show Steps p.tables e below (s₁.setTop (mkF m 16 #[.val (.ref a1), .val (.int pn), .val (.int st), .val (.int j), .val (.long (((((st.toInt64) - (1 : Int64)) + (j.toInt64)) - ((((st.toInt64) - (1 : Int64)) + (j.toInt64)) / (pn.toInt64)) * (pn.toInt64)) + (1 : Int64))), .second, .unset] [(.int j), (.int (1 : Int32))])) _
    refine XS.iloadN X0.here hx rfl (hb hby dmethod_2_code_16) rfl ?_
    show Steps p.tables e below (s₁.setTop (mkF m 17 #[.val (.ref a1), .val (.int pn), .val (.int st), .val (.int j), .val (.long (((((st.toInt64) - (1 : Int64)) + (j.toInt64)) - ((((st.toInt64) - (1 : Int64)) + (j.toInt64)) / (pn.toInt64)) * (pn.toInt64)) + (1 : Int64))), .second, .unset] [(.int pn), (.int j), (.int (1 : Int32))])) _
    refine XS.idiv X0.here hx rfl (hb hby dmethod_2_code_17) rfl hz0 ?_
    show Steps p.tables e below (s₁.setTop (mkF m 18 #[.val (.ref a1), .val (.int pn), .val (.int st), .val (.int j), .val (.long (((((st.toInt64) - (1 : Int64)) + (j.toInt64)) - ((((st.toInt64) - (1 : Int64)) + (j.toInt64)) / (pn.toInt64)) * (pn.toInt64)) + (1 : Int64))), .second, .unset] [(.int (j / pn)), (.int (1 : Int32))])) _
    refine XS.iadd X0.here hx rfl (hb hby dmethod_2_code_18) rfl ?_
    show Steps p.tables e below (s₁.setTop (mkF m 19 #[.val (.ref a1), .val (.int pn), .val (.int st), .val (.int j), .val (.long (((((st.toInt64) - (1 : Int64)) + (j.toInt64)) - ((((st.toInt64) - (1 : Int64)) + (j.toInt64)) / (pn.toInt64)) * (pn.toInt64)) + (1 : Int64))), .second, .unset] [(.int ((1 : Int32) + (j / pn)))])) _
    refine XS.istore X0.here hx rfl (hb hby dmethod_2_code_19) rfl (l' := #[.val (.ref a1), .val (.int pn), .val (.int st), .val (.int j), .val (.long (((((st.toInt64) - (1 : Int64)) + (j.toInt64)) - ((((st.toInt64) - (1 : Int64)) + (j.toInt64)) / (pn.toInt64)) * (pn.toInt64)) + (1 : Int64))), .second, .val (.int ((1 : Int32) + (j / pn)))]) rfl ?_
    show Steps p.tables e below (s₁.setTop (mkF m 21 #[.val (.ref a1), .val (.int pn), .val (.int st), .val (.int j), .val (.long (((((st.toInt64) - (1 : Int64)) + (j.toInt64)) - ((((st.toInt64) - (1 : Int64)) + (j.toInt64)) / (pn.toInt64)) * (pn.toInt64)) + (1 : Int64))), .second, .val (.int ((1 : Int32) + (j / pn)))] [])) _
    refine XS.aloadN X0.here hx rfl (hb hby dmethod_2_code_21) rfl rfl ?_
    exact kk)
  obtain ⟨cq2, kq2, q2a, q2b, q2c⟩ := isOf hZ e0 E1
  obtain ⟨_, _, ⟨T2, L2, kx2, nx2⟩, -, X2, ⟨Lc2, hQ2, l2, y2, z2⟩, st2⟩ := X0.virtualBack hx (y := (⟨"com/example/tabularium/tabularium/engine/TurnOrder", "current", "()I"⟩ : MethodName)) (z := (⟨"com/example/tabularium/tabularium/engine/TurnOrder", "current", "()I"⟩ : MethodName)) hown (mvT hZ (hw _ (List.mem_of_getElem? (i := 40) rfl))) (mvT hZ (hw _ (List.mem_of_getElem? (i := 41) rfl))) (notFace_of_selects (args := #[]) (mvT hZ (hw _ (List.mem_of_getElem? (i := 43) rfl)))) (mvT hZ (hw _ (List.mem_of_getElem? (i := 43) rfl))) (mvT hZ (hw _ (List.mem_of_getElem? (i := 42) rfl))) (by decide) (backOf (W := 0) (rmGc l Z a0 hw [] a1 cu h0 n0 Z0 F1) hZ (hw _ (List.mem_of_getElem? (i := 44) rfl)) (hw _ (List.mem_of_getElem? (i := 7) rfl)) (by decide) (by decide)) q2a q2c (g := (mkF m 22 #[.val (.ref a1), .val (.int pn), .val (.int st), .val (.int j), .val (.long (((((st.toInt64) - (1 : Int64)) + (j.toInt64)) - ((((st.toInt64) - (1 : Int64)) + (j.toInt64)) / (pn.toInt64)) * (pn.toInt64)) + (1 : Int64))), .second, .val (.int ((1 : Int32) + (j / pn)))] [(.ref a1)])) rfl (by rw [hml]; rfl) (Steps.refl _) (argsL := []) (rest := []) (lenOf pd_0 rfl) rfl (by show 2 * 0 + _ ≤ _; exact Nat.le_of_eq rfl) (hb hby dmethod_2_code_22) (fun _ _ => ⟨rfl, e0, (by decide : 0 + 0 ≤ _), (by decide : 0 + 0 ≤ _)⟩)
  dsimp only [Pt.U, Pt.locs, Pt.cells, Pt.slots] at X2 l2 y2 z2 st2 hQ2
  subst l2 y2 z2
  obtain ⟨rfl, rfl, e2⟩ := hQ2
  try rw [List.append_nil] at X2
  have k2 : Go p e below (s₁.setTop (entryFrame m #[(.ref a1), (.int pn), (.int st), (.int j)] 7)) (T2.setTop (mkF m 25 #[.val (.ref a1), .val (.int pn), .val (.int st), .val (.int j), .val (.long (((((st.toInt64) - (1 : Int64)) + (j.toInt64)) - ((((st.toInt64) - (1 : Int64)) + (j.toInt64)) / (pn.toInt64)) * (pn.toInt64)) + (1 : Int64))), .second, .val (.int ((1 : Int32) + (j / pn)))] [(.int cu)])) := fun t kk => k1 t (st2.trans kk)
  have hd1 : (cu.toInt64) = (((((st.toInt64) - (1 : Int64)) + (j.toInt64)) - ((((st.toInt64) - (1 : Int64)) + (j.toInt64)) / (pn.toInt64)) * (pn.toInt64)) + (1 : Int64)) := hc1
  have k3 : Go p e below (s₁.setTop (entryFrame m #[(.ref a1), (.int pn), (.int st), (.int j)] 7)) (T2.setTop (mkF m 33 #[.val (.ref a1), .val (.int pn), .val (.int st), .val (.int j), .val (.long (((((st.toInt64) - (1 : Int64)) + (j.toInt64)) - ((((st.toInt64) - (1 : Int64)) + (j.toInt64)) / (pn.toInt64)) * (pn.toInt64)) + (1 : Int64))), .second, .val (.int ((1 : Int32) + (j / pn)))] [(.ref a1)])) := fun t kk => k2 t (by
    show Steps p.tables e below (T2.setTop (mkF m 25 #[.val (.ref a1), .val (.int pn), .val (.int st), .val (.int j), .val (.long (((((st.toInt64) - (1 : Int64)) + (j.toInt64)) - ((((st.toInt64) - (1 : Int64)) + (j.toInt64)) / (pn.toInt64)) * (pn.toInt64)) + (1 : Int64))), .second, .val (.int ((1 : Int32) + (j / pn)))] [(.int cu)])) _
    refine XS.i2l X2.here hx rfl (hb hby dmethod_2_code_25) rfl ?_
    show Steps p.tables e below (T2.setTop (mkF m 26 #[.val (.ref a1), .val (.int pn), .val (.int st), .val (.int j), .val (.long (((((st.toInt64) - (1 : Int64)) + (j.toInt64)) - ((((st.toInt64) - (1 : Int64)) + (j.toInt64)) / (pn.toInt64)) * (pn.toInt64)) + (1 : Int64))), .second, .val (.int ((1 : Int32) + (j / pn)))] [(.long (cu.toInt64))])) _
    refine XS.lload X2.here hx rfl (hb hby dmethod_2_code_26) rfl ?_
    show Steps p.tables e below (T2.setTop (mkF m 28 #[.val (.ref a1), .val (.int pn), .val (.int st), .val (.int j), .val (.long (((((st.toInt64) - (1 : Int64)) + (j.toInt64)) - ((((st.toInt64) - (1 : Int64)) + (j.toInt64)) / (pn.toInt64)) * (pn.toInt64)) + (1 : Int64))), .second, .val (.int ((1 : Int32) + (j / pn)))] [(.long (((((st.toInt64) - (1 : Int64)) + (j.toInt64)) - ((((st.toInt64) - (1 : Int64)) + (j.toInt64)) / (pn.toInt64)) * (pn.toInt64)) + (1 : Int64))), (.long (cu.toInt64))])) _
    refine XS.lcmp X2.here hx rfl (hb hby dmethod_2_code_28) rfl ?_
    show Steps p.tables e below (T2.setTop (mkF m 29 #[.val (.ref a1), .val (.int pn), .val (.int st), .val (.int j), .val (.long (((((st.toInt64) - (1 : Int64)) + (j.toInt64)) - ((((st.toInt64) - (1 : Int64)) + (j.toInt64)) / (pn.toInt64)) * (pn.toInt64)) + (1 : Int64))), .second, .val (.int ((1 : Int32) + (j / pn)))] [(.int (lcmpW (cu.toInt64) (((((st.toInt64) - (1 : Int64)) + (j.toInt64)) - ((((st.toInt64) - (1 : Int64)) + (j.toInt64)) / (pn.toInt64)) * (pn.toInt64)) + (1 : Int64))))])) _
    refine XS.ifNo X2.here hx rfl (hb hby dmethod_2_code_29) rfl ((if0 _ _).trans (teq ((lw_eq _ _).mpr hd1)).2) ?_
    show Steps p.tables e below (T2.setTop (mkF m 32 #[.val (.ref a1), .val (.int pn), .val (.int st), .val (.int j), .val (.long (((((st.toInt64) - (1 : Int64)) + (j.toInt64)) - ((((st.toInt64) - (1 : Int64)) + (j.toInt64)) / (pn.toInt64)) * (pn.toInt64)) + (1 : Int64))), .second, .val (.int ((1 : Int32) + (j / pn)))] [])) _
    refine XS.aloadN X2.here hx rfl (hb hby dmethod_2_code_32) rfl rfl ?_
    exact kk)
  obtain ⟨cq4, kq4, q4a, q4b, q4c⟩ := isOf hZ e2 E1
  obtain ⟨_, _, ⟨T4, L4, kx4, nx4⟩, -, X4, ⟨Lc4, hQ4, l4, y4, z4⟩, st4⟩ := X2.virtualBack hx (y := (⟨"com/example/tabularium/tabularium/engine/TurnOrder", "round", "()I"⟩ : MethodName)) (z := (⟨"com/example/tabularium/tabularium/engine/TurnOrder", "round", "()I"⟩ : MethodName)) hown (mvT hZ (hw _ (List.mem_of_getElem? (i := 45) rfl))) (mvT hZ (hw _ (List.mem_of_getElem? (i := 46) rfl))) (notFace_of_selects (args := #[]) (mvT hZ (hw _ (List.mem_of_getElem? (i := 48) rfl)))) (mvT hZ (hw _ (List.mem_of_getElem? (i := 48) rfl))) (mvT hZ (hw _ (List.mem_of_getElem? (i := 47) rfl))) (by decide) (backOf (W := 0) (rmGr l Z a0 hw [] a1 r h0 n0 Z0 F2) hZ (hw _ (List.mem_of_getElem? (i := 49) rfl)) (hw _ (List.mem_of_getElem? (i := 7) rfl)) (by decide) (by decide)) q4a q4c (g := (mkF m 33 #[.val (.ref a1), .val (.int pn), .val (.int st), .val (.int j), .val (.long (((((st.toInt64) - (1 : Int64)) + (j.toInt64)) - ((((st.toInt64) - (1 : Int64)) + (j.toInt64)) / (pn.toInt64)) * (pn.toInt64)) + (1 : Int64))), .second, .val (.int ((1 : Int32) + (j / pn)))] [(.ref a1)])) rfl (by rw [hml]; rfl) (Steps.refl _) (argsL := []) (rest := []) (lenOf pd_0 rfl) rfl (by show 2 * 0 + _ ≤ _; exact Nat.le_of_eq rfl) (hb hby dmethod_2_code_33) (fun _ _ => ⟨rfl, e2, (by decide : 0 + 0 ≤ _), (by decide : 0 + 0 ≤ _)⟩)
  dsimp only [Pt.U, Pt.locs, Pt.cells, Pt.slots] at X4 l4 y4 z4 st4 hQ4
  subst l4 y4 z4
  obtain ⟨rfl, rfl, e4⟩ := hQ4
  try rw [List.append_nil] at X4
  have k4 : Go p e below (s₁.setTop (entryFrame m #[(.ref a1), (.int pn), (.int st), (.int j)] 7)) (T4.setTop (mkF m 36 #[.val (.ref a1), .val (.int pn), .val (.int st), .val (.int j), .val (.long (((((st.toInt64) - (1 : Int64)) + (j.toInt64)) - ((((st.toInt64) - (1 : Int64)) + (j.toInt64)) / (pn.toInt64)) * (pn.toInt64)) + (1 : Int64))), .second, .val (.int ((1 : Int32) + (j / pn)))] [(.int r)])) := fun t kk => k3 t (st4.trans kk)
  have hd2 : r = ((1 : Int32) + (j / pn)) := hc2
  have k5 : Go p e below (s₁.setTop (entryFrame m #[(.ref a1), (.int pn), (.int st), (.int j)] 7)) (T4.setTop (mkF m 46 #[.val (.ref a1), .val (.int pn), .val (.int st), .val (.int j), .val (.long (((((st.toInt64) - (1 : Int64)) + (j.toInt64)) - ((((st.toInt64) - (1 : Int64)) + (j.toInt64)) / (pn.toInt64)) * (pn.toInt64)) + (1 : Int64))), .second, .val (.int ((1 : Int32) + (j / pn)))] [(.int (1 : Int32))])) := fun t kk => k4 t (by
    show Steps p.tables e below (T4.setTop (mkF m 36 #[.val (.ref a1), .val (.int pn), .val (.int st), .val (.int j), .val (.long (((((st.toInt64) - (1 : Int64)) + (j.toInt64)) - ((((st.toInt64) - (1 : Int64)) + (j.toInt64)) / (pn.toInt64)) * (pn.toInt64)) + (1 : Int64))), .second, .val (.int ((1 : Int32) + (j / pn)))] [(.int r)])) _
    refine XS.iload X4.here hx rfl (hb hby dmethod_2_code_36) rfl ?_
    show Steps p.tables e below (T4.setTop (mkF m 38 #[.val (.ref a1), .val (.int pn), .val (.int st), .val (.int j), .val (.long (((((st.toInt64) - (1 : Int64)) + (j.toInt64)) - ((((st.toInt64) - (1 : Int64)) + (j.toInt64)) / (pn.toInt64)) * (pn.toInt64)) + (1 : Int64))), .second, .val (.int ((1 : Int32) + (j / pn)))] [(.int ((1 : Int32) + (j / pn))), (.int r)])) _
    refine XS.icmpNo X4.here hx rfl (hb hby dmethod_2_code_38) rfl (teq hd2).2 ?_
    show Steps p.tables e below (T4.setTop (mkF m 41 #[.val (.ref a1), .val (.int pn), .val (.int st), .val (.int j), .val (.long (((((st.toInt64) - (1 : Int64)) + (j.toInt64)) - ((((st.toInt64) - (1 : Int64)) + (j.toInt64)) / (pn.toInt64)) * (pn.toInt64)) + (1 : Int64))), .second, .val (.int ((1 : Int32) + (j / pn)))] [])) _
    refine XS.iconst X4.here hx rfl (hb hby dmethod_2_code_41) ?_
    show Steps p.tables e below (T4.setTop (mkF m 42 #[.val (.ref a1), .val (.int pn), .val (.int st), .val (.int j), .val (.long (((((st.toInt64) - (1 : Int64)) + (j.toInt64)) - ((((st.toInt64) - (1 : Int64)) + (j.toInt64)) / (pn.toInt64)) * (pn.toInt64)) + (1 : Int64))), .second, .val (.int ((1 : Int32) + (j / pn)))] [(.int (1 : Int32))])) _
    refine XS.goto X4.here hx rfl (pc0 := 42) (pc' := 46) rfl (hb hby dmethod_2_code_42) (by decide) (by decide) ?_
    exact kk)
  obtain ⟨fs, hr, hrun, hended, hW, hsame⟩ := X4.leave (v := some (.int (1 : Int32))) (fun h => by rw [Bd.returns] at h; cases h)
  refine ⟨_, _, k5 _ ?_, hrun, hended, _, _, rfl, ?_, ⟨_, rfl⟩, hW, hsame.mono (by decide) (by decide)⟩
  · show Steps p.tables e below (T4.setTop (mkF m 46 #[.val (.ref a1), .val (.int pn), .val (.int st), .val (.int j), .val (.long (((((st.toInt64) - (1 : Int64)) + (j.toInt64)) - ((((st.toInt64) - (1 : Int64)) + (j.toInt64)) / (pn.toInt64)) * (pn.toInt64)) + (1 : Int64))), .second, .val (.int ((1 : Int32) + (j / pn)))] [(.int (1 : Int32))])) _
    exact retN X4 hx (t := .boolean) Bd.returns (by simp) (hb hby dmethod_2_code_46) hr
  · show QK Z a1 pn st j cu r h0 n0 _ T4.heap _
    rw [e4]
    exact ⟨rfl, rfl, rfl⟩
theorem own_mask3 (x : Int32) : 0 ≤ (x &&& (3 : Int32)).toInt ∧ (x &&& (3 : Int32)).toInt ≤ 3 := by
  have h0 : (x &&& (3 : Int32)).toInt = x.toInt % (2 ^ 2 : Nat) := c_mask x 3 2 (by decide) (by decide)
  rw [h0]; omega
theorem own_pl (x : Int32) : 1 ≤ ((1 : Int32) + (x &&& (3 : Int32))).toInt := by
  have h0 := own_mask3 x
  have b := c_iadd 1 (x &&& 3)
  have e : (1 : Int32).toInt = 1 := rfl
  have r := rng32 (1 + (x &&& 3))
  omega
theorem own_st2 {n x : Int32} (h : 1 ≤ n.toInt) : 1 ≤ (own_max 1 (n - (x &&& 3))).toInt ∧ (own_max 1 (n - (x &&& 3))).toInt ≤ n.toInt := by
  have h0 := own_mask3 x
  have b := c_isub n (x &&& 3)
  have e : (1 : Int32).toInt = 1 := rfl
  have r := rng32 (n - (x &&& 3))
  have r2 := rng32 n
  unfold own_max
  split
  · rename_i q; rw [Int32.lt_iff_toInt_lt] at q; omega
  · rename_i q; rw [Int32.lt_iff_toInt_lt] at q; omega
/-- where the turn stands after k passes -/
def own_pos (n st k : Int) : Int := (st - 1 + k) % n + 1
def own_ok (n st k : Int) (c r : Int32) : Prop := c.toInt = own_pos n st k ∧ r.toInt = 1 + k / n
theorem own_pos_next {n st k : Int} (hn : 1 ≤ n) (h1 : 1 ≤ st) (h2 : st ≤ n) (h0 : 0 ≤ k) : 1 ≤ own_pos n st k ∧ own_pos n st k ≤ n ∧ own_pos n st (k + 1) = (if own_pos n st k = n then 1 else own_pos n st k + 1) ∧ (k + 1) / n = (if own_pos n st (k + 1) = st then k / n + 1 else k / n) := by
  unfold own_pos
  have p1 := Int.emod_nonneg (st - 1 + k) (show n ≠ 0 by omega)
  have p2 := Int.emod_lt_of_pos (st - 1 + k) (show 0 < n by omega)
  have q1 := Int.emod_nonneg k (show n ≠ 0 by omega)
  have q2 := Int.emod_lt_of_pos k (show 0 < n by omega)
  have d1 := Int.mul_ediv_add_emod k n
  have e0 : (st - 1 + k) % n = if st - 1 + k % n < n then st - 1 + k % n else st - 1 + k % n - n := by
    have : (st - 1 + k) % n = (st - 1 + k % n) % n := by rw [Int.add_comm (st - 1) k, Int.add_comm (st - 1) (k % n), Int.emod_add_emod]
    rw [this]
    split
    · exact Int.emod_eq_of_lt (by omega) (by omega)
    · rw [← Int.sub_emod_right]
      exact Int.emod_eq_of_lt (by omega) (by omega)
  have f0 : (k + 1) % n = if k % n + 1 = n then 0 else k % n + 1 := by
    rw [← Int.emod_add_emod]
    split
    · rename_i z; rw [z, Int.emod_self]
    · exact Int.emod_eq_of_lt (by omega) (by omega)
  have g0 : (k + 1) / n = if k % n + 1 = n then k / n + 1 else k / n := by
    have d2 : k + 1 = n * (k / n) + (k % n + 1) := by omega
    rw [d2, Int.mul_add_ediv_left _ _ (by omega)]
    split
    · rename_i z; rw [z, Int.ediv_self (by omega)]
    · rename_i z
      have y : (k % n + 1) / n = 0 := Int.ediv_eq_zero_of_lt (by omega) (by omega)
      rw [y, Int.add_zero]
  have e1 : (st - 1 + (k + 1)) % n = if st - 1 + (k + 1) % n < n then st - 1 + (k + 1) % n else st - 1 + (k + 1) % n - n := by
    have r1 := Int.emod_nonneg (k + 1) (show n ≠ 0 by omega)
    have r2 := Int.emod_lt_of_pos (k + 1) (show 0 < n by omega)
    have : (st - 1 + (k + 1)) % n = (st - 1 + (k + 1) % n) % n := by rw [Int.add_comm (st - 1) (k + 1), Int.add_comm (st - 1) ((k + 1) % n), Int.emod_add_emod]
    rw [this]
    split
    · exact Int.emod_eq_of_lt (by omega) (by omega)
    · rw [← Int.sub_emod_right]
      exact Int.emod_eq_of_lt (by omega) (by omega)
  rw [e1, g0, f0, e0]
  generalize k % n = u at *
  generalize k / n = w at *
  refine ⟨?_, ?_, ?_, ?_⟩
  · split <;> omega
  · split <;> omega
  · repeat' split
    all_goals omega
  · repeat' split
    all_goals omega
theorem own_step {n st c r : Int32} {k : Int} (hn : 1 ≤ n.toInt) (h1 : 1 ≤ st.toInt ∧ st.toInt ≤ n.toInt) (h0 : 0 ≤ k) (hk : k < 100) (h : own_ok n.toInt st.toInt k c r) : own_ok n.toInt st.toInt (k + 1) ((c % n) + 1) (own_rnd c n st r) := by
  obtain ⟨a1, a2⟩ := h
  obtain ⟨p1, p2, p3, p4⟩ := own_pos_next hn h1.1 h1.2 h0
  have e := own_next hn (by omega) (show c.toInt ≤ n.toInt by omega)
  have e2 : ((c % n) + 1).toInt = own_pos n.toInt st.toInt (k + 1) := by
    rw [e, p3, a1]
  refine ⟨e2, ?_⟩
  have kd : k / n.toInt ≤ k := Int.ediv_le_self _ h0
  have kd0 : 0 ≤ k / n.toInt := Int.ediv_nonneg h0 (by omega)
  unfold own_rnd own_last
  by_cases z : (c % n) + 1 = st
  · rw [if_pos z, if_neg (by decide)]
    have z2 : own_pos n.toInt st.toInt (k + 1) = st.toInt := by rw [← e2, z]
    rw [if_pos z2] at p4
    have b := c_iadd r 1
    have o : (1 : Int32).toInt = 1 := rfl
    have g := rng32 (r + 1)
    omega
  · rw [if_neg z, if_pos rfl]
    have z2 : ¬ own_pos n.toInt st.toInt (k + 1) = st.toInt := fun q => z (Int32.toInt_inj.mp (by rw [e2, q]))
    rw [if_neg z2] at p4
    omega
theorem own_ok0 {n st : Int32} (hn : 1 ≤ n.toInt) (h1 : 1 ≤ st.toInt ∧ st.toInt ≤ n.toInt) : own_ok n.toInt st.toInt 0 st 1 := by
  refine ⟨?_, ?_⟩
  · unfold own_pos; rw [Int.emod_eq_of_lt (by omega) (by omega)]; omega
  · rw [Int.zero_ediv]; rfl
theorem own_says {n st c r j : Int32} (hn : 1 ≤ n.toInt) (h1 : 1 ≤ st.toInt ∧ st.toInt ≤ n.toInt) (hj : 1 ≤ j.toInt ∧ j.toInt ≤ 3) (h : own_ok n.toInt st.toInt j.toInt c r) : c.toInt64 = own_cur n st j ∧ r = own_rd n j := by
  obtain ⟨a1, a2⟩ := h
  have o : (1 : Int32).toInt = 1 := rfl
  have oL : (1 : Int64).toInt = 1 := rfl
  have s1 := Int32.toInt_toInt64 st
  have s2 := Int32.toInt_toInt64 j
  have s3 := Int32.toInt_toInt64 n
  have r1 := rng32 n
  constructor
  · apply Int64.toInt_inj.mp
    rw [Int32.toInt_toInt64, a1]
    unfold own_cur own_pos
    have b1 := c_lsub st.toInt64 1
    have b2 := c_ladd (st.toInt64 - 1) j.toInt64
    have g1 := rng64 (st.toInt64 - 1)
    have g2 := rng64 (st.toInt64 - 1 + j.toInt64)
    have v : (st.toInt64 - 1 + j.toInt64).toInt = st.toInt - 1 + j.toInt := by omega
    have m := (c_lrem (st.toInt64 - 1 + j.toInt64) n.toInt64 n.toInt s3).1 (by omega)
    rw [v] at m
    generalize (st.toInt64 - 1 + j.toInt64) - (st.toInt64 - 1 + j.toInt64) / n.toInt64 * n.toInt64 = u at *
    have b3 := c_ladd u 1
    have g3 := rng64 (u + 1)
    have t1 := Int.emod_nonneg (st.toInt - 1 + j.toInt) (show n.toInt ≠ 0 by omega)
    have t2 := Int.emod_lt_of_pos (st.toInt - 1 + j.toInt) (show 0 < n.toInt by omega)
    generalize (st.toInt - 1 + j.toInt) % n.toInt = y at *
    omega
  · apply Int32.toInt_inj.mp
    unfold own_rd
    have q := (c_idiv j n n.toInt rfl (fun z => by rw [z] at hn; exact absurd hn (by decide))).1 (by omega)
    have b1 := c_iadd 1 (j / n)
    have g1 := rng32 (1 + j / n)
    have kd : j.toInt / n.toInt ≤ j.toInt := Int.ediv_le_self _ (by omega)
    have kd0 : 0 ≤ j.toInt / n.toInt := Int.ediv_nonneg (by omega) (by omega)
    rw [a2]
    generalize j.toInt / n.toInt = y at *
    omega
theorem pd_2 : parseMethodDescriptor "(II)I" = some ⟨[.int, .int], some .int⟩ := by decide +kernel
theorem pd_3 : parseMethodDescriptor "(II)V" = some ⟨[.int, .int], none⟩ := by decide +kernel
theorem pd_4 : parseMethodDescriptor "()V" = some ⟨[], none⟩ := by decide +kernel
theorem pd_5 : parseMethodDescriptor "(Lcom/example/tabularium/tabularium/engine/TurnOrder;III)Z" = some ⟨[(.object "com/example/tabularium/tabularium/engine/TurnOrder"), .int, .int, .int], some .boolean⟩ := by decide +kernel
theorem ef_rm0 (m : MethodId) (x0 : Int32) (x1 : Int32) (x2 : Int32) : entryFrame m #[(.int x0), (.int x1), (.int x2)] maxLocals = mkF m 0 #[.val (.int x0), .val (.int x1), .val (.int x2), .unset, .unset, .unset, .unset] [] := by first | (simp [entryFrame, mkF, argsToLocals, Value.category, maxLocals]; done) | rfl
def Q0 (Z : State) (p1 : Int32) (p2 : Int32) (p3 : Int32) (h0 : Heap) (n0 : Nat) (v : Option Value) (h : Heap) (L : List Loc) : Prop := v = some (.int 1) ∧ Fr n0 L
set_option maxRecDepth 65536 in
set_option maxHeartbeats 40000000 in
theorem rm0 (l : Launch) (Z : State) (a0 : Array Value) (hw : ∀ d ∈ tables_1, d.before a0 Z = true) (ws : List Jvm.Cond) (p1 : Int32) (p2 : Int32) (p3 : Int32) (h0 : Heap) (n0 : Nat) (Z0 : n0 ≤ h0.size) :
    MetFree l x (head1 (Jvm.Cond.code x code maxLocals ret :: ws) room_1) (fun a U => a = #[(.int p1), (.int p2), (.int p3)] ∧ Z.Warmed39 U.vm ∧ U.heap = h0) (fun _ _ _ _ _ => True) (fun _ U o U' => ∃ v L, o = .returned v ∧ Q0 Z p1 p2 p3 h0 n0 v U'.heap L ∧ FrameEnd U o U' L room_1.cells room_1.slots) := by
  refine MetFree.of_bodySF (plainFor_of_name pn_1) hisR ?_
  intro p e s m args below meth c s₁ Bd hml0 hP hK
  obtain ⟨rfl, hZ, hh⟩ := hP
  have hx := Bd.exec
  have hby := Bd.bytes
  have hml : c.maxLocals = 7 := hml0
  have hown : s.vm.findClass "com/example/tabularium/tabularium/engine/TurnOrderPassPinLaw" = some m.cls := findClass_of_methodNamed Bd.named
  have hnm := (name_of_methodNamed Bd.named Bd.method).1
  have X0 : Stand p l e room_1 s m #[(.int p1), (.int p2), (.int p3)] below meth c s₁ [] 0 0 := Stand.of_body Bd
  have e0 : s₁.heap = h0 := by rw [← hh, Bd.state]; rfl
  have N0 := Fr.nil n0
  have k0 : Go p e below (s₁.setTop (entryFrame m #[(.int p1), (.int p2), (.int p3)] maxLocals)) (s₁.setTop (mkF m 0 #[.val (.int p1), .val (.int p2), .val (.int p3), .unset, .unset, .unset, .unset] [])) := fun t k => castTop (ef_rm0 m p1 p2 p3) k
  obtain ⟨T1, X1, e1, vn, hj1, k1⟩ : ∃ T' : State, Stand p l e room_1 s m #[(.int p1), (.int p2), (.int p3)] below meth c T' [] 0 0 ∧ T'.heap = h0 ∧ ∃ vn : Int32, (1 ≤ vn.toInt) ∧ Go p e below (s₁.setTop (entryFrame m #[(.int p1), (.int p2), (.int p3)] maxLocals)) (T'.setTop (mkF m 24 #[.val (.int p1), .val (.int p2), .val (.int p3), .val (.int vn), .unset, .unset, .unset] [])) := by
    have k3 : Go p e below (s₁.setTop (entryFrame m #[(.int p1), (.int p2), (.int p3)] maxLocals)) (s₁.setTop (mkF m 3 #[.val (.int p1), .val (.int p2), .val (.int p3), .unset, .unset, .unset, .unset] [(.int (p3 &&& (1 : Int32)))])) := fun t kk => k0 t (by
      show Steps p.tables e below (s₁.setTop (mkF m 0 #[.val (.int p1), .val (.int p2), .val (.int p3), .unset, .unset, .unset, .unset] [])) _
      refine XS.iloadN X0.here hx rfl (hb hby at_0) rfl ?_
      show Steps p.tables e below (s₁.setTop (mkF m 1 #[.val (.int p1), .val (.int p2), .val (.int p3), .unset, .unset, .unset, .unset] [(.int p3)])) _
      refine XS.iconst X0.here hx rfl (hb hby at_1) ?_
      show Steps p.tables e below (s₁.setTop (mkF m 2 #[.val (.int p1), .val (.int p2), .val (.int p3), .unset, .unset, .unset, .unset] [(.int (1 : Int32)), (.int p3)])) _
      refine XS.iand X0.here hx rfl (hb hby at_2) rfl ?_
      exact kk)
    by_cases hc3_2 : (p3 &&& (1 : Int32)) = (0 : Int32)
    · have k4 : Go p e below (s₁.setTop (entryFrame m #[(.int p1), (.int p2), (.int p3)] maxLocals)) (s₁.setTop (mkF m 20 #[.val (.int p1), .val (.int p2), .val (.int p3), .unset, .unset, .unset, .unset] [(.int (p1 &&& (2147483647 : Int32))), (.int (1 : Int32))])) := fun t kk => k3 t (by
        show Steps p.tables e below (s₁.setTop (mkF m 3 #[.val (.int p1), .val (.int p2), .val (.int p3), .unset, .unset, .unset, .unset] [(.int (p3 &&& (1 : Int32)))])) _
        refine XS.ifYes X0.here hx rfl (pc0 := 3) (pc' := 15) rfl (hb hby at_3) rfl ((if0 _ _).trans (teq hc3_2).1) (by decide) (by decide) ?_
        show Steps p.tables e below (s₁.setTop (mkF m 15 #[.val (.int p1), .val (.int p2), .val (.int p3), .unset, .unset, .unset, .unset] [])) _
        refine XS.iconst X0.here hx rfl (hb hby at_15) ?_
        show Steps p.tables e below (s₁.setTop (mkF m 16 #[.val (.int p1), .val (.int p2), .val (.int p3), .unset, .unset, .unset, .unset] [(.int (1 : Int32))])) _
        refine XS.iloadN X0.here hx rfl (hb hby at_16) rfl ?_
        show Steps p.tables e below (s₁.setTop (mkF m 17 #[.val (.int p1), .val (.int p2), .val (.int p3), .unset, .unset, .unset, .unset] [(.int p1), (.int (1 : Int32))])) _
        refine X0.ldcInt hx hown (mvT hZ (hw _ (List.mem_of_getElem? (i := 0) rfl))) (g := (mkF m 17 #[.val (.int p1), .val (.int p2), .val (.int p3), .unset, .unset, .unset, .unset] [(.int p1), (.int (1 : Int32))])) rfl (hb hby at_17) _ ?_
        show Steps p.tables e below (s₁.setTop (mkF m 19 #[.val (.int p1), .val (.int p2), .val (.int p3), .unset, .unset, .unset, .unset] [(.int (2147483647 : Int32)), (.int p1), (.int (1 : Int32))])) _
        refine XS.iand X0.here hx rfl (hb hby at_19) rfl ?_
        exact kk)
      obtain ⟨_, _, ⟨T5, L5, kx5, nx5⟩, -, X5, ⟨Lc5, hQ5, l5, y5, z5⟩, st5⟩ := Jvm.LawKit.callS X0 hx (y := (⟨"java/lang/Math", "max", "(II)I"⟩ : MethodName)) hown (mvT hZ (hw _ (List.mem_of_getElem? (i := 1) rfl))) (mvT hZ (hw _ (List.mem_of_getElem? (i := 2) rfl))) (mvT hZ (hw _ (List.mem_of_getElem? (i := 3) rfl))) (mvT hZ (hw _ (List.mem_of_getElem? (i := 4) rfl))) (by decide) (backOf (W := 0) (rmM l Z a0 hw [] (1 : Int32) (p1 &&& (2147483647 : Int32)) h0 n0 Z0 ) hZ (hw _ (List.mem_of_getElem? (i := 4) rfl)) (hw _ (List.mem_of_getElem? (i := 3) rfl)) (by decide) (by decide)) (g := (mkF m 20 #[.val (.int p1), .val (.int p2), .val (.int p3), .unset, .unset, .unset, .unset] [(.int (p1 &&& (2147483647 : Int32))), (.int (1 : Int32))])) rfl (by rw [hml]; rfl) (argsL := [(.int (1 : Int32)), (.int (p1 &&& (2147483647 : Int32)))]) (rest := []) (lenOf pd_2 rfl) rfl (by show 2 * 0 + _ ≤ _; exact Nat.le_of_eq rfl) (hb hby at_20) (fun _ _ => ⟨rfl, e0, (by decide : 0 + 0 ≤ _), (by decide : 0 + 0 ≤ _)⟩)
      dsimp only [Pt.U, Pt.locs, Pt.cells, Pt.slots] at X5 l5 y5 z5 st5 hQ5
      subst l5 y5 z5
      obtain ⟨rfl, rfl, e5⟩ := hQ5
      try rw [List.append_nil] at X5
      have k5 : Go p e below (s₁.setTop (entryFrame m #[(.int p1), (.int p2), (.int p3)] maxLocals)) (T5.setTop (mkF m 23 #[.val (.int p1), .val (.int p2), .val (.int p3), .unset, .unset, .unset, .unset] [(.int (own_max (1 : Int32) (p1 &&& (2147483647 : Int32))))])) := fun t kk => k4 t (st5 t kk)
      have k6 : Go p e below (s₁.setTop (entryFrame m #[(.int p1), (.int p2), (.int p3)] maxLocals)) (T5.setTop (mkF m 24 #[.val (.int p1), .val (.int p2), .val (.int p3), .val (.int (own_max (1 : Int32) (p1 &&& (2147483647 : Int32)))), .unset, .unset, .unset] [])) := fun t kk => k5 t (by
        show Steps p.tables e below (T5.setTop (mkF m 23 #[.val (.int p1), .val (.int p2), .val (.int p3), .unset, .unset, .unset, .unset] [(.int (own_max (1 : Int32) (p1 &&& (2147483647 : Int32))))])) _
        refine XS.istoreN X5.here hx rfl (hb hby at_23) rfl (l' := #[.val (.int p1), .val (.int p2), .val (.int p3), .val (.int (own_max (1 : Int32) (p1 &&& (2147483647 : Int32)))), .unset, .unset, .unset]) rfl ?_
        exact kk)
      exact ⟨T5, X5, e5, (own_max (1 : Int32) (p1 &&& (2147483647 : Int32))), own_max1 (own_maskI p1).1, k6⟩
    · have k7 : Go p e below (s₁.setTop (entryFrame m #[(.int p1), (.int p2), (.int p3)] maxLocals)) (s₁.setTop (mkF m 24 #[.val (.int p1), .val (.int p2), .val (.int p3), .val (.int ((1 : Int32) + (p1 &&& (3 : Int32)))), .unset, .unset, .unset] [])) := fun t kk => k3 t (by
        show Steps p.tables e below (s₁.setTop (mkF m 3 #[.val (.int p1), .val (.int p2), .val (.int p3), .unset, .unset, .unset, .unset] [(.int (p3 &&& (1 : Int32)))])) _
        refine XS.ifNo X0.here hx rfl (hb hby at_3) rfl ((if0 _ _).trans (feq hc3_2).1) ?_
        show Steps p.tables e below (s₁.setTop (mkF m 6 #[.val (.int p1), .val (.int p2), .val (.int p3), .unset, .unset, .unset, .unset] [])) _
        refine XS.iconst X0.here hx rfl (hb hby at_6) ?_
        show Steps p.tables e below (s₁.setTop (mkF m 7 #[.val (.int p1), .val (.int p2), .val (.int p3), .unset, .unset, .unset, .unset] [(.int (1 : Int32))])) _
        refine XS.iloadN X0.here hx rfl (hb hby at_7) rfl ?_
        show Steps p.tables e below (s₁.setTop (mkF m 8 #[.val (.int p1), .val (.int p2), .val (.int p3), .unset, .unset, .unset, .unset] [(.int p1), (.int (1 : Int32))])) _
        refine XS.iconst X0.here hx rfl (hb hby at_8) ?_
        show Steps p.tables e below (s₁.setTop (mkF m 9 #[.val (.int p1), .val (.int p2), .val (.int p3), .unset, .unset, .unset, .unset] [(.int (3 : Int32)), (.int p1), (.int (1 : Int32))])) _
        refine XS.iand X0.here hx rfl (hb hby at_9) rfl ?_
        show Steps p.tables e below (s₁.setTop (mkF m 10 #[.val (.int p1), .val (.int p2), .val (.int p3), .unset, .unset, .unset, .unset] [(.int (p1 &&& (3 : Int32))), (.int (1 : Int32))])) _
        refine XS.iadd X0.here hx rfl (hb hby at_10) rfl ?_
        show Steps p.tables e below (s₁.setTop (mkF m 11 #[.val (.int p1), .val (.int p2), .val (.int p3), .unset, .unset, .unset, .unset] [(.int ((1 : Int32) + (p1 &&& (3 : Int32))))])) _
        refine XS.istoreN X0.here hx rfl (hb hby at_11) rfl (l' := #[.val (.int p1), .val (.int p2), .val (.int p3), .val (.int ((1 : Int32) + (p1 &&& (3 : Int32)))), .unset, .unset, .unset]) rfl ?_
        show Steps p.tables e below (s₁.setTop (mkF m 12 #[.val (.int p1), .val (.int p2), .val (.int p3), .val (.int ((1 : Int32) + (p1 &&& (3 : Int32)))), .unset, .unset, .unset] [])) _
        refine XS.goto X0.here hx rfl (pc0 := 12) (pc' := 24) rfl (hb hby at_12) (by decide) (by decide) ?_
        exact kk)
      exact ⟨s₁, X0, e0, ((1 : Int32) + (p1 &&& (3 : Int32))), own_pl p1, k7⟩
  have b1 := hj1
  have hz0 := own_nz b1
  have hzl : vn.toInt64 ≠ 0 := fun q => by
    have z := congrArg Int64.toInt q
    rw [Int32.toInt_toInt64] at z
    rw [z] at b1
    exact absurd b1 (by decide)
  obtain ⟨T8, X8, e8, vs, hj8, k8⟩ : ∃ T' : State, Stand p l e room_1 s m #[(.int p1), (.int p2), (.int p3)] below meth c T' [] 0 0 ∧ T'.heap = h0 ∧ ∃ vs : Int32, (1 ≤ vs.toInt ∧ vs.toInt ≤ vn.toInt) ∧ Go p e below (s₁.setTop (entryFrame m #[(.int p1), (.int p2), (.int p3)] maxLocals)) (T'.setTop (mkF m 54 #[.val (.int p1), .val (.int p2), .val (.int p3), .val (.int vn), .val (.int vs), .unset, .unset] [])) := by
    have k10 : Go p e below (s₁.setTop (entryFrame m #[(.int p1), (.int p2), (.int p3)] maxLocals)) (T1.setTop (mkF m 27 #[.val (.int p1), .val (.int p2), .val (.int p3), .val (.int vn), .unset, .unset, .unset] [(.int (p3 &&& (2 : Int32)))])) := fun t kk => k1 t (by
      show Steps p.tables e below (T1.setTop (mkF m 24 #[.val (.int p1), .val (.int p2), .val (.int p3), .val (.int vn), .unset, .unset, .unset] [])) _
      refine XS.iloadN X1.here hx rfl (hb hby at_24) rfl ?_
      show Steps p.tables e below (T1.setTop (mkF m 25 #[.val (.int p1), .val (.int p2), .val (.int p3), .val (.int vn), .unset, .unset, .unset] [(.int p3)])) _
      refine XS.iconst X1.here hx rfl (hb hby at_25) ?_
      show Steps p.tables e below (T1.setTop (mkF m 26 #[.val (.int p1), .val (.int p2), .val (.int p3), .val (.int vn), .unset, .unset, .unset] [(.int (2 : Int32)), (.int p3)])) _
      refine XS.iand X1.here hx rfl (hb hby at_26) rfl ?_
      exact kk)
    by_cases hc27_9 : (p3 &&& (2 : Int32)) = (0 : Int32)
    · have k11 : Go p e below (s₁.setTop (entryFrame m #[(.int p1), (.int p2), (.int p3)] maxLocals)) (T1.setTop (mkF m 54 #[.val (.int p1), .val (.int p2), .val (.int p3), .val (.int vn), .val (.int ((1 : Int32) + ((p2 &&& (2147483647 : Int32)) % vn))), .unset, .unset] [])) := fun t kk => k10 t (by
        show Steps p.tables e below (T1.setTop (mkF m 27 #[.val (.int p1), .val (.int p2), .val (.int p3), .val (.int vn), .unset, .unset, .unset] [(.int (p3 &&& (2 : Int32)))])) _
        refine XS.ifYes X1.here hx rfl (pc0 := 27) (pc' := 44) rfl (hb hby at_27) rfl ((if0 _ _).trans (teq hc27_9).1) (by decide) (by decide) ?_
        show Steps p.tables e below (T1.setTop (mkF m 44 #[.val (.int p1), .val (.int p2), .val (.int p3), .val (.int vn), .unset, .unset, .unset] [])) _
        refine XS.iconst X1.here hx rfl (hb hby at_44) ?_
        show Steps p.tables e below (T1.setTop (mkF m 45 #[.val (.int p1), .val (.int p2), .val (.int p3), .val (.int vn), .unset, .unset, .unset] [(.int (1 : Int32))])) _
        refine XS.iloadN X1.here hx rfl (hb hby at_45) rfl ?_
        show Steps p.tables e below (T1.setTop (mkF m 46 #[.val (.int p1), .val (.int p2), .val (.int p3), .val (.int vn), .unset, .unset, .unset] [(.int p2), (.int (1 : Int32))])) _
        refine X1.ldcInt hx hown (mvT hZ (hw _ (List.mem_of_getElem? (i := 0) rfl))) (g := (mkF m 46 #[.val (.int p1), .val (.int p2), .val (.int p3), .val (.int vn), .unset, .unset, .unset] [(.int p2), (.int (1 : Int32))])) rfl (hb hby at_46) _ ?_
        show Steps p.tables e below (T1.setTop (mkF m 48 #[.val (.int p1), .val (.int p2), .val (.int p3), .val (.int vn), .unset, .unset, .unset] [(.int (2147483647 : Int32)), (.int p2), (.int (1 : Int32))])) _
        refine XS.iand X1.here hx rfl (hb hby at_48) rfl ?_
        show Steps p.tables e below (T1.setTop (mkF m 49 #[.val (.int p1), .val (.int p2), .val (.int p3), .val (.int vn), .unset, .unset, .unset] [(.int (p2 &&& (2147483647 : Int32))), (.int (1 : Int32))])) _
        refine XS.iloadN X1.here hx rfl (hb hby at_49) rfl ?_
        show Steps p.tables e below (T1.setTop (mkF m 50 #[.val (.int p1), .val (.int p2), .val (.int p3), .val (.int vn), .unset, .unset, .unset] [(.int vn), (.int (p2 &&& (2147483647 : Int32))), (.int (1 : Int32))])) _
        refine iremM X1 hx rfl (hb hby at_50) rfl hz0 ?_
        show Steps p.tables e below (T1.setTop (mkF m 51 #[.val (.int p1), .val (.int p2), .val (.int p3), .val (.int vn), .unset, .unset, .unset] [(.int ((p2 &&& (2147483647 : Int32)) % vn)), (.int (1 : Int32))])) _
        refine XS.iadd X1.here hx rfl (hb hby at_51) rfl ?_
        show Steps p.tables e below (T1.setTop (mkF m 52 #[.val (.int p1), .val (.int p2), .val (.int p3), .val (.int vn), .unset, .unset, .unset] [(.int ((1 : Int32) + ((p2 &&& (2147483647 : Int32)) % vn)))])) _
        refine XS.istore X1.here hx rfl (hb hby at_52) rfl (l' := #[.val (.int p1), .val (.int p2), .val (.int p3), .val (.int vn), .val (.int ((1 : Int32) + ((p2 &&& (2147483647 : Int32)) % vn))), .unset, .unset]) rfl ?_
        exact kk)
      exact ⟨T1, X1, e1, ((1 : Int32) + ((p2 &&& (2147483647 : Int32)) % vn)), own_start b1 (own_maskI p2).1, k11⟩
    · have k12 : Go p e below (s₁.setTop (entryFrame m #[(.int p1), (.int p2), (.int p3)] maxLocals)) (T1.setTop (mkF m 36 #[.val (.int p1), .val (.int p2), .val (.int p3), .val (.int vn), .unset, .unset, .unset] [(.int (vn - (p2 &&& (3 : Int32)))), (.int (1 : Int32))])) := fun t kk => k10 t (by
        show Steps p.tables e below (T1.setTop (mkF m 27 #[.val (.int p1), .val (.int p2), .val (.int p3), .val (.int vn), .unset, .unset, .unset] [(.int (p3 &&& (2 : Int32)))])) _
        refine XS.ifNo X1.here hx rfl (hb hby at_27) rfl ((if0 _ _).trans (feq hc27_9).1) ?_
        show Steps p.tables e below (T1.setTop (mkF m 30 #[.val (.int p1), .val (.int p2), .val (.int p3), .val (.int vn), .unset, .unset, .unset] [])) _
        refine XS.iconst X1.here hx rfl (hb hby at_30) ?_
        show Steps p.tables e below (T1.setTop (mkF m 31 #[.val (.int p1), .val (.int p2), .val (.int p3), .val (.int vn), .unset, .unset, .unset] [(.int (1 : Int32))])) _
        refine XS.iloadN X1.here hx rfl (hb hby at_31) rfl ?_
        show Steps p.tables e below (T1.setTop (mkF m 32 #[.val (.int p1), .val (.int p2), .val (.int p3), .val (.int vn), .unset, .unset, .unset] [(.int vn), (.int (1 : Int32))])) _
        refine XS.iloadN X1.here hx rfl (hb hby at_32) rfl ?_
        show Steps p.tables e below (T1.setTop (mkF m 33 #[.val (.int p1), .val (.int p2), .val (.int p3), .val (.int vn), .unset, .unset, .unset] [(.int p2), (.int vn), (.int (1 : Int32))])) _
        refine XS.iconst X1.here hx rfl (hb hby at_33) ?_
        show Steps p.tables e below (T1.setTop (mkF m 34 #[.val (.int p1), .val (.int p2), .val (.int p3), .val (.int vn), .unset, .unset, .unset] [(.int (3 : Int32)), (.int p2), (.int vn), (.int (1 : Int32))])) _
        refine XS.iand X1.here hx rfl (hb hby at_34) rfl ?_
        show Steps p.tables e below (T1.setTop (mkF m 35 #[.val (.int p1), .val (.int p2), .val (.int p3), .val (.int vn), .unset, .unset, .unset] [(.int (p2 &&& (3 : Int32))), (.int vn), (.int (1 : Int32))])) _
        refine XS.isub X1.here hx rfl (hb hby at_35) rfl ?_
        exact kk)
      obtain ⟨_, _, ⟨T13, L13, kx13, nx13⟩, -, X13, ⟨Lc13, hQ13, l13, y13, z13⟩, st13⟩ := Jvm.LawKit.callS X1 hx (y := (⟨"java/lang/Math", "max", "(II)I"⟩ : MethodName)) hown (mvT hZ (hw _ (List.mem_of_getElem? (i := 1) rfl))) (mvT hZ (hw _ (List.mem_of_getElem? (i := 2) rfl))) (mvT hZ (hw _ (List.mem_of_getElem? (i := 3) rfl))) (mvT hZ (hw _ (List.mem_of_getElem? (i := 4) rfl))) (by decide) (backOf (W := 0) (rmM l Z a0 hw [] (1 : Int32) (vn - (p2 &&& (3 : Int32))) h0 n0 Z0 ) hZ (hw _ (List.mem_of_getElem? (i := 4) rfl)) (hw _ (List.mem_of_getElem? (i := 3) rfl)) (by decide) (by decide)) (g := (mkF m 36 #[.val (.int p1), .val (.int p2), .val (.int p3), .val (.int vn), .unset, .unset, .unset] [(.int (vn - (p2 &&& (3 : Int32)))), (.int (1 : Int32))])) rfl (by rw [hml]; rfl) (argsL := [(.int (1 : Int32)), (.int (vn - (p2 &&& (3 : Int32))))]) (rest := []) (lenOf pd_2 rfl) rfl (by show 2 * 0 + _ ≤ _; exact Nat.le_of_eq rfl) (hb hby at_36) (fun _ _ => ⟨rfl, e1, (by decide : 0 + 0 ≤ _), (by decide : 0 + 0 ≤ _)⟩)
      dsimp only [Pt.U, Pt.locs, Pt.cells, Pt.slots] at X13 l13 y13 z13 st13 hQ13
      subst l13 y13 z13
      obtain ⟨rfl, rfl, e13⟩ := hQ13
      try rw [List.append_nil] at X13
      have k13 : Go p e below (s₁.setTop (entryFrame m #[(.int p1), (.int p2), (.int p3)] maxLocals)) (T13.setTop (mkF m 39 #[.val (.int p1), .val (.int p2), .val (.int p3), .val (.int vn), .unset, .unset, .unset] [(.int (own_max (1 : Int32) (vn - (p2 &&& (3 : Int32)))))])) := fun t kk => k12 t (st13 t kk)
      have k14 : Go p e below (s₁.setTop (entryFrame m #[(.int p1), (.int p2), (.int p3)] maxLocals)) (T13.setTop (mkF m 54 #[.val (.int p1), .val (.int p2), .val (.int p3), .val (.int vn), .val (.int (own_max (1 : Int32) (vn - (p2 &&& (3 : Int32))))), .unset, .unset] [])) := fun t kk => k13 t (by
        show Steps p.tables e below (T13.setTop (mkF m 39 #[.val (.int p1), .val (.int p2), .val (.int p3), .val (.int vn), .unset, .unset, .unset] [(.int (own_max (1 : Int32) (vn - (p2 &&& (3 : Int32)))))])) _
        refine XS.istore X13.here hx rfl (hb hby at_39) rfl (l' := #[.val (.int p1), .val (.int p2), .val (.int p3), .val (.int vn), .val (.int (own_max (1 : Int32) (vn - (p2 &&& (3 : Int32))))), .unset, .unset]) rfl ?_
        show Steps p.tables e below (T13.setTop (mkF m 41 #[.val (.int p1), .val (.int p2), .val (.int p3), .val (.int vn), .val (.int (own_max (1 : Int32) (vn - (p2 &&& (3 : Int32))))), .unset, .unset] [])) _
        refine XS.goto X13.here hx rfl (pc0 := 41) (pc' := 54) rfl (hb hby at_41) (by decide) (by decide) ?_
        exact kk)
      exact ⟨T13, X13, e13, (own_max (1 : Int32) (vn - (p2 &&& (3 : Int32)))), own_st2 b1, k14⟩
  have b2 := hj8
  have hi1 : ¬ (vs < (1 : Int32)) := own_lt (by exact b2.1)
  have hi2 : ¬ (vn < vs) := own_lt b2.2
  have k_0 := own_ok0 b1 b2
  have k_1 := own_step b1 b2 (by decide) (by decide) k_0
  have k_2 := own_step b1 b2 (by decide) (by decide) k_1
  have k_3 := own_step b1 b2 (by decide) (by decide) k_2
  obtain ⟨hA1, hB1⟩ := own_says (j := 1) b1 b2 (by decide) k_1
  obtain ⟨hA2, hB2⟩ := own_says (j := 2) b1 b2 (by decide) k_2
  obtain ⟨hA3, hB3⟩ := own_says (j := 3) b1 b2 (by decide) k_3
  obtain ⟨T15, h15, X15, e15, E15, A15, D15, -, st15⟩ := newO X8 hx hZ hown (hw _ (List.mem_of_getElem? (i := 5) rfl)) (hw _ (List.mem_of_getElem? (i := 6) rfl)) (hw _ (List.mem_of_getElem? (i := 7) rfl)) e8 (g := (mkF m 54 #[.val (.int p1), .val (.int p2), .val (.int p3), .val (.int vn), .val (.int vs), .unset, .unset] [])) rfl (hb hby at_54) (by decide) (by decide)
  obtain ⟨b15, g15⟩ : ∃ z, z = (h0).size := ⟨_, rfl⟩
  rw [← g15] at A15 D15 st15
  have sz_b15 : h0.size ≤ b15 := Nat.le_trans (Keep.refl h0 []).1 (Nat.le_of_eq g15.symm)
  have ge_b15 : n0 ≤ b15 := Nat.le_trans Z0 (Nat.le_of_eq g15.symm)
  have K15 := ((Keep.refl h0 [])).ext E15
  have Zs15 : n0 ≤ h15.size := Nat.le_trans Z0 E15.1
  have F15_round : Fld Z h15 b15 "com/example/tabularium/tabularium/engine/TurnOrder" "round" "I" (.int (0 : Int32)) := D15 (Or.inl (hw _ (List.mem_of_getElem? (i := 15) rfl))) (ty := .int) (by decide)
  have F15_players : Fld Z h15 b15 "com/example/tabularium/tabularium/engine/TurnOrder" "players" "I" (.int (0 : Int32)) := D15 (Or.inr (hw _ (List.mem_of_getElem? (i := 17) rfl))) (ty := .int) (by decide)
  have F15_start : Fld Z h15 b15 "com/example/tabularium/tabularium/engine/TurnOrder" "start" "I" (.int (0 : Int32)) := D15 (Or.inr (hw _ (List.mem_of_getElem? (i := 19) rfl))) (ty := .int) (by decide)
  have F15_current : Fld Z h15 b15 "com/example/tabularium/tabularium/engine/TurnOrder" "current" "I" (.int (0 : Int32)) := D15 (Or.inl (hw _ (List.mem_of_getElem? (i := 21) rfl))) (ty := .int) (by decide)
  have k15 : Go p e below (s₁.setTop (entryFrame m #[(.int p1), (.int p2), (.int p3)] maxLocals)) (T15.setTop (mkF m 57 #[.val (.int p1), .val (.int p2), .val (.int p3), .val (.int vn), .val (.int vs), .unset, .unset] [(.ref b15)])) := fun t kk => k8 t (st15 t kk)
  have k16 : Go p e below (s₁.setTop (entryFrame m #[(.int p1), (.int p2), (.int p3)] maxLocals)) (T15.setTop (mkF m 61 #[.val (.int p1), .val (.int p2), .val (.int p3), .val (.int vn), .val (.int vs), .unset, .unset] [(.int vs), (.int vn), (.ref b15), (.ref b15)])) := fun t kk => k15 t (by
    show Steps p.tables e below (T15.setTop (mkF m 57 #[.val (.int p1), .val (.int p2), .val (.int p3), .val (.int vn), .val (.int vs), .unset, .unset] [(.ref b15)])) _
    refine XS.dup X15.here hx rfl (hb hby at_57) rfl rfl ?_
    show Steps p.tables e below (T15.setTop (mkF m 58 #[.val (.int p1), .val (.int p2), .val (.int p3), .val (.int vn), .val (.int vs), .unset, .unset] [(.ref b15), (.ref b15)])) _
    refine XS.iloadN X15.here hx rfl (hb hby at_58) rfl ?_
    show Steps p.tables e below (T15.setTop (mkF m 59 #[.val (.int p1), .val (.int p2), .val (.int p3), .val (.int vn), .val (.int vs), .unset, .unset] [(.int vn), (.ref b15), (.ref b15)])) _
    refine XS.iload X15.here hx rfl (hb hby at_59) rfl ?_
    exact kk)
  obtain ⟨_, _, ⟨T17, L17, kx17, nx17⟩, -, X17, ⟨Lc17, hQ17, l17, y17, z17⟩, st17⟩ := X15.specialBack hx (y := (⟨"com/example/tabularium/tabularium/engine/TurnOrder", "<init>", "(II)V"⟩ : MethodName)) rfl hown (mvT hZ (hw _ (List.mem_of_getElem? (i := 8) rfl))) (mvT hZ (hw _ (List.mem_of_getElem? (i := 9) rfl))) (mvT hZ (hw _ (List.mem_of_getElem? (i := 10) rfl))) (by decide) (backOf (W := 1) (rmN l Z a0 hw [] b15 vn vs h15 n0 Zs15 F15_round F15_players F15_start F15_current A15 ge_b15 hi1 hi2) hZ (hw _ (List.mem_of_getElem? (i := 10) rfl)) (hw _ (List.mem_of_getElem? (i := 7) rfl)) (by decide) (by decide)) (g := (mkF m 61 #[.val (.int p1), .val (.int p2), .val (.int p3), .val (.int vn), .val (.int vs), .unset, .unset] [(.int vs), (.int vn), (.ref b15), (.ref b15)])) rfl (by rw [hml]; rfl) (Steps.refl _) (a := b15) (argsL := [(.int vn), (.int vs)]) (rest := [(.ref b15)]) (lenOf pd_3 rfl) rfl (by show 2 * 0 + _ ≤ _; exact Nat.le_of_eq rfl) (hb hby at_61) (fun _ _ => ⟨rfl, e15, (by decide : 1 + 0 ≤ _), (by decide : 4 + 0 ≤ _)⟩)
  dsimp only [Pt.U, Pt.locs, Pt.cells, Pt.slots] at X17 l17 y17 z17 st17 hQ17
  subst l17 y17 z17
  obtain ⟨rfl, N17q, K17q, c17_0, c17_1, c17_2, c17_3⟩ := hQ17
  have N17 := Fr.app N0 N17q
  have f18 := A15.keep K17q
  have K17 := (K15).trans K17q (allS (Or.inr sz_b15) all0)
  have Zs17 : n0 ≤ T17.heap.size := Nat.le_trans Zs15 K17q.1
  have k17 : Go p e below (s₁.setTop (entryFrame m #[(.int p1), (.int p2), (.int p3)] maxLocals)) (T17.setTop (mkF m 64 #[.val (.int p1), .val (.int p2), .val (.int p3), .val (.int vn), .val (.int vs), .unset, .unset] [(.ref b15)])) := fun t kk => k16 t (st17.trans kk)
  have k19 : Go p e below (s₁.setTop (entryFrame m #[(.int p1), (.int p2), (.int p3)] maxLocals)) (T17.setTop (mkF m 68 #[.val (.int p1), .val (.int p2), .val (.int p3), .val (.int vn), .val (.int vs), .val (.ref b15), .unset] [(.ref b15)])) := fun t kk => k17 t (by
    show Steps p.tables e below (T17.setTop (mkF m 64 #[.val (.int p1), .val (.int p2), .val (.int p3), .val (.int vn), .val (.int vs), .unset, .unset] [(.ref b15)])) _
    refine XS.astore X17.here hx rfl (hb hby at_64) rfl rfl (l' := #[.val (.int p1), .val (.int p2), .val (.int p3), .val (.int vn), .val (.int vs), .val (.ref b15), .unset]) rfl ?_
    show Steps p.tables e below (T17.setTop (mkF m 66 #[.val (.int p1), .val (.int p2), .val (.int p3), .val (.int vn), .val (.int vs), .val (.ref b15), .unset] [])) _
    refine XS.aload X17.here hx rfl (hb hby at_66) rfl rfl ?_
    exact kk)
  obtain ⟨cq20, kq20, q20a, q20b, q20c⟩ := isOf hZ rfl f18
  obtain ⟨_, _, ⟨T20, L20, kx20, nx20⟩, -, X20, ⟨Lc20, hQ20, l20, y20, z20⟩, st20⟩ := X17.virtualBack hx (y := (⟨"com/example/tabularium/tabularium/engine/TurnOrder", "pass", "()V"⟩ : MethodName)) (z := (⟨"com/example/tabularium/tabularium/engine/TurnOrder", "pass", "()V"⟩ : MethodName)) hown (mvT hZ (hw _ (List.mem_of_getElem? (i := 22) rfl))) (mvT hZ (hw _ (List.mem_of_getElem? (i := 23) rfl))) (notFace_of_selects (args := #[]) (mvT hZ (hw _ (List.mem_of_getElem? (i := 25) rfl)))) (mvT hZ (hw _ (List.mem_of_getElem? (i := 25) rfl))) (mvT hZ (hw _ (List.mem_of_getElem? (i := 24) rfl))) (by decide) (backOf (W := 0) (rmP l Z a0 hw [] b15 (1 : Int32) vn vs vs T17.heap n0 Zs17 c17_0 c17_1 c17_2 c17_3 f18 ge_b15 hz0) hZ (hw _ (List.mem_of_getElem? (i := 26) rfl)) (hw _ (List.mem_of_getElem? (i := 7) rfl)) (by decide) (by decide)) q20a q20c (g := (mkF m 68 #[.val (.int p1), .val (.int p2), .val (.int p3), .val (.int vn), .val (.int vs), .val (.ref b15), .unset] [(.ref b15)])) rfl (by rw [hml]; rfl) (Steps.refl _) (argsL := []) (rest := []) (lenOf pd_4 rfl) rfl (by show 2 * 0 + _ ≤ _; exact Nat.le_of_eq rfl) (hb hby at_68) (fun _ _ => ⟨rfl, rfl, (by decide : 1 + 0 ≤ _), (by decide : 4 + 0 ≤ _)⟩)
  dsimp only [Pt.U, Pt.locs, Pt.cells, Pt.slots] at X20 l20 y20 z20 st20 hQ20
  subst l20 y20 z20
  obtain ⟨rfl, N20q, K20q, c20_0, c20_1, c20_2, c20_3⟩ := hQ20
  have N20 := Fr.app N17 N20q
  have f21 := f18.keep K20q
  have K20 := (K17).trans K20q (allS (Or.inr sz_b15) all0)
  have Zs20 : n0 ≤ T20.heap.size := Nat.le_trans Zs17 K20q.1
  have k20 : Go p e below (s₁.setTop (entryFrame m #[(.int p1), (.int p2), (.int p3)] maxLocals)) (T20.setTop (mkF m 71 #[.val (.int p1), .val (.int p2), .val (.int p3), .val (.int vn), .val (.int vs), .val (.ref b15), .unset] [])) := fun t kk => k19 t (st20.trans kk)
  have k22 : Go p e below (s₁.setTop (entryFrame m #[(.int p1), (.int p2), (.int p3)] maxLocals)) (T20.setTop (mkF m 77 #[.val (.int p1), .val (.int p2), .val (.int p3), .val (.int vn), .val (.int vs), .val (.ref b15), .unset] [(.int (1 : Int32)), (.int vs), (.int vn), (.ref b15)])) := fun t kk => k20 t (by
    show Steps p.tables e below (T20.setTop (mkF m 71 #[.val (.int p1), .val (.int p2), .val (.int p3), .val (.int vn), .val (.int vs), .val (.ref b15), .unset] [])) _
    refine XS.aload X20.here hx rfl (hb hby at_71) rfl rfl ?_
    show Steps p.tables e below (T20.setTop (mkF m 73 #[.val (.int p1), .val (.int p2), .val (.int p3), .val (.int vn), .val (.int vs), .val (.ref b15), .unset] [(.ref b15)])) _
    refine XS.iloadN X20.here hx rfl (hb hby at_73) rfl ?_
    show Steps p.tables e below (T20.setTop (mkF m 74 #[.val (.int p1), .val (.int p2), .val (.int p3), .val (.int vn), .val (.int vs), .val (.ref b15), .unset] [(.int vn), (.ref b15)])) _
    refine XS.iload X20.here hx rfl (hb hby at_74) rfl ?_
    show Steps p.tables e below (T20.setTop (mkF m 76 #[.val (.int p1), .val (.int p2), .val (.int p3), .val (.int vn), .val (.int vs), .val (.ref b15), .unset] [(.int vs), (.int vn), (.ref b15)])) _
    refine XS.iconst X20.here hx rfl (hb hby at_76) ?_
    exact kk)
  obtain ⟨_, _, ⟨T23, L23, kx23, nx23⟩, -, X23, ⟨Lc23, hQ23, l23, y23, z23⟩, st23⟩ := Jvm.LawKit.callS X20 hx (y := (⟨"com/example/tabularium/tabularium/engine/TurnOrderPassPinLaw", "check", "(Lcom/example/tabularium/tabularium/engine/TurnOrder;III)Z"⟩ : MethodName)) hown (mvT hZ (hw _ (List.mem_of_getElem? (i := 36) rfl))) (mvT hZ (hw _ (List.mem_of_getElem? (i := 37) rfl))) (mvT hZ (hw _ (List.mem_of_getElem? (i := 38) rfl))) (mvT hZ (hw _ (List.mem_of_getElem? (i := 39) rfl))) (by decide) (backOf (W := 0) (rmK l Z a0 hw [] b15 vn vs (1 : Int32) ((vs % vn) + 1) (own_rnd vs vn vs (1 : Int32)) T20.heap n0 Zs20 c20_3 c20_0 f21 hz0 hzl hA1 hB1) hZ (hw _ (List.mem_of_getElem? (i := 39) rfl)) (hw _ (List.mem_of_getElem? (i := 38) rfl)) (by decide) (by decide)) (g := (mkF m 77 #[.val (.int p1), .val (.int p2), .val (.int p3), .val (.int vn), .val (.int vs), .val (.ref b15), .unset] [(.int (1 : Int32)), (.int vs), (.int vn), (.ref b15)])) rfl (by rw [hml]; rfl) (argsL := [(.ref b15), (.int vn), (.int vs), (.int (1 : Int32))]) (rest := []) (lenOf pd_5 rfl) rfl (by show 2 * 0 + _ ≤ _; exact Nat.le_of_eq rfl) (hb hby at_77) (fun _ _ => ⟨rfl, rfl, (by decide : 1 + 0 ≤ _), (by decide : 4 + 0 ≤ _)⟩)
  dsimp only [Pt.U, Pt.locs, Pt.cells, Pt.slots] at X23 l23 y23 z23 st23 hQ23
  subst l23 y23 z23
  obtain ⟨rfl, rfl, e23⟩ := hQ23
  try rw [List.append_nil] at X23
  have k23 : Go p e below (s₁.setTop (entryFrame m #[(.int p1), (.int p2), (.int p3)] maxLocals)) (T23.setTop (mkF m 80 #[.val (.int p1), .val (.int p2), .val (.int p3), .val (.int vn), .val (.int vs), .val (.ref b15), .unset] [(.int (1 : Int32))])) := fun t kk => k22 t (st23 t kk)
  have k24 : Go p e below (s₁.setTop (entryFrame m #[(.int p1), (.int p2), (.int p3)] maxLocals)) (T23.setTop (mkF m 84 #[.val (.int p1), .val (.int p2), .val (.int p3), .val (.int vn), .val (.int vs), .val (.ref b15), .val (.int (1 : Int32))] [(.ref b15)])) := fun t kk => k23 t (by
    show Steps p.tables e below (T23.setTop (mkF m 80 #[.val (.int p1), .val (.int p2), .val (.int p3), .val (.int vn), .val (.int vs), .val (.ref b15), .unset] [(.int (1 : Int32))])) _
    refine XS.istore X23.here hx rfl (hb hby at_80) rfl (l' := #[.val (.int p1), .val (.int p2), .val (.int p3), .val (.int vn), .val (.int vs), .val (.ref b15), .val (.int (1 : Int32))]) rfl ?_
    show Steps p.tables e below (T23.setTop (mkF m 82 #[.val (.int p1), .val (.int p2), .val (.int p3), .val (.int vn), .val (.int vs), .val (.ref b15), .val (.int (1 : Int32))] [])) _
    refine XS.aload X23.here hx rfl (hb hby at_82) rfl rfl ?_
    exact kk)
  obtain ⟨cq25, kq25, q25a, q25b, q25c⟩ := isOf hZ e23 f21
  obtain ⟨_, _, ⟨T25, L25, kx25, nx25⟩, -, X25, ⟨Lc25, hQ25, l25, y25, z25⟩, st25⟩ := X23.virtualBack hx (y := (⟨"com/example/tabularium/tabularium/engine/TurnOrder", "pass", "()V"⟩ : MethodName)) (z := (⟨"com/example/tabularium/tabularium/engine/TurnOrder", "pass", "()V"⟩ : MethodName)) hown (mvT hZ (hw _ (List.mem_of_getElem? (i := 22) rfl))) (mvT hZ (hw _ (List.mem_of_getElem? (i := 23) rfl))) (notFace_of_selects (args := #[]) (mvT hZ (hw _ (List.mem_of_getElem? (i := 25) rfl)))) (mvT hZ (hw _ (List.mem_of_getElem? (i := 25) rfl))) (mvT hZ (hw _ (List.mem_of_getElem? (i := 24) rfl))) (by decide) (backOf (W := 0) (rmP l Z a0 hw [] b15 (own_rnd vs vn vs (1 : Int32)) vn vs ((vs % vn) + 1) T20.heap n0 Zs20 c20_0 c20_1 c20_2 c20_3 f21 ge_b15 hz0) hZ (hw _ (List.mem_of_getElem? (i := 26) rfl)) (hw _ (List.mem_of_getElem? (i := 7) rfl)) (by decide) (by decide)) q25a q25c (g := (mkF m 84 #[.val (.int p1), .val (.int p2), .val (.int p3), .val (.int vn), .val (.int vs), .val (.ref b15), .val (.int (1 : Int32))] [(.ref b15)])) rfl (by rw [hml]; rfl) (Steps.refl _) (argsL := []) (rest := []) (lenOf pd_4 rfl) rfl (by show 2 * 0 + _ ≤ _; exact Nat.le_of_eq rfl) (hb hby at_84) (fun _ _ => ⟨rfl, e23, (by decide : 1 + 0 ≤ _), (by decide : 4 + 0 ≤ _)⟩)
  dsimp only [Pt.U, Pt.locs, Pt.cells, Pt.slots] at X25 l25 y25 z25 st25 hQ25
  subst l25 y25 z25
  obtain ⟨rfl, N25q, K25q, c25_0, c25_1, c25_2, c25_3⟩ := hQ25
  have N25 := Fr.app N20 N25q
  have f26 := f21.keep K25q
  have K25 := (K20).trans K25q (allS (Or.inr sz_b15) all0)
  have Zs25 : n0 ≤ T25.heap.size := Nat.le_trans Zs20 K25q.1
  have k25 : Go p e below (s₁.setTop (entryFrame m #[(.int p1), (.int p2), (.int p3)] maxLocals)) (T25.setTop (mkF m 87 #[.val (.int p1), .val (.int p2), .val (.int p3), .val (.int vn), .val (.int vs), .val (.ref b15), .val (.int (1 : Int32))] [])) := fun t kk => k24 t (st25.trans kk)
  have k27 : Go p e below (s₁.setTop (entryFrame m #[(.int p1), (.int p2), (.int p3)] maxLocals)) (T25.setTop (mkF m 98 #[.val (.int p1), .val (.int p2), .val (.int p3), .val (.int vn), .val (.int vs), .val (.ref b15), .val (.int (1 : Int32))] [(.int (2 : Int32)), (.int vs), (.int vn), (.ref b15)])) := fun t kk => k25 t (by
    show Steps p.tables e below (T25.setTop (mkF m 87 #[.val (.int p1), .val (.int p2), .val (.int p3), .val (.int vn), .val (.int vs), .val (.ref b15), .val (.int (1 : Int32))] [])) _
    refine XS.iload X25.here hx rfl (hb hby at_87) rfl ?_
    show Steps p.tables e below (T25.setTop (mkF m 89 #[.val (.int p1), .val (.int p2), .val (.int p3), .val (.int vn), .val (.int vs), .val (.ref b15), .val (.int (1 : Int32))] [(.int (1 : Int32))])) _
    refine XS.ifNo X25.here hx rfl (hb hby at_89) rfl ((if0 _ _).trans (feq (by decide : ¬ ((1 : Int32) = (0 : Int32)))).1) ?_
    show Steps p.tables e below (T25.setTop (mkF m 92 #[.val (.int p1), .val (.int p2), .val (.int p3), .val (.int vn), .val (.int vs), .val (.ref b15), .val (.int (1 : Int32))] [])) _
    refine XS.aload X25.here hx rfl (hb hby at_92) rfl rfl ?_
    show Steps p.tables e below (T25.setTop (mkF m 94 #[.val (.int p1), .val (.int p2), .val (.int p3), .val (.int vn), .val (.int vs), .val (.ref b15), .val (.int (1 : Int32))] [(.ref b15)])) _
    refine XS.iloadN X25.here hx rfl (hb hby at_94) rfl ?_
    show Steps p.tables e below (T25.setTop (mkF m 95 #[.val (.int p1), .val (.int p2), .val (.int p3), .val (.int vn), .val (.int vs), .val (.ref b15), .val (.int (1 : Int32))] [(.int vn), (.ref b15)])) _
    refine XS.iload X25.here hx rfl (hb hby at_95) rfl ?_
    show Steps p.tables e below (T25.setTop (mkF m 97 #[.val (.int p1), .val (.int p2), .val (.int p3), .val (.int vn), .val (.int vs), .val (.ref b15), .val (.int (1 : Int32))] [(.int vs), (.int vn), (.ref b15)])) _
    refine XS.iconst X25.here hx rfl (hb hby at_97) ?_
    exact kk)
  obtain ⟨_, _, ⟨T28, L28, kx28, nx28⟩, -, X28, ⟨Lc28, hQ28, l28, y28, z28⟩, st28⟩ := Jvm.LawKit.callS X25 hx (y := (⟨"com/example/tabularium/tabularium/engine/TurnOrderPassPinLaw", "check", "(Lcom/example/tabularium/tabularium/engine/TurnOrder;III)Z"⟩ : MethodName)) hown (mvT hZ (hw _ (List.mem_of_getElem? (i := 36) rfl))) (mvT hZ (hw _ (List.mem_of_getElem? (i := 37) rfl))) (mvT hZ (hw _ (List.mem_of_getElem? (i := 38) rfl))) (mvT hZ (hw _ (List.mem_of_getElem? (i := 39) rfl))) (by decide) (backOf (W := 0) (rmK l Z a0 hw [] b15 vn vs (2 : Int32) ((((vs % vn) + 1) % vn) + 1) (own_rnd ((vs % vn) + 1) vn vs (own_rnd vs vn vs (1 : Int32))) T25.heap n0 Zs25 c25_3 c25_0 f26 hz0 hzl hA2 hB2) hZ (hw _ (List.mem_of_getElem? (i := 39) rfl)) (hw _ (List.mem_of_getElem? (i := 38) rfl)) (by decide) (by decide)) (g := (mkF m 98 #[.val (.int p1), .val (.int p2), .val (.int p3), .val (.int vn), .val (.int vs), .val (.ref b15), .val (.int (1 : Int32))] [(.int (2 : Int32)), (.int vs), (.int vn), (.ref b15)])) rfl (by rw [hml]; rfl) (argsL := [(.ref b15), (.int vn), (.int vs), (.int (2 : Int32))]) (rest := []) (lenOf pd_5 rfl) rfl (by show 2 * 0 + _ ≤ _; exact Nat.le_of_eq rfl) (hb hby at_98) (fun _ _ => ⟨rfl, rfl, (by decide : 1 + 0 ≤ _), (by decide : 4 + 0 ≤ _)⟩)
  dsimp only [Pt.U, Pt.locs, Pt.cells, Pt.slots] at X28 l28 y28 z28 st28 hQ28
  subst l28 y28 z28
  obtain ⟨rfl, rfl, e28⟩ := hQ28
  try rw [List.append_nil] at X28
  have k28 : Go p e below (s₁.setTop (entryFrame m #[(.int p1), (.int p2), (.int p3)] maxLocals)) (T28.setTop (mkF m 101 #[.val (.int p1), .val (.int p2), .val (.int p3), .val (.int vn), .val (.int vs), .val (.ref b15), .val (.int (1 : Int32))] [(.int (1 : Int32))])) := fun t kk => k27 t (st28 t kk)
  have k29 : Go p e below (s₁.setTop (entryFrame m #[(.int p1), (.int p2), (.int p3)] maxLocals)) (T28.setTop (mkF m 113 #[.val (.int p1), .val (.int p2), .val (.int p3), .val (.int vn), .val (.int vs), .val (.ref b15), .val (.int (1 : Int32))] [(.ref b15)])) := fun t kk => k28 t (by
    show Steps p.tables e below (T28.setTop (mkF m 101 #[.val (.int p1), .val (.int p2), .val (.int p3), .val (.int vn), .val (.int vs), .val (.ref b15), .val (.int (1 : Int32))] [(.int (1 : Int32))])) _
    refine XS.ifNo X28.here hx rfl (hb hby at_101) rfl ((if0 _ _).trans (feq (by decide : ¬ ((1 : Int32) = (0 : Int32)))).1) ?_
    show Steps p.tables e below (T28.setTop (mkF m 104 #[.val (.int p1), .val (.int p2), .val (.int p3), .val (.int vn), .val (.int vs), .val (.ref b15), .val (.int (1 : Int32))] [])) _
    refine XS.iconst X28.here hx rfl (hb hby at_104) ?_
    show Steps p.tables e below (T28.setTop (mkF m 105 #[.val (.int p1), .val (.int p2), .val (.int p3), .val (.int vn), .val (.int vs), .val (.ref b15), .val (.int (1 : Int32))] [(.int (1 : Int32))])) _
    refine XS.goto X28.here hx rfl (pc0 := 105) (pc' := 109) rfl (hb hby at_105) (by decide) (by decide) ?_
    show Steps p.tables e below (T28.setTop (mkF m 109 #[.val (.int p1), .val (.int p2), .val (.int p3), .val (.int vn), .val (.int vs), .val (.ref b15), .val (.int (1 : Int32))] [(.int (1 : Int32))])) _
    refine XS.istore X28.here hx rfl (hb hby at_109) rfl (l' := #[.val (.int p1), .val (.int p2), .val (.int p3), .val (.int vn), .val (.int vs), .val (.ref b15), .val (.int (1 : Int32))]) rfl ?_
    show Steps p.tables e below (T28.setTop (mkF m 111 #[.val (.int p1), .val (.int p2), .val (.int p3), .val (.int vn), .val (.int vs), .val (.ref b15), .val (.int (1 : Int32))] [])) _
    refine XS.aload X28.here hx rfl (hb hby at_111) rfl rfl ?_
    exact kk)
  obtain ⟨cq30, kq30, q30a, q30b, q30c⟩ := isOf hZ e28 f26
  obtain ⟨_, _, ⟨T30, L30, kx30, nx30⟩, -, X30, ⟨Lc30, hQ30, l30, y30, z30⟩, st30⟩ := X28.virtualBack hx (y := (⟨"com/example/tabularium/tabularium/engine/TurnOrder", "pass", "()V"⟩ : MethodName)) (z := (⟨"com/example/tabularium/tabularium/engine/TurnOrder", "pass", "()V"⟩ : MethodName)) hown (mvT hZ (hw _ (List.mem_of_getElem? (i := 22) rfl))) (mvT hZ (hw _ (List.mem_of_getElem? (i := 23) rfl))) (notFace_of_selects (args := #[]) (mvT hZ (hw _ (List.mem_of_getElem? (i := 25) rfl)))) (mvT hZ (hw _ (List.mem_of_getElem? (i := 25) rfl))) (mvT hZ (hw _ (List.mem_of_getElem? (i := 24) rfl))) (by decide) (backOf (W := 0) (rmP l Z a0 hw [] b15 (own_rnd ((vs % vn) + 1) vn vs (own_rnd vs vn vs (1 : Int32))) vn vs ((((vs % vn) + 1) % vn) + 1) T25.heap n0 Zs25 c25_0 c25_1 c25_2 c25_3 f26 ge_b15 hz0) hZ (hw _ (List.mem_of_getElem? (i := 26) rfl)) (hw _ (List.mem_of_getElem? (i := 7) rfl)) (by decide) (by decide)) q30a q30c (g := (mkF m 113 #[.val (.int p1), .val (.int p2), .val (.int p3), .val (.int vn), .val (.int vs), .val (.ref b15), .val (.int (1 : Int32))] [(.ref b15)])) rfl (by rw [hml]; rfl) (Steps.refl _) (argsL := []) (rest := []) (lenOf pd_4 rfl) rfl (by show 2 * 0 + _ ≤ _; exact Nat.le_of_eq rfl) (hb hby at_113) (fun _ _ => ⟨rfl, e28, (by decide : 1 + 0 ≤ _), (by decide : 4 + 0 ≤ _)⟩)
  dsimp only [Pt.U, Pt.locs, Pt.cells, Pt.slots] at X30 l30 y30 z30 st30 hQ30
  subst l30 y30 z30
  obtain ⟨rfl, N30q, K30q, c30_0, c30_1, c30_2, c30_3⟩ := hQ30
  have N30 := Fr.app N25 N30q
  have f31 := f26.keep K30q
  have K30 := (K25).trans K30q (allS (Or.inr sz_b15) all0)
  have Zs30 : n0 ≤ T30.heap.size := Nat.le_trans Zs25 K30q.1
  have k30 : Go p e below (s₁.setTop (entryFrame m #[(.int p1), (.int p2), (.int p3)] maxLocals)) (T30.setTop (mkF m 116 #[.val (.int p1), .val (.int p2), .val (.int p3), .val (.int vn), .val (.int vs), .val (.ref b15), .val (.int (1 : Int32))] [])) := fun t kk => k29 t (st30.trans kk)
  have k32 : Go p e below (s₁.setTop (entryFrame m #[(.int p1), (.int p2), (.int p3)] maxLocals)) (T30.setTop (mkF m 127 #[.val (.int p1), .val (.int p2), .val (.int p3), .val (.int vn), .val (.int vs), .val (.ref b15), .val (.int (1 : Int32))] [(.int (3 : Int32)), (.int vs), (.int vn), (.ref b15)])) := fun t kk => k30 t (by
    show Steps p.tables e below (T30.setTop (mkF m 116 #[.val (.int p1), .val (.int p2), .val (.int p3), .val (.int vn), .val (.int vs), .val (.ref b15), .val (.int (1 : Int32))] [])) _
    refine XS.iload X30.here hx rfl (hb hby at_116) rfl ?_
    show Steps p.tables e below (T30.setTop (mkF m 118 #[.val (.int p1), .val (.int p2), .val (.int p3), .val (.int vn), .val (.int vs), .val (.ref b15), .val (.int (1 : Int32))] [(.int (1 : Int32))])) _
    refine XS.ifNo X30.here hx rfl (hb hby at_118) rfl ((if0 _ _).trans (feq (by decide : ¬ ((1 : Int32) = (0 : Int32)))).1) ?_
    show Steps p.tables e below (T30.setTop (mkF m 121 #[.val (.int p1), .val (.int p2), .val (.int p3), .val (.int vn), .val (.int vs), .val (.ref b15), .val (.int (1 : Int32))] [])) _
    refine XS.aload X30.here hx rfl (hb hby at_121) rfl rfl ?_
    show Steps p.tables e below (T30.setTop (mkF m 123 #[.val (.int p1), .val (.int p2), .val (.int p3), .val (.int vn), .val (.int vs), .val (.ref b15), .val (.int (1 : Int32))] [(.ref b15)])) _
    refine XS.iloadN X30.here hx rfl (hb hby at_123) rfl ?_
    show Steps p.tables e below (T30.setTop (mkF m 124 #[.val (.int p1), .val (.int p2), .val (.int p3), .val (.int vn), .val (.int vs), .val (.ref b15), .val (.int (1 : Int32))] [(.int vn), (.ref b15)])) _
    refine XS.iload X30.here hx rfl (hb hby at_124) rfl ?_
    show Steps p.tables e below (T30.setTop (mkF m 126 #[.val (.int p1), .val (.int p2), .val (.int p3), .val (.int vn), .val (.int vs), .val (.ref b15), .val (.int (1 : Int32))] [(.int vs), (.int vn), (.ref b15)])) _
    refine XS.iconst X30.here hx rfl (hb hby at_126) ?_
    exact kk)
  obtain ⟨_, _, ⟨T33, L33, kx33, nx33⟩, -, X33, ⟨Lc33, hQ33, l33, y33, z33⟩, st33⟩ := Jvm.LawKit.callS X30 hx (y := (⟨"com/example/tabularium/tabularium/engine/TurnOrderPassPinLaw", "check", "(Lcom/example/tabularium/tabularium/engine/TurnOrder;III)Z"⟩ : MethodName)) hown (mvT hZ (hw _ (List.mem_of_getElem? (i := 36) rfl))) (mvT hZ (hw _ (List.mem_of_getElem? (i := 37) rfl))) (mvT hZ (hw _ (List.mem_of_getElem? (i := 38) rfl))) (mvT hZ (hw _ (List.mem_of_getElem? (i := 39) rfl))) (by decide) (backOf (W := 0) (rmK l Z a0 hw [] b15 vn vs (3 : Int32) ((((((vs % vn) + 1) % vn) + 1) % vn) + 1) (own_rnd ((((vs % vn) + 1) % vn) + 1) vn vs (own_rnd ((vs % vn) + 1) vn vs (own_rnd vs vn vs (1 : Int32)))) T30.heap n0 Zs30 c30_3 c30_0 f31 hz0 hzl hA3 hB3) hZ (hw _ (List.mem_of_getElem? (i := 39) rfl)) (hw _ (List.mem_of_getElem? (i := 38) rfl)) (by decide) (by decide)) (g := (mkF m 127 #[.val (.int p1), .val (.int p2), .val (.int p3), .val (.int vn), .val (.int vs), .val (.ref b15), .val (.int (1 : Int32))] [(.int (3 : Int32)), (.int vs), (.int vn), (.ref b15)])) rfl (by rw [hml]; rfl) (argsL := [(.ref b15), (.int vn), (.int vs), (.int (3 : Int32))]) (rest := []) (lenOf pd_5 rfl) rfl (by show 2 * 0 + _ ≤ _; exact Nat.le_of_eq rfl) (hb hby at_127) (fun _ _ => ⟨rfl, rfl, (by decide : 1 + 0 ≤ _), (by decide : 4 + 0 ≤ _)⟩)
  dsimp only [Pt.U, Pt.locs, Pt.cells, Pt.slots] at X33 l33 y33 z33 st33 hQ33
  subst l33 y33 z33
  obtain ⟨rfl, rfl, e33⟩ := hQ33
  try rw [List.append_nil] at X33
  have k33 : Go p e below (s₁.setTop (entryFrame m #[(.int p1), (.int p2), (.int p3)] maxLocals)) (T33.setTop (mkF m 130 #[.val (.int p1), .val (.int p2), .val (.int p3), .val (.int vn), .val (.int vs), .val (.ref b15), .val (.int (1 : Int32))] [(.int (1 : Int32))])) := fun t kk => k32 t (st33 t kk)
  have k34 : Go p e below (s₁.setTop (entryFrame m #[(.int p1), (.int p2), (.int p3)] maxLocals)) (T33.setTop (mkF m 142 #[.val (.int p1), .val (.int p2), .val (.int p3), .val (.int vn), .val (.int vs), .val (.ref b15), .val (.int (1 : Int32))] [(.int (1 : Int32))])) := fun t kk => k33 t (by
    show Steps p.tables e below (T33.setTop (mkF m 130 #[.val (.int p1), .val (.int p2), .val (.int p3), .val (.int vn), .val (.int vs), .val (.ref b15), .val (.int (1 : Int32))] [(.int (1 : Int32))])) _
    refine XS.ifNo X33.here hx rfl (hb hby at_130) rfl ((if0 _ _).trans (feq (by decide : ¬ ((1 : Int32) = (0 : Int32)))).1) ?_
    show Steps p.tables e below (T33.setTop (mkF m 133 #[.val (.int p1), .val (.int p2), .val (.int p3), .val (.int vn), .val (.int vs), .val (.ref b15), .val (.int (1 : Int32))] [])) _
    refine XS.iconst X33.here hx rfl (hb hby at_133) ?_
    show Steps p.tables e below (T33.setTop (mkF m 134 #[.val (.int p1), .val (.int p2), .val (.int p3), .val (.int vn), .val (.int vs), .val (.ref b15), .val (.int (1 : Int32))] [(.int (1 : Int32))])) _
    refine XS.goto X33.here hx rfl (pc0 := 134) (pc' := 138) rfl (hb hby at_134) (by decide) (by decide) ?_
    show Steps p.tables e below (T33.setTop (mkF m 138 #[.val (.int p1), .val (.int p2), .val (.int p3), .val (.int vn), .val (.int vs), .val (.ref b15), .val (.int (1 : Int32))] [(.int (1 : Int32))])) _
    refine XS.istore X33.here hx rfl (hb hby at_138) rfl (l' := #[.val (.int p1), .val (.int p2), .val (.int p3), .val (.int vn), .val (.int vs), .val (.ref b15), .val (.int (1 : Int32))]) rfl ?_
    show Steps p.tables e below (T33.setTop (mkF m 140 #[.val (.int p1), .val (.int p2), .val (.int p3), .val (.int vn), .val (.int vs), .val (.ref b15), .val (.int (1 : Int32))] [])) _
    refine XS.iload X33.here hx rfl (hb hby at_140) rfl ?_
    exact kk)
  obtain ⟨fs, hr, hrun, hended, hW, hsame⟩ := X33.leave (v := some (.int (1 : Int32))) (fun h => by rw [Bd.returns] at h; cases h)
  refine ⟨_, _, k34 _ ?_, hrun, hended, _, _, rfl, ?_, ⟨_, rfl⟩, hW, hsame.mono (by decide) (by decide)⟩
  · show Steps p.tables e below (T33.setTop (mkF m 142 #[.val (.int p1), .val (.int p2), .val (.int p3), .val (.int vn), .val (.int vs), .val (.ref b15), .val (.int (1 : Int32))] [(.int (1 : Int32))])) _
    exact retN X33 hx (t := .boolean) Bd.returns (by simp) (hb hby at_142) hr
  · show Q0 Z p1 p2 p3 h0 n0 _ T33.heap _
    rw [e33]
    exact ⟨rfl, N30⟩
set_option maxRecDepth 65536 in
set_option maxHeartbeats 40000000 in
theorem comes_1 {Post : Tables → Env → Array Value → State → Outcome → State → Prop} (hpost : ∀ tb e args s v u, (limb_1_1.after args s (.returned v) u = true ∧ limb_1_2.after args s (.returned v) u = true ∧ True) → FrameEnd s (.returned v) u (Jvm.fieldLocs frame_1_writes args s ++ Jvm.arrayLocs frame_1_arrays args s ++ Jvm.staticLocs frame_1_statics s) 16 128 → Post tb e args s (.returned v) u) :
    ArmFor flags0 classFile x code maxLocals ret World_1 tables_1 room_1 Calls_1 rest_1 Pre_1 Post := by
  intro l hfl _ _ p e ha hc hk s m args below hf hA hF happ hP
  obtain ⟨hcalls, hrest, hpre⟩ := hP
  obtain ⟨-, -, -, hnamed, -, -, -, hat⟩ := (Spec.applies_iff hf).mp happ
  obtain ⟨hg, hn⟩ := and_e (Cond.before_iff.mp (show (Jvm.Cond.and given_1 narrow_1).before args s = true from hpre))
  obtain ⟨g1, g2⟩ := and_e hg
  obtain ⟨g3, g4⟩ := and_e g2
  obtain ⟨g5, g6⟩ := and_e g4
  obtain ⟨w0, w1, w2, rfl⟩ : ∃ w0 w1 w2 : Value, args = #[w0, w1, w2] := by
    have hs : args.size = 3 := by simpa [Cond.value, given_1] using g1
    obtain ⟨L⟩ := args
    match L, hs with
    | [w0, w1, w2], _ => exact ⟨w0, w1, w2, rfl⟩
  have hw := fun d (hd : d ∈ tables_1) => atoms_spec (ws := Jvm.Cond.code x code maxLocals ret :: tables_1) hat d (List.mem_cons_of_mem _ hd)
  have hfit : Fit s := fun {y c} hc i hi => by
    obtain ⟨ha, rfl⟩ := Array.getElem?_eq_some_iff.mp hc
    have q := List.all_eq_true.mp ((Array.all_eq_true_iff_forall_mem.mp hF) _ (Array.getElem_mem ha)) i (List.mem_range.mpr hi)
    simpa [Array.getElem?_eq_getElem hi] using q
  obtain ⟨i0, ei0⟩ := is_v g3
  obtain rfl : w0 = (.int i0) := Option.some.inj ei0
  obtain ⟨i1, ei1⟩ := is_v g5
  obtain rfl : w1 = (.int i1) := Option.some.inj ei1
  obtain ⟨i2, ei2⟩ := is_v g6
  obtain rfl : w2 = (.int i2) := Option.some.inj ei2
  obtain ⟨n, o, h1, h2, h3, _, L, rfl, ⟨rfl, N⟩, hq⟩ := rm0 l s _ hw tables_1 i0 i1 i2  s.heap s.heap.size (Nat.le_refl _)  p e ha hc hk s m _ below hf ((Spec.applies_iff_loose hf).mp happ).1 ⟨rfl, State.Warmed39.refl s, rfl⟩ trivial
  refine ⟨n, _, h1, h2, h3, hpost _ _ _ _ _ _ ⟨Cond.after_iff.mpr rfl, Cond.after_iff.mpr (eq_i res_at (Term.int_eval (1)) rfl), trivial⟩ ⟨hq.1, hq.2.1, (hq.2.2.sift fun y hy => Or.inr (N y hy)).mono (by decide) (by decide)⟩⟩
theorem main_1_1 : Claimed_1_1 := comes_1 fun _ _ _ _ _ _ h hF => ⟨h.1, hF⟩
theorem main_1_2 : Claimed_1_2 := comes_1 fun _ _ _ _ _ _ h hF => ⟨h.2.1, hF⟩
end Jvm.Pilot.@@N@@
namespace Jvm.Pilot.@@N@@
open Jvm Jvm.ClassFile Sem Op Lib Jvm.Free Jvm.Stand Jvm.Pilot.@@N@@.Jvm.D
/-! MADE BY PROGRAM (witnessworld.py) out of the Statement's table words and the real class files: 10 classes; the members and pool entries that the words name. The judged class is class 1, her method 2. -/
namespace start1
open Jvm.ClassFile
def u (s : String) : CpInfo := .utf8 (stringToUtf16 s)
/-- a pool by its gaps: so many unusable entries, then the entry; so many at the end -/
def gap : Nat → List CpInfo → List CpInfo
  | 0, r => r
  | n + 1, r => .unusable :: gap n r
def poolList (es : List (Nat × CpInfo)) (last : Nat) : List CpInfo := es.foldr (fun e r => gap e.1 (e.2 :: r)) (gap last [])
def pool (es : List (Nat × CpInfo)) (last : Nat) : Array CpInfo := ⟨poolList es last⟩
def fileOf (pool : Array CpInfo) (this : Nat) (attrs : Array Attribute := #[]) (ms : Array MethodInfo := #[]) (fl : Nat := 33) (sup : Nat := 0) (ifs : Array Nat := #[]) (fds : Array FieldInfo := #[]) : ClassFile where
  minorVersion := 0
  majorVersion := 65
  constantPool := pool
  accessFlags := fl
  thisClass := this
  superClass := sup
  interfaces := ifs
  fields := fds
  methods := ms
  attributes := attrs
def plain (name : String) (sup : Option ClassId) : Class where
  name := name
  kind := .ordinary
  loader := none
  accessFlags := 33
  super := sup
  interfaces := #[]
  cf := none
  fields := #[]
  methods := #[]
  instanceTypes := #[]
  staticTypes := #[]
  resolved := #[]
  callSites := []
  init := .initialized
  statics := none
  mirror := none

def pool0 : Array CpInfo := pool [(5, u "<init>"), (0, u "()V"), (1, .class_ 10), (1, u "java/lang/Object")] 113

def k0c0 : Code := { maxStack := 0, maxLocals := 1, code := object_method_1_code, exceptionTable := #[], attributes := #[] }
def k0m0 : Method := { name := "<init>", desc := "()V", sig := { parameters := [], returnType := none }, accessFlags := 1, code := some k0c0 }
/-- java/lang/Object -/
def k0 : Class := { plain "java/lang/Object" none with
  accessFlags := 33
  interfaces := #[]
  cf := some (fileOf pool0 8 #[] #[{ accessFlags := 1, nameIndex := 5, descriptorIndex := 6, attributes := #[] }] 33 0 #[] #[])
  fields := #[]
  methods := #[k0m0]
  instanceTypes := #[]
  staticTypes := #[]
  resolved := Array.replicate 124 none
  statics := none }

def pool1 : Array CpInfo := pool [(2, .class_ 4), (1, u "java/lang/Object"), (0, u "<init>"), (0, u "()V"), (0, .methodref 8 9), (0, .class_ 10), (0, .nameAndType 11 12), (0, u "com/example/tabularium/tabularium/engine/TurnOrder"), (0, u "current"), (0, u "()I"), (0, .methodref 8 14), (0, .nameAndType 15 12), (0, u "round"), (0, .integer 2147483647), (0, .methodref 18 19), (0, .class_ 20), (0, .nameAndType 21 22), (0, u "java/lang/Math"), (0, u "max"), (0, u "(II)I"), (0, .methodref 8 24), (0, .nameAndType 5 25), (0, u "(II)V"), (0, .methodref 8 27), (0, .nameAndType 28 6), (0, u "pass"), (0, .methodref 30 31), (0, .class_ 32), (0, .nameAndType 33 34), (0, u "com/example/tabularium/tabularium/engine/TurnOrderPassPinLaw"), (0, u "check"), (0, u "(Lcom/example/tabularium/tabularium/engine/TurnOrder;III)Z"), (3, u "law"), (0, u "(III)Z")] 2

def k1m0 : Method := { name := "<init>", desc := "()V", sig := { parameters := [], returnType := none }, accessFlags := 1, code := none }
def k1c1 : Code := { maxStack := 4, maxLocals := 7, code := method_2_code, exceptionTable := #[], attributes := #[] }
def k1m1 : Method := { name := "check", desc := "(Lcom/example/tabularium/tabularium/engine/TurnOrder;III)Z", sig := { parameters := [(.object "com/example/tabularium/tabularium/engine/TurnOrder"), .int, .int, .int], returnType := some .boolean }, accessFlags := 10, code := some k1c1 }
def k1c2 : Code := { maxStack := 4, maxLocals := 7, code := code, exceptionTable := #[], attributes := #[] }
def k1m2 : Method := { name := "law", desc := "(III)Z", sig := { parameters := [.int, .int, .int], returnType := some .boolean }, accessFlags := 9, code := some k1c2 }
/-- com/example/tabularium/tabularium/engine/TurnOrderPassPinLaw -/
def k1 : Class := { plain "com/example/tabularium/tabularium/engine/TurnOrderPassPinLaw" (some 0) with
  accessFlags := 49
  interfaces := #[]
  cf := some (fileOf pool1 30 #[] #[{ accessFlags := 1, nameIndex := 5, descriptorIndex := 6, attributes := #[] }, { accessFlags := 10, nameIndex := 33, descriptorIndex := 34, attributes := #[] }, { accessFlags := 9, nameIndex := 38, descriptorIndex := 39, attributes := #[] }] 49 2 #[] #[])
  fields := #[]
  methods := #[k1m0, k1m1, k1m2]
  instanceTypes := #[]
  staticTypes := #[]
  resolved := Array.replicate 42 none
  statics := none }

def pool2 : Array CpInfo := pool [(1, .class_ 2), (0, u "java/lang/Math"), (1, .class_ 6), (1, u "java/lang/Object"), (0, u "<init>"), (0, u "()V"), (89, .class_ 100), (1, u "java/lang/Math$RandomNumberGeneratorHolder"), (71, u "negativeZeroFloatBits"), (0, u "J"), (2, u "negativeZeroDoubleBits"), (21, u "max"), (46, u "$assertionsDisabled"), (0, u "Z"), (88, u "(II)I"), (2, u "twoToTheDoubleScaleDown"), (0, u "D"), (4, u "twoToTheDoubleScaleUp"), (9, u "E"), (3, u "PI"), (2, u "TAU"), (2, u "DEGREES_TO_RADIANS"), (0, u "RADIANS_TO_DEGREES")] 94

def k2m0 : Method := { name := "<init>", desc := "()V", sig := { parameters := [], returnType := none }, accessFlags := 2, code := none }
def k2c1 : Code := { maxStack := 2, maxLocals := 2, code := jdk_29_method_65_code, exceptionTable := #[], attributes := #[] }
def k2m1 : Method := { name := "max", desc := "(II)I", sig := { parameters := [.int, .int], returnType := some .int }, accessFlags := 9, code := some k2c1 }
/-- java/lang/Math -/
def k2 : Class := { plain "java/lang/Math" (some 0) with
  accessFlags := 49
  interfaces := #[]
  cf := some (fileOf pool2 1 #[.nestMembers #[98]] #[{ accessFlags := 2, nameIndex := 7, descriptorIndex := 8, attributes := #[] }, { accessFlags := 9, nameIndex := 198, descriptorIndex := 335, attributes := #[] }] 49 4 #[] #[{ accessFlags := 25, nameIndex := 354, descriptorIndex := 339, attributes := #[] }, { accessFlags := 25, nameIndex := 358, descriptorIndex := 339, attributes := #[] }, { accessFlags := 25, nameIndex := 361, descriptorIndex := 339, attributes := #[] }, { accessFlags := 26, nameIndex := 364, descriptorIndex := 339, attributes := #[] }, { accessFlags := 26, nameIndex := 365, descriptorIndex := 339, attributes := #[] }, { accessFlags := 26, nameIndex := 172, descriptorIndex := 173, attributes := #[] }, { accessFlags := 26, nameIndex := 176, descriptorIndex := 173, attributes := #[] }, { accessFlags := 8, nameIndex := 344, descriptorIndex := 339, attributes := #[] }, { accessFlags := 8, nameIndex := 338, descriptorIndex := 339, attributes := #[] }, { accessFlags := 4120, nameIndex := 245, descriptorIndex := 246, attributes := #[] }])
  fields := #[{ name := "E", type := .double, accessFlags := 25, slot := 0, constantValue := 0 }, { name := "PI", type := .double, accessFlags := 25, slot := 1, constantValue := 0 }, { name := "TAU", type := .double, accessFlags := 25, slot := 2, constantValue := 0 }, { name := "DEGREES_TO_RADIANS", type := .double, accessFlags := 26, slot := 3, constantValue := 0 }, { name := "RADIANS_TO_DEGREES", type := .double, accessFlags := 26, slot := 4, constantValue := 0 }, { name := "negativeZeroFloatBits", type := .long, accessFlags := 26, slot := 5, constantValue := 0 }, { name := "negativeZeroDoubleBits", type := .long, accessFlags := 26, slot := 6, constantValue := 0 }, { name := "twoToTheDoubleScaleUp", type := .double, accessFlags := 8, slot := 7, constantValue := 0 }, { name := "twoToTheDoubleScaleDown", type := .double, accessFlags := 8, slot := 8, constantValue := 0 }, { name := "$assertionsDisabled", type := .boolean, accessFlags := 4120, slot := 9, constantValue := 0 }]
  methods := #[k2m0, k2m1]
  instanceTypes := #[]
  staticTypes := #[.double, .double, .double, .double, .double, .long, .long, .double, .double, .boolean]
  resolved := Array.replicate 460 none
  statics := none }

def pool3 : Array CpInfo := pool [(1, .methodref 2 3), (0, .class_ 4), (0, .nameAndType 5 6), (0, u "java/lang/Object"), (0, u "<init>"), (0, u "()V"), (0, .fieldref 8 9), (0, .class_ 10), (0, .nameAndType 11 12), (0, u "com/example/tabularium/tabularium/engine/TurnOrder"), (0, u "round"), (0, u "I"), (9, .fieldref 8 23), (0, .nameAndType 24 12), (0, u "players"), (0, .fieldref 8 26), (0, .nameAndType 27 12), (0, u "start"), (0, .fieldref 8 29), (0, .nameAndType 30 12), (0, u "current"), (0, .methodref 8 32), (0, .nameAndType 33 34), (0, u "next"), (0, u "()I"), (0, .methodref 8 36), (0, .nameAndType 37 38), (0, u "isLastOfRound"), (0, u "()Z"), (0, u "(II)V"), (3, u "pass")] 17

def k3c0 : Code := { maxStack := 4, maxLocals := 3, code := prog_5_method_1_code, exceptionTable := #[], attributes := #[] }
def k3m0 : Method := { name := "<init>", desc := "(II)V", sig := { parameters := [.int, .int], returnType := none }, accessFlags := 1, code := some k3c0 }
def k3c1 : Code := { maxStack := 1, maxLocals := 1, code := prog_5_method_2_code, exceptionTable := #[], attributes := #[] }
def k3m1 : Method := { name := "current", desc := "()I", sig := { parameters := [], returnType := some .int }, accessFlags := 1, code := some k3c1 }
def k3c2 : Code := { maxStack := 1, maxLocals := 1, code := prog_5_method_4_code, exceptionTable := #[], attributes := #[] }
def k3m2 : Method := { name := "round", desc := "()I", sig := { parameters := [], returnType := some .int }, accessFlags := 1, code := some k3c2 }
def k3c3 : Code := { maxStack := 2, maxLocals := 1, code := prog_5_method_5_code, exceptionTable := #[], attributes := #[] }
def k3m3 : Method := { name := "isLastOfRound", desc := "()Z", sig := { parameters := [], returnType := some .boolean }, accessFlags := 1, code := some k3c3 }
def k3c4 : Code := { maxStack := 3, maxLocals := 1, code := prog_5_method_6_code, exceptionTable := #[], attributes := #[] }
def k3m4 : Method := { name := "pass", desc := "()V", sig := { parameters := [], returnType := none }, accessFlags := 1, code := some k3c4 }
def k3c5 : Code := { maxStack := 2, maxLocals := 1, code := prog_5_method_7_code, exceptionTable := #[], attributes := #[] }
def k3m5 : Method := { name := "next", desc := "()I", sig := { parameters := [], returnType := some .int }, accessFlags := 2, code := some k3c5 }
/-- com/example/tabularium/tabularium/engine/TurnOrder -/
def k3 : Class := { plain "com/example/tabularium/tabularium/engine/TurnOrder" (some 0) with
  accessFlags := 49
  interfaces := #[]
  cf := some (fileOf pool3 8 #[] #[{ accessFlags := 1, nameIndex := 5, descriptorIndex := 39, attributes := #[] }, { accessFlags := 1, nameIndex := 30, descriptorIndex := 34, attributes := #[] }, { accessFlags := 1, nameIndex := 11, descriptorIndex := 34, attributes := #[] }, { accessFlags := 1, nameIndex := 37, descriptorIndex := 38, attributes := #[] }, { accessFlags := 1, nameIndex := 43, descriptorIndex := 6, attributes := #[] }, { accessFlags := 2, nameIndex := 33, descriptorIndex := 34, attributes := #[] }] 49 2 #[] #[{ accessFlags := 18, nameIndex := 24, descriptorIndex := 12, attributes := #[] }, { accessFlags := 18, nameIndex := 27, descriptorIndex := 12, attributes := #[] }, { accessFlags := 2, nameIndex := 30, descriptorIndex := 12, attributes := #[] }, { accessFlags := 2, nameIndex := 11, descriptorIndex := 12, attributes := #[] }])
  fields := #[{ name := "players", type := .int, accessFlags := 18, slot := 0, constantValue := 0 }, { name := "start", type := .int, accessFlags := 18, slot := 1, constantValue := 0 }, { name := "current", type := .int, accessFlags := 2, slot := 2, constantValue := 0 }, { name := "round", type := .int, accessFlags := 2, slot := 3, constantValue := 0 }]
  methods := #[k3m0, k3m1, k3m2, k3m3, k3m4, k3m5]
  instanceTypes := #[.int, .int, .int, .int]
  staticTypes := #[]
  resolved := Array.replicate 61 none
  statics := none }

def pool4 : Array CpInfo := pool [(1, u "java/lang/Cloneable"), (0, .class_ 1), (0, u "java/lang/Object"), (0, .class_ 3)] 3

/-- java/lang/Cloneable -/
def k4 : Class := { plain "java/lang/Cloneable" (some 0) with
  accessFlags := 1537
  interfaces := #[]
  cf := some (fileOf pool4 2 #[] #[] 1537 4 #[] #[])
  fields := #[]
  methods := #[]
  instanceTypes := #[]
  staticTypes := #[]
  resolved := Array.replicate 8 none
  statics := none }

def pool5 : Array CpInfo := pool [(1, u "java/io/Serializable"), (0, .class_ 1), (0, u "java/lang/Object"), (0, .class_ 3)] 3

/-- java/io/Serializable -/
def k5 : Class := { plain "java/io/Serializable" (some 0) with
  accessFlags := 1537
  interfaces := #[]
  cf := some (fileOf pool5 2 #[] #[] 1537 4 #[] #[])
  fields := #[]
  methods := #[]
  instanceTypes := #[]
  staticTypes := #[]
  resolved := Array.replicate 8 none
  statics := none }

/-- the primitive byte -/
def k6 : Class := { plain "byte" none with kind := .primitive 'B', accessFlags := 0x411 }
/-- [B -/
def k7 : Class := { plain "[B" (some 0) with kind := .array 6 .byte, interfaces := #[4, 5], accessFlags := 1041 }

/-- the primitive int -/
def k8 : Class := { plain "int" none with kind := .primitive 'I', accessFlags := 0x411 }
/-- [I -/
def k9 : Class := { plain "[I" (some 0) with kind := .array 8 .int, interfaces := #[4, 5], accessFlags := 1041 }

def heap : Heap := #[]
def classes : Array Class := #[k0, k1, k2, k3, k4, k5, k6, k7, k8, k9]
def interned : List (Array UInt16 × Addr) := []
def slotsUsed : Nat := 0
def theMethod : MethodId := ⟨1, 2⟩
def args0 : Array Value := #[.int 5, .int 6, .int 7]
def aboutOver (below : List Frame) : State where
  vm := { classes := classes, interned := interned.toArray }
  heap := heap
  slotsUsed := slotsUsed
  threads := #[{ frames := .invoking theMethod args0 :: below }]
def below0 : List Frame := [.native { method := ⟨0, 0⟩, args := #[] }]
def about1 : State := aboutOver below0
def p0 : Program := .bare "" "" ""
def e0 : Env := launch0.env 0 0 0
theorem w_frames : about1.frames = Frame.invoking theMethod args0 :: below0 := rfl
set_option maxRecDepth 65536 in
theorem w_args : argsFit about1.vm theMethod args0 = true := by decide +kernel
set_option maxRecDepth 65536 in
theorem w_heap : heapFits about1 = true := by decide +kernel
set_option maxRecDepth 65536 in
theorem w_runnable : about1.curStatus? = some .runnable := by decide +kernel
set_option maxRecDepth 65536 in
theorem w_alone : about1.alone = true := by decide +kernel
set_option maxRecDepth 65536 in
theorem w_named : about1.methodNamed? x = some theMethod := by decide +kernel
set_option maxRecDepth 65536 in
theorem w_hears : about1.hears theMethod below0 = true := by decide +kernel
set_option maxRecDepth 65536 in
theorem w_ripe : about1.ripe theMethod args0 below0 = true := by decide +kernel
theorem w_running : about1.status = .running := rfl
set_option maxRecDepth 65536 in
theorem w_room : about1.hasRoom e0.platform room_1 = true :=
  launch0.hasRoom_least _ room_1 (by decide +kernel) (by decide +kernel) (by decide +kernel) (by decide +kernel) (by decide +kernel) (by decide +kernel)
theorem allAtoms_all (ts : List Jvm.Cond) (a : Array Jvm.Value) (st : Jvm.State) : (allAtoms ts).before a st = ts.all (fun c => c.before a st) := by
  induction ts with
  | nil => rfl
  | cons c t ih =>
    show (Jvm.Cond.and c (allAtoms t)).before a st = _
    rw [Jvm.Cond.before_and, ih, List.all_cons]
def words1 : List Jvm.Cond := Jvm.Cond.code x code maxLocals ret :: tables_1
/-- a 'code' word, met by the world's own term for the bytes: nothing is compared byte by byte -/
theorem code_word {y : MethodName} {bytes : ByteArray} {mx : Nat} {rt : Option FieldType} {a : Array Value} {s : State} {m : MethodId} {meth : Method} {c : Code} (h1 : s.methodNamed? y = some m) (h2 : s.vm.method? m = some meth) (h3 : meth.code = some c) (h4 : c.code = bytes)
    (h5 : (c.maxLocals == mx && c.exceptionTable.isEmpty && decide (c.maxStack ≤ mostOperands) && decide (meth.sig.returnType = rt) && !meth.locks && decide (parseMethodDescriptor y.desc = some meth.sig)) = true) : (Jvm.Cond.code y bytes mx rt).before a s = true := by
  simp only [Bool.and_eq_true, beq_iff_eq, Bool.not_eq_true', decide_eq_true_eq] at h5
  obtain ⟨⟨⟨⟨⟨g1, g2⟩, g3⟩, g4⟩, g5⟩, g6⟩ := h5
  simp [Cond.before, Cond.holds, Cond.value, h1, h2, h3, h4, g1, g2, g3, g4, g5, g6]
def isCode : Jvm.Cond → Bool
  | .code _ _ _ _ => true
  | _ => false
theorem all_split {L : List Jvm.Cond} {P : Jvm.Cond → Bool} (h1 : L.all (fun c => isCode c || P c) = true) (h2 : ∀ c ∈ L.filter isCode, P c = true) : L.all P = true := by
  refine List.all_eq_true.mpr fun c hc => ?_
  have h := List.all_eq_true.mp h1 c hc
  rcases Bool.eq_false_or_eq_true (isCode c) with hi | hi
  · exact h2 c (List.mem_filter.mpr ⟨hc, hi⟩)
  · simpa [hi] using h
set_option maxRecDepth 65536 in
theorem w_c0 : (Jvm.Cond.code x code maxLocals ret).before args0 about1 = true := code_word (m := ⟨1, 2⟩) (meth := k1m2) (c := k1c2) (by decide +kernel) rfl rfl rfl (by decide +kernel)
set_option maxRecDepth 65536 in
theorem w_c1 : (Jvm.Cond.code ({ cls := "java/lang/Math", name := "max", desc := "(II)I" } : Jvm.MethodName) jdk_29_method_65_code (2 : Nat) (Option.some Jvm.ClassFile.FieldType.int)).before args0 about1 = true := code_word (m := ⟨2, 1⟩) (meth := k2m1) (c := k2c1) (by decide +kernel) rfl rfl rfl (by decide +kernel)
set_option maxRecDepth 65536 in
theorem w_c2 : (Jvm.Cond.code ({ cls := "com/example/tabularium/tabularium/engine/TurnOrder", name := "<init>", desc := "(II)V" } : Jvm.MethodName) prog_5_method_1_code (3 : Nat) (Option.none : Option Jvm.ClassFile.FieldType)).before args0 about1 = true := code_word (m := ⟨3, 0⟩) (meth := k3m0) (c := k3c0) (by decide +kernel) rfl rfl rfl (by decide +kernel)
set_option maxRecDepth 65536 in
theorem w_c3 : (Jvm.Cond.code ({ cls := "java/lang/Object", name := "<init>", desc := "()V" } : Jvm.MethodName) object_method_1_code (1 : Nat) (Option.none : Option Jvm.ClassFile.FieldType)).before args0 about1 = true := code_word (m := ⟨0, 0⟩) (meth := k0m0) (c := k0c0) (by decide +kernel) rfl rfl rfl (by decide +kernel)
set_option maxRecDepth 65536 in
theorem w_c4 : (Jvm.Cond.code ({ cls := "com/example/tabularium/tabularium/engine/TurnOrder", name := "pass", desc := "()V" } : Jvm.MethodName) prog_5_method_6_code (1 : Nat) (Option.none : Option Jvm.ClassFile.FieldType)).before args0 about1 = true := code_word (m := ⟨3, 4⟩) (meth := k3m4) (c := k3c4) (by decide +kernel) rfl rfl rfl (by decide +kernel)
set_option maxRecDepth 65536 in
theorem w_c5 : (Jvm.Cond.code ({ cls := "com/example/tabularium/tabularium/engine/TurnOrder", name := "isLastOfRound", desc := "()Z" } : Jvm.MethodName) prog_5_method_5_code (1 : Nat) (Option.some Jvm.ClassFile.FieldType.boolean)).before args0 about1 = true := code_word (m := ⟨3, 3⟩) (meth := k3m3) (c := k3c3) (by decide +kernel) rfl rfl rfl (by decide +kernel)
set_option maxRecDepth 65536 in
theorem w_c6 : (Jvm.Cond.code ({ cls := "com/example/tabularium/tabularium/engine/TurnOrder", name := "next", desc := "()I" } : Jvm.MethodName) prog_5_method_7_code (1 : Nat) (Option.some Jvm.ClassFile.FieldType.int)).before args0 about1 = true := code_word (m := ⟨3, 5⟩) (meth := k3m5) (c := k3c5) (by decide +kernel) rfl rfl rfl (by decide +kernel)
set_option maxRecDepth 65536 in
theorem w_c7 : (Jvm.Cond.code ({ cls := "com/example/tabularium/tabularium/engine/TurnOrderPassPinLaw", name := "check", desc := "(Lcom/example/tabularium/tabularium/engine/TurnOrder;III)Z" } : Jvm.MethodName) method_2_code (7 : Nat) (Option.some Jvm.ClassFile.FieldType.boolean)).before args0 about1 = true := code_word (m := ⟨1, 1⟩) (meth := k1m1) (c := k1c1) (by decide +kernel) rfl rfl rfl (by decide +kernel)
set_option maxRecDepth 65536 in
theorem w_c8 : (Jvm.Cond.code ({ cls := "com/example/tabularium/tabularium/engine/TurnOrder", name := "current", desc := "()I" } : Jvm.MethodName) prog_5_method_2_code (1 : Nat) (Option.some Jvm.ClassFile.FieldType.int)).before args0 about1 = true := code_word (m := ⟨3, 1⟩) (meth := k3m1) (c := k3c1) (by decide +kernel) rfl rfl rfl (by decide +kernel)
set_option maxRecDepth 65536 in
theorem w_c9 : (Jvm.Cond.code ({ cls := "com/example/tabularium/tabularium/engine/TurnOrder", name := "round", desc := "()I" } : Jvm.MethodName) prog_5_method_4_code (1 : Nat) (Option.some Jvm.ClassFile.FieldType.int)).before args0 about1 = true := code_word (m := ⟨3, 2⟩) (meth := k3m2) (c := k3c2) (by decide +kernel) rfl rfl rfl (by decide +kernel)
def codes1 : List Jvm.Cond := [Jvm.Cond.code x code maxLocals ret, Jvm.Cond.code ({ cls := "java/lang/Math", name := "max", desc := "(II)I" } : Jvm.MethodName) jdk_29_method_65_code (2 : Nat) (Option.some Jvm.ClassFile.FieldType.int), Jvm.Cond.code ({ cls := "com/example/tabularium/tabularium/engine/TurnOrder", name := "<init>", desc := "(II)V" } : Jvm.MethodName) prog_5_method_1_code (3 : Nat) (Option.none : Option Jvm.ClassFile.FieldType), Jvm.Cond.code ({ cls := "java/lang/Object", name := "<init>", desc := "()V" } : Jvm.MethodName) object_method_1_code (1 : Nat) (Option.none : Option Jvm.ClassFile.FieldType), Jvm.Cond.code ({ cls := "com/example/tabularium/tabularium/engine/TurnOrder", name := "pass", desc := "()V" } : Jvm.MethodName) prog_5_method_6_code (1 : Nat) (Option.none : Option Jvm.ClassFile.FieldType), Jvm.Cond.code ({ cls := "com/example/tabularium/tabularium/engine/TurnOrder", name := "isLastOfRound", desc := "()Z" } : Jvm.MethodName) prog_5_method_5_code (1 : Nat) (Option.some Jvm.ClassFile.FieldType.boolean), Jvm.Cond.code ({ cls := "com/example/tabularium/tabularium/engine/TurnOrder", name := "next", desc := "()I" } : Jvm.MethodName) prog_5_method_7_code (1 : Nat) (Option.some Jvm.ClassFile.FieldType.int), Jvm.Cond.code ({ cls := "com/example/tabularium/tabularium/engine/TurnOrderPassPinLaw", name := "check", desc := "(Lcom/example/tabularium/tabularium/engine/TurnOrder;III)Z" } : Jvm.MethodName) method_2_code (7 : Nat) (Option.some Jvm.ClassFile.FieldType.boolean), Jvm.Cond.code ({ cls := "com/example/tabularium/tabularium/engine/TurnOrder", name := "current", desc := "()I" } : Jvm.MethodName) prog_5_method_2_code (1 : Nat) (Option.some Jvm.ClassFile.FieldType.int), Jvm.Cond.code ({ cls := "com/example/tabularium/tabularium/engine/TurnOrder", name := "round", desc := "()I" } : Jvm.MethodName) prog_5_method_4_code (1 : Nat) (Option.some Jvm.ClassFile.FieldType.int)]
set_option maxRecDepth 65536 in
theorem codes_eq : words1.filter isCode = codes1 := rfl
theorem w_codes : ∀ c ∈ words1.filter isCode, c.before args0 about1 = true := by
  rw [codes_eq]
  intro c hc
  simp only [codes1, List.mem_cons, List.not_mem_nil, or_false] at hc
  rcases hc with rfl | rfl | rfl | rfl | rfl | rfl | rfl | rfl | rfl | rfl
  · exact w_c0
  · exact w_c1
  · exact w_c2
  · exact w_c3
  · exact w_c4
  · exact w_c5
  · exact w_c6
  · exact w_c7
  · exact w_c8
  · exact w_c9
set_option maxRecDepth 65536 in
theorem w_t1 : (words1.take 24).all (fun c => isCode c || c.before args0 about1) = true := by decide +kernel
set_option maxRecDepth 65536 in
theorem w_t2 : ((words1.drop 24).take 24).all (fun c => isCode c || c.before args0 about1) = true := by decide +kernel
set_option maxRecDepth 65536 in
theorem w_t3 : ((words1.drop 24).drop 24).all (fun c => isCode c || c.before args0 about1) = true := by decide +kernel
theorem w_tables : (allAtoms (Jvm.Cond.code x code maxLocals ret :: tables_1)).before args0 about1 = true := by
  rw [allAtoms_all]
  show words1.all (fun c => c.before args0 about1) = true
  refine all_split ?_ w_codes
  rw [← List.take_append_drop 24 words1, List.all_append, w_t1, ← List.take_append_drop 24 (words1.drop 24), List.all_append, w_t2, w_t3]
  rfl
set_option maxRecDepth 65536 in
theorem w_case : (Jvm.Cond.and given_1 narrow_1).before args0 about1 = true := by decide +kernel
theorem w_applies : (headSpec (Jvm.Cond.code x code maxLocals ret :: tables_1) room_1).applies x e0.platform about1 = true :=
  (Spec.applies_iff w_frames).mpr ⟨w_running, w_runnable, w_alone, w_named, w_hears, w_ripe, w_room, w_tables⟩
theorem atStart : AtStart classFile x code maxLocals ret World_1 tables_1 room_1 Calls_1 rest_1 Pre_1 launch0 p0 e0 about1 theMethod args0 below0 :=
  ⟨lists_1, trivial, launch0.admits_env _ _ _, launch0.least_env, fairChoices_fair.cas, fairChoices_fair.clock, w_frames, w_args, w_heap, w_applies, trivial, trivial, w_case⟩
end start1
theorem witness_1 : WitnessClaimed_1 := ⟨start1.p0, start1.e0, start1.about1, start1.theMethod, start1.args0, start1.below0, start1.atStart⟩
end Jvm.Pilot.@@N@@
