import JvmDerived
import JvmDerived.Pilot.@@N@@Statement
import JvmDerived.Pilot.@@N@@Code
set_option linter.unusedVariables false
set_option linter.unusedSimpArgs false
namespace Jvm.RoadKit
open Sem ClassFile Op Lib Jvm.Stand Jvm.Free Jvm.LawKit
section New
variable {p : Program} {l : Launch} {e : Env} {R : Room} {s : State} {m : MethodId} {args : Array Value} {below : List Frame} {meth : Method} {c : Code} {T : State} {locs : List Loc} {cells slots : Nat}
theorem retI (X : Stand p l e R s m args below meth c T locs cells slots) (hx : p.tables.exec = Jvm.exec) {pc : Nat} {Ls : Array Slot} {z : Int32} {rest : List Value} (hret : meth.sig.returnType = some .int) (hd : decode c.code pc = .ok (.ireturn, 1)) {fs : List Frame}
    (hl : ∀ (f : JFrame) (acts : List Action), f.method = m → f.locked = none → f.entered = [] → (doReturn e (T.setTop f) acts (some (.int z))).1 = T.setFrames fs) : Steps p.tables e below (T.setTop (mkF m pc Ls (.int z :: rest))) (T.setFrames fs) := by
  have hm' : T.vm.method? m = some meth := X.method'
  have hn : narrow .int (.int z) = .int z := rfl
  show Steps p.tables e below (T.setTop { method := m, pc := pc, locals := Ls, stack := _ :: rest, locked := none }) _
  jvm_step X.here [X.here.top, hx, hd, hm', hret, hn]
  first | (intro acts; rw [hl _ acts rfl rfl rfl]) | rw [hl _ _ rfl rfl rfl]
  exact Steps.refl _
/-- whatever is reached from the one state is reached from the other -/
def Go (p : Program) (e : Env) (below : List Frame) (A B : State) : Prop := ∀ t, Steps p.tables e below B t → Steps p.tables e below A t
end New
end Jvm.RoadKit
namespace Jvm.Pilot.@@N@@
open Jvm Jvm.ClassFile Sem Op Lib Jvm.Free Jvm.Stand Jvm.LawKit Jvm.RoadKit Bundle Jvm.Pilot.@@N@@.Jvm.D
def own_min (a b : Int64) : Int64 := if b < a then b else a
def own_take (b lv lim tk : Int64) : Int32 := if (lim - lv) - tk < b then 0 else 1
def own_taken (b lv lim tk : Int64) : Int64 := if (lim - lv) - tk < b then tk else tk + b
theorem own_take01 (b lv lim tk : Int64) : nar .boolean (own_take b lv lim tk) = own_take b lv lim tk := by
  unfold own_take; split <;> rfl
theorem dprog_170_method_1_code_0 : decode prog_170_method_1_code 0 = .ok (.aload_n 0, 1) := by decide +kernel
theorem dprog_170_method_1_code_1 : decode prog_170_method_1_code 1 = .ok (.invokespecial 1, 3) := by decide +kernel
theorem dprog_170_method_1_code_4 : decode prog_170_method_1_code 4 = .ok (.aload_n 0, 1) := by decide +kernel
theorem dprog_170_method_1_code_5 : decode prog_170_method_1_code 5 = .ok (.lload_n 1, 1) := by decide +kernel
theorem dprog_170_method_1_code_6 : decode prog_170_method_1_code 6 = .ok (.putfield 7, 3) := by decide +kernel
theorem dprog_170_method_1_code_9 : decode prog_170_method_1_code 9 = .ok (.return_, 1) := by decide +kernel
theorem ef_rmN (m : MethodId) (x0 : Addr) (x1 : Int64) : entryFrame m #[(.ref x0), (.long x1)] 3 = mkF m 0 #[.val (.ref x0), .val (.long x1), .second] [] := by first | (simp [entryFrame, mkF, argsToLocals, Value.category]; done) | rfl
def QN (Z : State) (a1 : Addr) (q2 : Int64) (h0 : Heap) (n0 : Nat) (v : Option Value) (h : Heap) (L : List Loc) : Prop := v = none ∧ Fr n0 L ∧ Keep h0 h [a1] ∧ Fld Z h a1 "com/example/wasserstand/wasserstand/network/MemoryPool" "limit" "J" (.long q2) ∧ Fld Z h a1 "com/example/wasserstand/wasserstand/network/MemoryPool" "taken" "J" (.long (0 : Int64))
theorem pn_0 : plainName "com/example/wasserstand/wasserstand/network/MemoryPool" = true := by first | (simp [plainName, overriddenIn]; done) | decide +kernel
set_option maxRecDepth 65536 in
set_option maxHeartbeats 40000000 in
theorem rmN (l : Launch) (Z : State) (a0 : Array Value) (hw : ∀ d ∈ tables_1, d.before a0 Z = true) (ws : List Jvm.Cond) (a1 : Addr) (q2 : Int64) (h0 : Heap) (n0 : Nat) (Z0 : n0 ≤ h0.size) (F1 : Fld Z h0 a1 "com/example/wasserstand/wasserstand/network/MemoryPool" "limit" "J" (.long (0 : Int64))) (F2 : Fld Z h0 a1 "com/example/wasserstand/wasserstand/network/MemoryPool" "taken" "J" (.long (0 : Int64))) (E1 : Exa Z h0 a1 "com/example/wasserstand/wasserstand/network/MemoryPool") (g1 : n0 ≤ a1) :
    MetFree l (⟨"com/example/wasserstand/wasserstand/network/MemoryPool", "<init>", "(J)V"⟩ : MethodName) (head1 (Jvm.Cond.code (⟨"com/example/wasserstand/wasserstand/network/MemoryPool", "<init>", "(J)V"⟩ : MethodName) prog_170_method_1_code 3 none :: ws) ({ frames := 1, cells := 0, slots := 0, locals := 12 } : Room)) (fun a U => a = #[(.ref a1), (.long q2)] ∧ Z.Warmed39 U.vm ∧ U.heap = h0) (fun _ _ _ _ _ => True) (fun _ U o U' => ∃ v L, o = .returned v ∧ QN Z a1 q2 h0 n0 v U'.heap L ∧ FrameEnd U o U' L ({ frames := 1, cells := 0, slots := 0, locals := 12 } : Room).cells ({ frames := 1, cells := 0, slots := 0, locals := 12 } : Room).slots) := by
  refine MetFree.of_bodySF (plainFor_of_name pn_0) hisR ?_
  intro p e s m args below meth c s₁ Bd hml0 hP hK
  obtain ⟨rfl, hZ, hh⟩ := hP
  have hx := Bd.exec
  have hby := Bd.bytes
  have hml : c.maxLocals = 3 := hml0
  have hown : s.vm.findClass "com/example/wasserstand/wasserstand/network/MemoryPool" = some m.cls := findClass_of_methodNamed Bd.named
  have hnm := (name_of_methodNamed Bd.named Bd.method).1
  have X0 : Stand p l e ({ frames := 1, cells := 0, slots := 0, locals := 12 } : Room) s m #[(.ref a1), (.long q2)] below meth c s₁ [] 0 0 := Stand.of_body Bd
  have e0 : s₁.heap = h0 := by rw [← hh, Bd.state]; rfl
  have N0 := Fr.nil n0
  have k0 : Go p e below (s₁.setTop (entryFrame m #[(.ref a1), (.long q2)] 3)) (s₁.setTop (mkF m 0 #[.val (.ref a1), .val (.long q2), .second] [])) := fun t k => castTop (ef_rmN m a1 q2) k
  have k1 : Go p e below (s₁.setTop (entryFrame m #[(.ref a1), (.long q2)] 3)) (s₁.setTop (mkF m 1 #[.val (.ref a1), .val (.long q2), .second] [(.ref a1)])) := fun t kk => k0 t (by
    show Steps p.tables e below (s₁.setTop (mkF m 0 #[.val (.ref a1), .val (.long q2), .second] [])) _
    refine XS.aloadN X0.here hx rfl (hb hby dprog_170_method_1_code_0) rfl rfl ?_
    exact kk)
  obtain ⟨T2, X2, e2, st2⟩ := initO X0 hx hZ hown (hw _ (List.mem_of_getElem? (i := 7) rfl)) (hw _ (List.mem_of_getElem? (i := 8) rfl)) (hw _ (List.mem_of_getElem? (i := 9) rfl)) e0 (g := (mkF m 1 #[.val (.ref a1), .val (.long q2), .second] [(.ref a1)])) rfl (by rw [hml]; rfl) rfl (hb hby dprog_170_method_1_code_1) (by decide) (W := 0) (by show 2 * 0 + _ ≤ _; exact Nat.le_of_eq rfl) (by decide)
  have k2 : Go p e below (s₁.setTop (entryFrame m #[(.ref a1), (.long q2)] 3)) (T2.setTop (mkF m 4 #[.val (.ref a1), .val (.long q2), .second] [])) := fun t kk => k1 t (st2 t kk)
  have k3 : Go p e below (s₁.setTop (entryFrame m #[(.ref a1), (.long q2)] 3)) (T2.setTop (mkF m 6 #[.val (.ref a1), .val (.long q2), .second] [(.long q2), (.ref a1)])) := fun t kk => k2 t (by
    show Steps p.tables e below (T2.setTop (mkF m 4 #[.val (.ref a1), .val (.long q2), .second] [])) _
    refine XS.aloadN X2.here hx rfl (hb hby dprog_170_method_1_code_4) rfl rfl ?_
    show Steps p.tables e below (T2.setTop (mkF m 5 #[.val (.ref a1), .val (.long q2), .second] [(.ref a1)])) _
    refine XS.lloadN X2.here hx rfl (hb hby dprog_170_method_1_code_5) rfl ?_
    exact kk)
  obtain ⟨T4, h4, X4, e4, W4, st4⟩ := putF X2 hx hZ hown (host := "") (Or.inl (hw _ (List.mem_of_getElem? (i := 10) rfl))) Via.refl e2 F1 E1 (Or.inr ⟨(hw _ (List.mem_of_getElem? (i := 11) rfl)), rfl, hnm⟩) (hw _ (List.mem_of_getElem? (i := 2) rfl)) (ty := .long) (by decide) rfl rfl (g := (mkF m 6 #[.val (.ref a1), .val (.long q2), .second] [(.long q2), (.ref a1)])) rfl rfl (hb hby dprog_170_method_1_code_6)
  have N4 := Fr.snoc X4 N0 g1
  have f5 := F1.same W4
  have f6 := F2.other W4 (Or.inr (slot_ne (Or.inl (hw _ (List.mem_of_getElem? (i := 18) rfl))) (Or.inr (hw _ (List.mem_of_getElem? (i := 11) rfl))) (by decide) (t := .long) (t' := .long) (by decide) (by decide)))
  have f7 := E1.wr W4
  have K4 := ((Keep.refl h0 [a1])).wr W4 (Or.inl (List.mem_of_getElem? (i := 0) rfl))
  have Zs4 : n0 ≤ h4.size := Nat.le_trans Z0 (Keep.of_wr W4).1
  have k4 : Go p e below (s₁.setTop (entryFrame m #[(.ref a1), (.long q2)] 3)) (T4.setTop (mkF m 9 #[.val (.ref a1), .val (.long q2), .second] [])) := fun t kk => k3 t (st4 t kk)
  obtain ⟨fs, hr, hrun, hended, hW, hsame⟩ := X4.leave (v := none) (fun _ => rfl)
  refine ⟨_, _, k4 _ ?_, hrun, hended, _, _, rfl, ?_, ⟨_, rfl⟩, hW, hsame.mono (by decide) (by decide)⟩
  · show Steps p.tables e below (T4.setTop (mkF m 9 #[.val (.ref a1), .val (.long q2), .second] [])) _
    exact X4.returnOut hx Bd.returns (hb hby dprog_170_method_1_code_9) hr
  · show QN Z a1 q2 h0 n0 _ T4.heap _
    rw [e4]
    exact ⟨rfl, N4, K4, f5, f6⟩
theorem dprog_170_method_4_code_0 : decode prog_170_method_4_code 0 = .ok (.lload_n 1, 1) := by decide +kernel
theorem dprog_170_method_4_code_1 : decode prog_170_method_4_code 1 = .ok (.aload_n 0, 1) := by decide +kernel
theorem dprog_170_method_4_code_2 : decode prog_170_method_4_code 2 = .ok (.getfield 7, 3) := by decide +kernel
theorem dprog_170_method_4_code_5 : decode prog_170_method_4_code 5 = .ok (.lload_n 3, 1) := by decide +kernel
theorem dprog_170_method_4_code_6 : decode prog_170_method_4_code 6 = .ok (.lsub, 1) := by decide +kernel
theorem dprog_170_method_4_code_7 : decode prog_170_method_4_code 7 = .ok (.aload_n 0, 1) := by decide +kernel
theorem dprog_170_method_4_code_8 : decode prog_170_method_4_code 8 = .ok (.getfield 17, 3) := by decide +kernel
theorem dprog_170_method_4_code_11 : decode prog_170_method_4_code 11 = .ok (.lsub, 1) := by decide +kernel
theorem dprog_170_method_4_code_12 : decode prog_170_method_4_code 12 = .ok (.lcmp, 1) := by decide +kernel
theorem dprog_170_method_4_code_13 : decode prog_170_method_4_code 13 = .ok (.ifCond .le 5, 3) := by decide +kernel
theorem dprog_170_method_4_code_16 : decode prog_170_method_4_code 16 = .ok (.iconst 0, 1) := by decide +kernel
theorem dprog_170_method_4_code_17 : decode prog_170_method_4_code 17 = .ok (.ireturn, 1) := by decide +kernel
theorem dprog_170_method_4_code_18 : decode prog_170_method_4_code 18 = .ok (.aload_n 0, 1) := by decide +kernel
theorem dprog_170_method_4_code_19 : decode prog_170_method_4_code 19 = .ok (.dup, 1) := by decide +kernel
theorem dprog_170_method_4_code_20 : decode prog_170_method_4_code 20 = .ok (.getfield 17, 3) := by decide +kernel
theorem dprog_170_method_4_code_23 : decode prog_170_method_4_code 23 = .ok (.lload_n 1, 1) := by decide +kernel
theorem dprog_170_method_4_code_24 : decode prog_170_method_4_code 24 = .ok (.ladd, 1) := by decide +kernel
theorem dprog_170_method_4_code_25 : decode prog_170_method_4_code 25 = .ok (.putfield 17, 3) := by decide +kernel
theorem dprog_170_method_4_code_28 : decode prog_170_method_4_code 28 = .ok (.iconst 1, 1) := by decide +kernel
theorem dprog_170_method_4_code_29 : decode prog_170_method_4_code 29 = .ok (.ireturn, 1) := by decide +kernel
theorem ef_rmT (m : MethodId) (x0 : Addr) (x1 : Int64) (x2 : Int64) : entryFrame m #[(.ref x0), (.long x1), (.long x2)] 5 = mkF m 0 #[.val (.ref x0), .val (.long x1), .second, .val (.long x2), .second] [] := by first | (simp [entryFrame, mkF, argsToLocals, Value.category]; done) | rfl
def QT (Z : State) (a1 : Addr) (q2 : Int64) (q3 : Int64) (q4 : Int64) (q5 : Int64) (h0 : Heap) (n0 : Nat) (v : Option Value) (h : Heap) (L : List Loc) : Prop := v = some (.int (own_take q2 q3 q4 q5)) ∧ Fr n0 L ∧ Keep h0 h [a1] ∧ Fld Z h a1 "com/example/wasserstand/wasserstand/network/MemoryPool" "limit" "J" (.long q4) ∧ Fld Z h a1 "com/example/wasserstand/wasserstand/network/MemoryPool" "taken" "J" (.long (own_taken q2 q3 q4 q5))
set_option maxRecDepth 65536 in
set_option maxHeartbeats 40000000 in
theorem rmT (l : Launch) (Z : State) (a0 : Array Value) (hw : ∀ d ∈ tables_1, d.before a0 Z = true) (ws : List Jvm.Cond) (a1 : Addr) (q2 : Int64) (q3 : Int64) (q4 : Int64) (q5 : Int64) (h0 : Heap) (n0 : Nat) (Z0 : n0 ≤ h0.size) (F1 : Fld Z h0 a1 "com/example/wasserstand/wasserstand/network/MemoryPool" "limit" "J" (.long q4)) (F2 : Fld Z h0 a1 "com/example/wasserstand/wasserstand/network/MemoryPool" "taken" "J" (.long q5)) (E1 : Exa Z h0 a1 "com/example/wasserstand/wasserstand/network/MemoryPool") (g1 : n0 ≤ a1) :
    MetFree l (⟨"com/example/wasserstand/wasserstand/network/MemoryPool", "take", "(JJ)Z"⟩ : MethodName) (head1 (Jvm.Cond.code (⟨"com/example/wasserstand/wasserstand/network/MemoryPool", "take", "(JJ)Z"⟩ : MethodName) prog_170_method_4_code 5 (some .boolean) :: ws) ({ frames := 0, cells := 0, slots := 0, locals := 0 } : Room)) (fun a U => a = #[(.ref a1), (.long q2), (.long q3)] ∧ Z.Warmed39 U.vm ∧ U.heap = h0) (fun _ _ _ _ _ => True) (fun _ U o U' => ∃ v L, o = .returned v ∧ QT Z a1 q2 q3 q4 q5 h0 n0 v U'.heap L ∧ FrameEnd U o U' L ({ frames := 0, cells := 0, slots := 0, locals := 0 } : Room).cells ({ frames := 0, cells := 0, slots := 0, locals := 0 } : Room).slots) := by
  refine MetFree.of_bodySF (plainFor_of_name pn_0) hisR ?_
  intro p e s m args below meth c s₁ Bd hml0 hP hK
  obtain ⟨rfl, hZ, hh⟩ := hP
  have hx := Bd.exec
  have hby := Bd.bytes
  have hml : c.maxLocals = 5 := hml0
  have hown : s.vm.findClass "com/example/wasserstand/wasserstand/network/MemoryPool" = some m.cls := findClass_of_methodNamed Bd.named
  have hnm := (name_of_methodNamed Bd.named Bd.method).1
  have X0 : Stand p l e ({ frames := 0, cells := 0, slots := 0, locals := 0 } : Room) s m #[(.ref a1), (.long q2), (.long q3)] below meth c s₁ [] 0 0 := Stand.of_body Bd
  have e0 : s₁.heap = h0 := by rw [← hh, Bd.state]; rfl
  have N0 := Fr.nil n0
  have k0 : Go p e below (s₁.setTop (entryFrame m #[(.ref a1), (.long q2), (.long q3)] 5)) (s₁.setTop (mkF m 0 #[.val (.ref a1), .val (.long q2), .second, .val (.long q3), .second] [])) := fun t k => castTop (ef_rmT m a1 q2 q3) k
  have k1 : Go p e below (s₁.setTop (entryFrame m #[(.ref a1), (.long q2), (.long q3)] 5)) (s₁.setTop (mkF m 2 #[.val (.ref a1), .val (.long q2), .second, .val (.long q3), .second] [(.ref a1), (.long q2)])) := fun t kk => k0 t (by
    show Steps p.tables e below (s₁.setTop (mkF m 0 #[.val (.ref a1), .val (.long q2), .second, .val (.long q3), .second] [])) _
    refine XS.lloadN X0.here hx rfl (hb hby dprog_170_method_4_code_0) rfl ?_
    show Steps p.tables e below (s₁.setTop (mkF m 1 #[.val (.ref a1), .val (.long q2), .second, .val (.long q3), .second] [(.long q2)])) _
    refine XS.aloadN X0.here hx rfl (hb hby dprog_170_method_4_code_1) rfl rfl ?_
    exact kk)
  obtain ⟨T2, X2, e2, st2⟩ := getF X0 hx hZ hown (host := "") (Or.inl (hw _ (List.mem_of_getElem? (i := 10) rfl))) Via.refl e0 F1 (g := (mkF m 2 #[.val (.ref a1), .val (.long q2), .second, .val (.long q3), .second] [(.ref a1), (.long q2)])) rfl rfl (hb hby dprog_170_method_4_code_2)
  have k2 : Go p e below (s₁.setTop (entryFrame m #[(.ref a1), (.long q2), (.long q3)] 5)) (T2.setTop (mkF m 5 #[.val (.ref a1), .val (.long q2), .second, .val (.long q3), .second] [(.long q4), (.long q2)])) := fun t kk => k1 t (st2 t kk)
  have k3 : Go p e below (s₁.setTop (entryFrame m #[(.ref a1), (.long q2), (.long q3)] 5)) (T2.setTop (mkF m 8 #[.val (.ref a1), .val (.long q2), .second, .val (.long q3), .second] [(.ref a1), (.long (q4 - q3)), (.long q2)])) := fun t kk => k2 t (by
    show Steps p.tables e below (T2.setTop (mkF m 5 #[.val (.ref a1), .val (.long q2), .second, .val (.long q3), .second] [(.long q4), (.long q2)])) _
    refine XS.lloadN X2.here hx rfl (hb hby dprog_170_method_4_code_5) rfl ?_
    show Steps p.tables e below (T2.setTop (mkF m 6 #[.val (.ref a1), .val (.long q2), .second, .val (.long q3), .second] [(.long q3), (.long q4), (.long q2)])) _
    refine XS.lsub X2.here hx rfl (hb hby dprog_170_method_4_code_6) rfl ?_
    show Steps p.tables e below (T2.setTop (mkF m 7 #[.val (.ref a1), .val (.long q2), .second, .val (.long q3), .second] [(.long (q4 - q3)), (.long q2)])) _
    refine XS.aloadN X2.here hx rfl (hb hby dprog_170_method_4_code_7) rfl rfl ?_
    exact kk)
  obtain ⟨T4, X4, e4, st4⟩ := getF X2 hx hZ hown (host := "") (Or.inl (hw _ (List.mem_of_getElem? (i := 17) rfl))) Via.refl e2 F2 (g := (mkF m 8 #[.val (.ref a1), .val (.long q2), .second, .val (.long q3), .second] [(.ref a1), (.long (q4 - q3)), (.long q2)])) rfl rfl (hb hby dprog_170_method_4_code_8)
  have k4 : Go p e below (s₁.setTop (entryFrame m #[(.ref a1), (.long q2), (.long q3)] 5)) (T4.setTop (mkF m 11 #[.val (.ref a1), .val (.long q2), .second, .val (.long q3), .second] [(.long q5), (.long (q4 - q3)), (.long q2)])) := fun t kk => k3 t (st4 t kk)
  have k6 : Go p e below (s₁.setTop (entryFrame m #[(.ref a1), (.long q2), (.long q3)] 5)) (T4.setTop (mkF m 13 #[.val (.ref a1), .val (.long q2), .second, .val (.long q3), .second] [(.int (lcmpW q2 ((q4 - q3) - q5)))])) := fun t kk => k4 t (by
    show Steps p.tables e below (T4.setTop (mkF m 11 #[.val (.ref a1), .val (.long q2), .second, .val (.long q3), .second] [(.long q5), (.long (q4 - q3)), (.long q2)])) _
    refine XS.lsub X4.here hx rfl (hb hby dprog_170_method_4_code_11) rfl ?_
    show Steps p.tables e below (T4.setTop (mkF m 12 #[.val (.ref a1), .val (.long q2), .second, .val (.long q3), .second] [(.long ((q4 - q3) - q5)), (.long q2)])) _
    refine XS.lcmp X4.here hx rfl (hb hby dprog_170_method_4_code_12) rfl ?_
    exact kk)
  by_cases hc13_5 : ((q4 - q3) - q5) < q2
  · have k8 : Go p e below (s₁.setTop (entryFrame m #[(.ref a1), (.long q2), (.long q3)] 5)) (T4.setTop (mkF m 17 #[.val (.ref a1), .val (.long q2), .second, .val (.long q3), .second] [(.int (0 : Int32))])) := fun t kk => k6 t (by
      show Steps p.tables e below (T4.setTop (mkF m 13 #[.val (.ref a1), .val (.long q2), .second, .val (.long q3), .second] [(.int (lcmpW q2 ((q4 - q3) - q5)))])) _
      refine XS.ifNo X4.here hx rfl (hb hby dprog_170_method_4_code_13) rfl ((if0 _ _).trans (tlt ((lw_gt _ _).mpr hc13_5)).2.2.2) ?_
      show Steps p.tables e below (T4.setTop (mkF m 16 #[.val (.ref a1), .val (.long q2), .second, .val (.long q3), .second] [])) _
      refine XS.iconst X4.here hx rfl (hb hby dprog_170_method_4_code_16) ?_
      exact kk)
    have ta7 : own_taken q2 q3 q4 q5 = q5 := by simp [own_taken, hc13_5]
    obtain ⟨fs, hr, hrun, hended, hW, hsame⟩ := X4.leave (v := some (.int (0 : Int32))) (fun h => by rw [Bd.returns] at h; cases h)
    refine ⟨_, _, k8 _ ?_, hrun, hended, _, _, rfl, ?_, ⟨_, rfl⟩, hW, hsame.mono (by decide) (by decide)⟩
    · show Steps p.tables e below (T4.setTop (mkF m 17 #[.val (.ref a1), .val (.long q2), .second, .val (.long q3), .second] [(.int (0 : Int32))])) _
      exact retN X4 hx (t := .boolean) Bd.returns (by simp) (hb hby dprog_170_method_4_code_17) hr
    · show QT Z a1 q2 q3 q4 q5 h0 n0 _ T4.heap _
      rw [e4]
      exact ⟨by simp [own_take, hc13_5], N0, (Keep.refl h0 [a1]), F1, (by rw [ta7]; exact F2)⟩
  · have k10 : Go p e below (s₁.setTop (entryFrame m #[(.ref a1), (.long q2), (.long q3)] 5)) (T4.setTop (mkF m 20 #[.val (.ref a1), .val (.long q2), .second, .val (.long q3), .second] [(.ref a1), (.ref a1)])) := fun t kk => k6 t (by
      show Steps p.tables e below (T4.setTop (mkF m 13 #[.val (.ref a1), .val (.long q2), .second, .val (.long q3), .second] [(.int (lcmpW q2 ((q4 - q3) - q5)))])) _
      refine XS.ifYes X4.here hx rfl (pc0 := 13) (pc' := 18) rfl (hb hby dprog_170_method_4_code_13) rfl ((if0 _ _).trans (flt (fun q => hc13_5 ((lw_gt _ _).mp q))).2.2.2) (by decide) (by decide) ?_
      show Steps p.tables e below (T4.setTop (mkF m 18 #[.val (.ref a1), .val (.long q2), .second, .val (.long q3), .second] [])) _
      refine XS.aloadN X4.here hx rfl (hb hby dprog_170_method_4_code_18) rfl rfl ?_
      show Steps p.tables e below (T4.setTop (mkF m 19 #[.val (.ref a1), .val (.long q2), .second, .val (.long q3), .second] [(.ref a1)])) _
      refine XS.dup X4.here hx rfl (hb hby dprog_170_method_4_code_19) rfl rfl ?_
      exact kk)
    obtain ⟨T11, X11, e11, st11⟩ := getF X4 hx hZ hown (host := "") (Or.inl (hw _ (List.mem_of_getElem? (i := 17) rfl))) Via.refl e4 F2 (g := (mkF m 20 #[.val (.ref a1), .val (.long q2), .second, .val (.long q3), .second] [(.ref a1), (.ref a1)])) rfl rfl (hb hby dprog_170_method_4_code_20)
    have k11 : Go p e below (s₁.setTop (entryFrame m #[(.ref a1), (.long q2), (.long q3)] 5)) (T11.setTop (mkF m 23 #[.val (.ref a1), .val (.long q2), .second, .val (.long q3), .second] [(.long q5), (.ref a1)])) := fun t kk => k10 t (st11 t kk)
    have k12 : Go p e below (s₁.setTop (entryFrame m #[(.ref a1), (.long q2), (.long q3)] 5)) (T11.setTop (mkF m 25 #[.val (.ref a1), .val (.long q2), .second, .val (.long q3), .second] [(.long (q5 + q2)), (.ref a1)])) := fun t kk => k11 t (by
      show Steps p.tables e below (T11.setTop (mkF m 23 #[.val (.ref a1), .val (.long q2), .second, .val (.long q3), .second] [(.long q5), (.ref a1)])) _
      refine XS.lloadN X11.here hx rfl (hb hby dprog_170_method_4_code_23) rfl ?_
      show Steps p.tables e below (T11.setTop (mkF m 24 #[.val (.ref a1), .val (.long q2), .second, .val (.long q3), .second] [(.long q2), (.long q5), (.ref a1)])) _
      refine XS.ladd X11.here hx rfl (hb hby dprog_170_method_4_code_24) rfl ?_
      exact kk)
    obtain ⟨T13, h13, X13, e13, W13, st13⟩ := putF X11 hx hZ hown (host := "") (Or.inl (hw _ (List.mem_of_getElem? (i := 17) rfl))) Via.refl e11 F2 E1 (Or.inl (hw _ (List.mem_of_getElem? (i := 18) rfl))) (hw _ (List.mem_of_getElem? (i := 2) rfl)) (ty := .long) (by decide) rfl rfl (g := (mkF m 25 #[.val (.ref a1), .val (.long q2), .second, .val (.long q3), .second] [(.long (q5 + q2)), (.ref a1)])) rfl rfl (hb hby dprog_170_method_4_code_25)
    have N13 := Fr.snoc X13 N0 g1
    have f14 := F1.other W13 (Or.inr (slot_ne (Or.inr (hw _ (List.mem_of_getElem? (i := 11) rfl))) (Or.inl (hw _ (List.mem_of_getElem? (i := 18) rfl))) (by decide) (t := .long) (t' := .long) (by decide) (by decide)))
    have f15 := F2.same W13
    have f16 := E1.wr W13
    have K13 := ((Keep.refl h0 [a1])).wr W13 (Or.inl (List.mem_of_getElem? (i := 0) rfl))
    have Zs13 : n0 ≤ h13.size := Nat.le_trans Z0 (Keep.of_wr W13).1
    have k13 : Go p e below (s₁.setTop (entryFrame m #[(.ref a1), (.long q2), (.long q3)] 5)) (T13.setTop (mkF m 28 #[.val (.ref a1), .val (.long q2), .second, .val (.long q3), .second] [])) := fun t kk => k12 t (st13 t kk)
    have k18 : Go p e below (s₁.setTop (entryFrame m #[(.ref a1), (.long q2), (.long q3)] 5)) (T13.setTop (mkF m 29 #[.val (.ref a1), .val (.long q2), .second, .val (.long q3), .second] [(.int (1 : Int32))])) := fun t kk => k13 t (by
      show Steps p.tables e below (T13.setTop (mkF m 28 #[.val (.ref a1), .val (.long q2), .second, .val (.long q3), .second] [])) _
      refine XS.iconst X13.here hx rfl (hb hby dprog_170_method_4_code_28) ?_
      exact kk)
    have ta17 : own_taken q2 q3 q4 q5 = (q5 + q2) := by simp [own_taken, hc13_5]
    obtain ⟨fs, hr, hrun, hended, hW, hsame⟩ := X13.leave (v := some (.int (1 : Int32))) (fun h => by rw [Bd.returns] at h; cases h)
    refine ⟨_, _, k18 _ ?_, hrun, hended, _, _, rfl, ?_, ⟨_, rfl⟩, hW, hsame.mono (by decide) (by decide)⟩
    · show Steps p.tables e below (T13.setTop (mkF m 29 #[.val (.ref a1), .val (.long q2), .second, .val (.long q3), .second] [(.int (1 : Int32))])) _
      exact retN X13 hx (t := .boolean) Bd.returns (by simp) (hb hby dprog_170_method_4_code_29) hr
    · show QT Z a1 q2 q3 q4 q5 h0 n0 _ T13.heap _
      rw [e13]
      exact ⟨by simp [own_take, hc13_5], N13, K13, f14, (by rw [ta17]; exact f15)⟩
theorem dprog_170_method_5_code_0 : decode prog_170_method_5_code 0 = .ok (.aload_n 0, 1) := by decide +kernel
theorem dprog_170_method_5_code_1 : decode prog_170_method_5_code 1 = .ok (.getfield 7, 3) := by decide +kernel
theorem dprog_170_method_5_code_4 : decode prog_170_method_5_code 4 = .ok (.aload_n 0, 1) := by decide +kernel
theorem dprog_170_method_5_code_5 : decode prog_170_method_5_code 5 = .ok (.getfield 17, 3) := by decide +kernel
theorem dprog_170_method_5_code_8 : decode prog_170_method_5_code 8 = .ok (.lsub, 1) := by decide +kernel
theorem dprog_170_method_5_code_9 : decode prog_170_method_5_code 9 = .ok (.lreturn, 1) := by decide +kernel
theorem ef_rmL (m : MethodId) (x0 : Addr) : entryFrame m #[(.ref x0)] 1 = mkF m 0 #[.val (.ref x0)] [] := by first | (simp [entryFrame, mkF, argsToLocals, Value.category]; done) | rfl
def QL (Z : State) (a1 : Addr) (q4 : Int64) (q5 : Int64) (h0 : Heap) (n0 : Nat) (v : Option Value) (h : Heap) (L : List Loc) : Prop := v = some (.long (q4 - q5)) ∧ L = [] ∧ h = h0
set_option maxRecDepth 65536 in
set_option maxHeartbeats 40000000 in
theorem rmL (l : Launch) (Z : State) (a0 : Array Value) (hw : ∀ d ∈ tables_1, d.before a0 Z = true) (ws : List Jvm.Cond) (a1 : Addr) (q4 : Int64) (q5 : Int64) (h0 : Heap) (n0 : Nat) (Z0 : n0 ≤ h0.size) (F1 : Fld Z h0 a1 "com/example/wasserstand/wasserstand/network/MemoryPool" "limit" "J" (.long q4)) (F2 : Fld Z h0 a1 "com/example/wasserstand/wasserstand/network/MemoryPool" "taken" "J" (.long q5)) :
    MetFree l (⟨"com/example/wasserstand/wasserstand/network/MemoryPool", "left", "()J"⟩ : MethodName) (head1 (Jvm.Cond.code (⟨"com/example/wasserstand/wasserstand/network/MemoryPool", "left", "()J"⟩ : MethodName) prog_170_method_5_code 1 (some .long) :: ws) ({ frames := 0, cells := 0, slots := 0, locals := 0 } : Room)) (fun a U => a = #[(.ref a1)] ∧ Z.Warmed39 U.vm ∧ U.heap = h0) (fun _ _ _ _ _ => True) (fun _ U o U' => ∃ v L, o = .returned v ∧ QL Z a1 q4 q5 h0 n0 v U'.heap L ∧ FrameEnd U o U' L ({ frames := 0, cells := 0, slots := 0, locals := 0 } : Room).cells ({ frames := 0, cells := 0, slots := 0, locals := 0 } : Room).slots) := by
  refine MetFree.of_bodySF (plainFor_of_name pn_0) hisR ?_
  intro p e s m args below meth c s₁ Bd hml0 hP hK
  obtain ⟨rfl, hZ, hh⟩ := hP
  have hx := Bd.exec
  have hby := Bd.bytes
  have hml : c.maxLocals = 1 := hml0
  have hown : s.vm.findClass "com/example/wasserstand/wasserstand/network/MemoryPool" = some m.cls := findClass_of_methodNamed Bd.named
  have hnm := (name_of_methodNamed Bd.named Bd.method).1
  have X0 : Stand p l e ({ frames := 0, cells := 0, slots := 0, locals := 0 } : Room) s m #[(.ref a1)] below meth c s₁ [] 0 0 := Stand.of_body Bd
  have e0 : s₁.heap = h0 := by rw [← hh, Bd.state]; rfl
  have N0 := Fr.nil n0
  have k0 : Go p e below (s₁.setTop (entryFrame m #[(.ref a1)] 1)) (s₁.setTop (mkF m 0 #[.val (.ref a1)] [])) := fun t k => castTop (ef_rmL m a1) k
  have k1 : Go p e below (s₁.setTop (entryFrame m #[(.ref a1)] 1)) (s₁.setTop (mkF m 1 #[.val (.ref a1)] [(.ref a1)])) := fun t kk => k0 t (by
    show Steps p.tables e below (s₁.setTop (mkF m 0 #[.val (.ref a1)] [])) _
    refine XS.aloadN X0.here hx rfl (hb hby dprog_170_method_5_code_0) rfl rfl ?_
    exact kk)
  obtain ⟨T2, X2, e2, st2⟩ := getF X0 hx hZ hown (host := "") (Or.inl (hw _ (List.mem_of_getElem? (i := 10) rfl))) Via.refl e0 F1 (g := (mkF m 1 #[.val (.ref a1)] [(.ref a1)])) rfl rfl (hb hby dprog_170_method_5_code_1)
  have k2 : Go p e below (s₁.setTop (entryFrame m #[(.ref a1)] 1)) (T2.setTop (mkF m 4 #[.val (.ref a1)] [(.long q4)])) := fun t kk => k1 t (st2 t kk)
  have k3 : Go p e below (s₁.setTop (entryFrame m #[(.ref a1)] 1)) (T2.setTop (mkF m 5 #[.val (.ref a1)] [(.ref a1), (.long q4)])) := fun t kk => k2 t (by
    show Steps p.tables e below (T2.setTop (mkF m 4 #[.val (.ref a1)] [(.long q4)])) _
    refine XS.aloadN X2.here hx rfl (hb hby dprog_170_method_5_code_4) rfl rfl ?_
    exact kk)
  obtain ⟨T4, X4, e4, st4⟩ := getF X2 hx hZ hown (host := "") (Or.inl (hw _ (List.mem_of_getElem? (i := 17) rfl))) Via.refl e2 F2 (g := (mkF m 5 #[.val (.ref a1)] [(.ref a1), (.long q4)])) rfl rfl (hb hby dprog_170_method_5_code_5)
  have k4 : Go p e below (s₁.setTop (entryFrame m #[(.ref a1)] 1)) (T4.setTop (mkF m 8 #[.val (.ref a1)] [(.long q5), (.long q4)])) := fun t kk => k3 t (st4 t kk)
  have k5 : Go p e below (s₁.setTop (entryFrame m #[(.ref a1)] 1)) (T4.setTop (mkF m 9 #[.val (.ref a1)] [(.long (q4 - q5))])) := fun t kk => k4 t (by
    show Steps p.tables e below (T4.setTop (mkF m 8 #[.val (.ref a1)] [(.long q5), (.long q4)])) _
    refine XS.lsub X4.here hx rfl (hb hby dprog_170_method_5_code_8) rfl ?_
    exact kk)
  obtain ⟨fs, hr, hrun, hended, hW, hsame⟩ := X4.leave (v := some (.long (q4 - q5))) (fun h => by rw [Bd.returns] at h; cases h)
  refine ⟨_, _, k5 _ ?_, hrun, hended, _, _, rfl, ?_, ⟨_, rfl⟩, hW, hsame.mono (by decide) (by decide)⟩
  · show Steps p.tables e below (T4.setTop (mkF m 9 #[.val (.ref a1)] [(.long (q4 - q5))])) _
    jvm_step X4.here [X4.here.top, hx, (hb hby dprog_170_method_5_code_9), X4.method', Bd.returns, narrow]
    first | (intro acts; rw [hr _ acts rfl rfl rfl]) | rw [hr _ _ rfl rfl rfl]
    exact Steps.refl _
  · show QL Z a1 q4 q5 h0 n0 _ T4.heap _
    rw [e4]
    exact ⟨rfl, rfl, rfl⟩
theorem djdk_29_method_70_code_0 : decode jdk_29_method_70_code 0 = .ok (.lload_n 0, 1) := by decide +kernel
theorem djdk_29_method_70_code_1 : decode jdk_29_method_70_code 1 = .ok (.lload_n 2, 1) := by decide +kernel
theorem djdk_29_method_70_code_2 : decode jdk_29_method_70_code 2 = .ok (.lcmp, 1) := by decide +kernel
theorem djdk_29_method_70_code_3 : decode jdk_29_method_70_code 3 = .ok (.ifCond .gt 7, 3) := by decide +kernel
theorem djdk_29_method_70_code_10 : decode jdk_29_method_70_code 10 = .ok (.lload_n 2, 1) := by decide +kernel
theorem djdk_29_method_70_code_6 : decode jdk_29_method_70_code 6 = .ok (.lload_n 0, 1) := by decide +kernel
theorem djdk_29_method_70_code_7 : decode jdk_29_method_70_code 7 = .ok (.goto 4, 3) := by decide +kernel
theorem djdk_29_method_70_code_11 : decode jdk_29_method_70_code 11 = .ok (.lreturn, 1) := by decide +kernel
theorem ef_rmM (m : MethodId) (x0 : Int64) (x1 : Int64) : entryFrame m #[(.long x0), (.long x1)] 4 = mkF m 0 #[.val (.long x0), .second, .val (.long x1), .second] [] := by first | (simp [entryFrame, mkF, argsToLocals, Value.category]; done) | rfl
def QM (Z : State) (q1 : Int64) (q2 : Int64) (h0 : Heap) (n0 : Nat) (v : Option Value) (h : Heap) (L : List Loc) : Prop := v = some (.long (own_min q1 q2)) ∧ L = [] ∧ h = h0
set_option maxRecDepth 65536 in
set_option maxHeartbeats 40000000 in
theorem rmM (l : Launch) (Z : State) (a0 : Array Value) (hw : ∀ d ∈ tables_1, d.before a0 Z = true) (ws : List Jvm.Cond) (q1 : Int64) (q2 : Int64) (h0 : Heap) (n0 : Nat) (Z0 : n0 ≤ h0.size) :
    MetFree l (⟨"java/lang/Math", "min", "(JJ)J"⟩ : MethodName) (head1 (Jvm.Cond.code (⟨"java/lang/Math", "min", "(JJ)J"⟩ : MethodName) jdk_29_method_70_code 4 (some .long) :: ws) ({ frames := 0, cells := 0, slots := 0, locals := 0 } : Room)) (fun a U => a = #[(.long q1), (.long q2)] ∧ Z.Warmed39 U.vm ∧ U.heap = h0) (fun _ _ _ _ _ => True) (fun _ U o U' => ∃ v L, o = .returned v ∧ QM Z q1 q2 h0 n0 v U'.heap L ∧ FrameEnd U o U' L ({ frames := 0, cells := 0, slots := 0, locals := 0 } : Room).cells ({ frames := 0, cells := 0, slots := 0, locals := 0 } : Room).slots) := by
  refine MetFree.of_bodySF (Jvm.Free.JP.mathPlain rfl (by decide +kernel)) hisR ?_
  intro p e s m args below meth c s₁ Bd hml0 hP hK
  obtain ⟨rfl, hZ, hh⟩ := hP
  have hx := Bd.exec
  have hby := Bd.bytes
  have hml : c.maxLocals = 4 := hml0
  have hown : s.vm.findClass "java/lang/Math" = some m.cls := findClass_of_methodNamed Bd.named
  have hnm := (name_of_methodNamed Bd.named Bd.method).1
  have X0 : Stand p l e ({ frames := 0, cells := 0, slots := 0, locals := 0 } : Room) s m #[(.long q1), (.long q2)] below meth c s₁ [] 0 0 := Stand.of_body Bd
  have e0 : s₁.heap = h0 := by rw [← hh, Bd.state]; rfl
  have N0 := Fr.nil n0
  have k0 : Go p e below (s₁.setTop (entryFrame m #[(.long q1), (.long q2)] 4)) (s₁.setTop (mkF m 0 #[.val (.long q1), .second, .val (.long q2), .second] [])) := fun t k => castTop (ef_rmM m q1 q2) k
  obtain ⟨v1, hj1, k1⟩ : ∃ v1 : Int64, (v1 = own_min q1 q2) ∧ Go p e below (s₁.setTop (entryFrame m #[(.long q1), (.long q2)] 4)) (s₁.setTop (mkF m 11 #[.val (.long q1), .second, .val (.long q2), .second] [(.long v1)])) := by
    have k3 : Go p e below (s₁.setTop (entryFrame m #[(.long q1), (.long q2)] 4)) (s₁.setTop (mkF m 3 #[.val (.long q1), .second, .val (.long q2), .second] [(.int (lcmpW q1 q2))])) := fun t kk => k0 t (by
      show Steps p.tables e below (s₁.setTop (mkF m 0 #[.val (.long q1), .second, .val (.long q2), .second] [])) _
      refine XS.lloadN X0.here hx rfl (hb hby djdk_29_method_70_code_0) rfl ?_
      show Steps p.tables e below (s₁.setTop (mkF m 1 #[.val (.long q1), .second, .val (.long q2), .second] [(.long q1)])) _
      refine XS.lloadN X0.here hx rfl (hb hby djdk_29_method_70_code_1) rfl ?_
      show Steps p.tables e below (s₁.setTop (mkF m 2 #[.val (.long q1), .second, .val (.long q2), .second] [(.long q2), (.long q1)])) _
      refine XS.lcmp X0.here hx rfl (hb hby djdk_29_method_70_code_2) rfl ?_
      exact kk)
    by_cases hc3_2 : q2 < q1
    · have k4 : Go p e below (s₁.setTop (entryFrame m #[(.long q1), (.long q2)] 4)) (s₁.setTop (mkF m 11 #[.val (.long q1), .second, .val (.long q2), .second] [(.long q2)])) := fun t kk => k3 t (by
        show Steps p.tables e below (s₁.setTop (mkF m 3 #[.val (.long q1), .second, .val (.long q2), .second] [(.int (lcmpW q1 q2))])) _
        refine XS.ifYes X0.here hx rfl (pc0 := 3) (pc' := 10) rfl (hb hby djdk_29_method_70_code_3) rfl ((if0 _ _).trans (tlt ((lw_gt _ _).mpr hc3_2)).2.2.1) (by decide) (by decide) ?_
        show Steps p.tables e below (s₁.setTop (mkF m 10 #[.val (.long q1), .second, .val (.long q2), .second] [])) _
        refine XS.lloadN X0.here hx rfl (hb hby djdk_29_method_70_code_10) rfl ?_
        exact kk)
      exact ⟨q2, by simp [own_min, hc3_2], k4⟩
    · have k5 : Go p e below (s₁.setTop (entryFrame m #[(.long q1), (.long q2)] 4)) (s₁.setTop (mkF m 11 #[.val (.long q1), .second, .val (.long q2), .second] [(.long q1)])) := fun t kk => k3 t (by
        show Steps p.tables e below (s₁.setTop (mkF m 3 #[.val (.long q1), .second, .val (.long q2), .second] [(.int (lcmpW q1 q2))])) _
        refine XS.ifNo X0.here hx rfl (hb hby djdk_29_method_70_code_3) rfl ((if0 _ _).trans (flt (fun q => hc3_2 ((lw_gt _ _).mp q))).2.2.1) ?_
        show Steps p.tables e below (s₁.setTop (mkF m 6 #[.val (.long q1), .second, .val (.long q2), .second] [])) _
        refine XS.lloadN X0.here hx rfl (hb hby djdk_29_method_70_code_6) rfl ?_
        show Steps p.tables e below (s₁.setTop (mkF m 7 #[.val (.long q1), .second, .val (.long q2), .second] [(.long q1)])) _
        refine XS.goto X0.here hx rfl (pc0 := 7) (pc' := 11) rfl (hb hby djdk_29_method_70_code_7) (by decide) (by decide) ?_
        exact kk)
      exact ⟨q1, by simp [own_min, hc3_2], k5⟩
  subst hj1
  obtain ⟨fs, hr, hrun, hended, hW, hsame⟩ := X0.leave (v := some (.long (own_min q1 q2))) (fun h => by rw [Bd.returns] at h; cases h)
  refine ⟨_, _, k1 _ ?_, hrun, hended, _, _, rfl, ?_, ⟨_, rfl⟩, hW, hsame.mono (by decide) (by decide)⟩
  · show Steps p.tables e below (s₁.setTop (mkF m 11 #[.val (.long q1), .second, .val (.long q2), .second] [(.long (own_min q1 q2))])) _
    jvm_step X0.here [X0.here.top, hx, (hb hby djdk_29_method_70_code_11), X0.method', Bd.returns, narrow]
    first | (intro acts; rw [hr _ acts rfl rfl rfl]) | rw [hr _ _ rfl rfl rfl]
    exact Steps.refl _
  · show QM Z q1 q2 h0 n0 _ s₁.heap _
    rw [e0]
    exact ⟨rfl, rfl, rfl⟩
theorem own_mask (x : Int64) : 0 ≤ (x &&& (9223372036854775807 : Int64)).toInt ∧ (x &&& (9223372036854775807 : Int64)).toInt ≤ 9223372036854775807 := by
  have h0 : (x &&& (9223372036854775807 : Int64)).toInt = x.toInt % (2 ^ 63 : Nat) := c_maskL x 9223372036854775807 63 (by decide) (by decide)
  rw [h0]; omega
theorem own_room {lim lv tk b : Int64} (h1 : 0 ≤ lim.toInt) (h2 : 0 ≤ lv.toInt) (h3 : 0 ≤ tk.toInt) (h4 : tk.toInt ≤ lim.toInt) (h5 : 0 ≤ b.toInt) : ((lim - lv) - tk).toInt = lim.toInt - tk.toInt - lv.toInt ∧ (lim - tk).toInt = lim.toInt - tk.toInt := by
  have a1 := c_lsub lim lv
  have a2 := c_lsub (lim - lv) tk
  have a3 := c_lsub lim tk
  have r1 := rng64 lim
  have r2 := rng64 lv
  have r3 := rng64 tk
  have r4 := rng64 (lim - lv)
  have r5 := rng64 (lim - lv - tk)
  have r6 := rng64 (lim - tk)
  omega
theorem own_t1 {lim va : Int64} (h : lim = 9223372036854775807) (b1 : 0 ≤ lim.toInt ∧ lim.toInt ≤ 9223372036854775807) (b2 : 0 ≤ va.toInt ∧ va.toInt ≤ 9223372036854775807) : 0 ≤ va.toInt ∧ va.toInt ≤ lim.toInt := by
  have : lim.toInt = 9223372036854775807 := by rw [h]; rfl
  omega
theorem own_succ {lim : Int64} (h : ¬ lim = 9223372036854775807) (b1 : 0 ≤ lim.toInt ∧ lim.toInt ≤ 9223372036854775807) : (lim + 1).toInt = lim.toInt + 1 := by
  have a := c_ladd lim 1
  have e : (1 : Int64).toInt = 1 := rfl
  have r := rng64 (lim + 1)
  have : lim.toInt ≠ 9223372036854775807 := fun q => h (Int64.toInt_inj.mp q)
  omega
theorem own_nz {lim : Int64} (h : ¬ lim = 9223372036854775807) (b1 : 0 ≤ lim.toInt ∧ lim.toInt ≤ 9223372036854775807) : lim + 1 ≠ 0 := fun q => by
  have := own_succ h b1
  rw [q] at this
  have e : (0 : Int64).toInt = 0 := rfl
  omega
theorem own_t2 {lim va : Int64} (h : ¬ lim = 9223372036854775807) (b1 : 0 ≤ lim.toInt ∧ lim.toInt ≤ 9223372036854775807) (b2 : 0 ≤ va.toInt ∧ va.toInt ≤ 9223372036854775807) : 0 ≤ (va - (va / (lim + 1)) * (lim + 1)).toInt ∧ (va - (va / (lim + 1)) * (lim + 1)).toInt ≤ lim.toInt := by
  have e := own_succ h b1
  have q := (c_lrem va (lim + 1) (lim.toInt + 1) e).1 b2.1
  rw [q]
  have p1 := Int.emod_nonneg va.toInt (show lim.toInt + 1 ≠ 0 by omega)
  have p2 := Int.emod_lt_of_pos va.toInt (show 0 < lim.toInt + 1 by omega)
  omega
theorem own_ex {rm lv : Int64} (h : ¬ rm < lv) (b4 : 0 ≤ lv.toInt ∧ lv.toInt ≤ 9223372036854775807) : 0 ≤ (rm - lv).toInt ∧ (rm - lv).toInt ≤ 9223372036854775807 := by
  rw [Int64.lt_iff_toInt_lt] at h
  have a := c_lsub rm lv
  have r := rng64 (rm - lv)
  have r2 := rng64 rm
  omega
theorem own_min1 {a : Int64} (h : 0 ≤ a.toInt ∧ a.toInt ≤ 9223372036854775807) : 0 ≤ (own_min a (9223372036854775807 - 1) + 1).toInt := by
  have e1 : (9223372036854775807 - 1 : Int64).toInt = 9223372036854775806 := rfl
  have e2 : (1 : Int64).toInt = 1 := rfl
  unfold own_min
  split
  · decide
  · rename_i q
    rw [Int64.lt_iff_toInt_lt] at q
    have a1 := c_ladd a 1
    have r := rng64 (a + 1)
    omega
theorem pd_0 : parseMethodDescriptor "(JJ)J" = some ⟨[.long, .long], some .long⟩ := by decide +kernel
theorem pd_1 : parseMethodDescriptor "(J)V" = some ⟨[.long], none⟩ := by decide +kernel
theorem pd_2 : parseMethodDescriptor "(JJ)Z" = some ⟨[.long, .long], some .boolean⟩ := by decide +kernel
theorem own_first {lim vt : Int64} (b1 : 0 ≤ lim.toInt ∧ lim.toInt ≤ 9223372036854775807) (b3 : 0 ≤ vt.toInt ∧ vt.toInt ≤ lim.toInt) : own_take vt 0 lim 0 = 1 ∧ own_taken vt 0 lim 0 = vt := by
  have h : ¬ ((lim - 0) - 0 < vt) := by
    rw [Int64.sub_zero, Int64.sub_zero, Int64.lt_iff_toInt_lt]; omega
  unfold own_take own_taken
  rw [if_neg h, if_neg h, Int64.zero_add]
  exact ⟨rfl, rfl⟩
theorem pd_3 : parseMethodDescriptor "()J" = some ⟨[], some .long⟩ := by decide +kernel
def own_expd (b lv rm : Int64) : Int32 := if rm < b then 0 else if rm - b < lv then 0 else 1
def own_left (b lv rm : Int64) : Int64 := if own_expd b lv rm = 0 then rm else rm - b
theorem own_second {lim vt lv vb rm : Int64} (b1 : 0 ≤ lim.toInt ∧ lim.toInt ≤ 9223372036854775807) (b3 : 0 ≤ vt.toInt ∧ vt.toInt ≤ lim.toInt) (b4 : 0 ≤ lv.toInt ∧ lv.toInt ≤ 9223372036854775807) (b6 : 0 ≤ vb.toInt) (hr : rm = lim - vt) :
    own_take vb lv lim vt = own_expd vb lv rm ∧ lim - own_taken vb lv lim vt = own_left vb lv rm := by
  obtain ⟨e1, e2⟩ := own_room (b := vb) b1.1 b4.1 b3.1 b3.2 b6
  rw [← hr] at e2
  have a := c_lsub rm vb
  have r1 := rng64 (rm - vb)
  have r2 := rng64 vb
  have r3 := rng64 rm
  by_cases q : (lim - lv) - vt < vb
  · have q' := q
    rw [Int64.lt_iff_toInt_lt] at q
    have h : own_expd vb lv rm = 0 := by
      unfold own_expd
      by_cases q2 : rm < vb
      · rw [if_pos q2]
      · rw [if_neg q2, if_pos]
        rw [Int64.lt_iff_toInt_lt] at q2 ⊢
        omega
    refine ⟨?_, ?_⟩
    · rw [h]; unfold own_take; rw [if_pos q']
    · unfold own_left own_taken; rw [if_pos h, if_pos q', hr]
  · have q' := q
    rw [Int64.lt_iff_toInt_lt] at q
    have h : own_expd vb lv rm = 1 := by
      unfold own_expd
      rw [if_neg, if_neg]
      · rw [Int64.lt_iff_toInt_lt]; omega
      · rw [Int64.lt_iff_toInt_lt]; omega
    refine ⟨?_, ?_⟩
    · rw [h]; unfold own_take; rw [if_neg q']
    · unfold own_left own_taken
      rw [if_neg (show ¬ own_expd vb lv rm = 0 by rw [h]; decide), if_neg q', hr]
      apply Int64.toInt_inj.mp
      have a1 := c_ladd vt vb
      have a2 := c_lsub lim (vt + vb)
      have a3 := c_lsub (lim - vt) vb
      have r4 := rng64 (vt + vb)
      have r5 := rng64 (lim - (vt + vb))
      have r6 := rng64 (lim - vt - vb)
      rw [hr] at e2
      omega
theorem ef_rm0 (m : MethodId) (x0 : Int64) (x1 : Int64) (x2 : Int64) (x3 : Int64) (x4 : Int32) : entryFrame m #[(.long x0), (.long x1), (.long x2), (.long x3), (.int x4)] maxLocals = mkF m 0 #[.val (.long x0), .second, .val (.long x1), .second, .val (.long x2), .second, .val (.long x3), .second, .val (.int x4), .unset, .unset, .unset, .unset, .unset, .unset, .unset, .unset, .unset, .unset, .unset, .unset, .unset, .unset, .unset, .unset, .unset, .unset, .unset, .unset, .unset, .unset, .unset, .unset] [] := by first | (simp [entryFrame, mkF, argsToLocals, Value.category, maxLocals]; done) | rfl
def Q0 (Z : State) (q1 : Int64) (q2 : Int64) (q3 : Int64) (q4 : Int64) (p5 : Int32) (h0 : Heap) (n0 : Nat) (v : Option Value) (h : Heap) (L : List Loc) : Prop := v = some (.int 1) ∧ Fr n0 L
theorem pn_1 : plainName "com/example/wasserstand/wasserstand/network/MemoryPoolTakePinLaw" = true := by first | (simp [plainName, overriddenIn]; done) | decide +kernel
set_option maxRecDepth 65536 in
set_option maxHeartbeats 40000000 in
theorem rm0 (l : Launch) (Z : State) (a0 : Array Value) (hw : ∀ d ∈ tables_1, d.before a0 Z = true) (ws : List Jvm.Cond) (q1 : Int64) (q2 : Int64) (q3 : Int64) (q4 : Int64) (p5 : Int32) (h0 : Heap) (n0 : Nat) (Z0 : n0 ≤ h0.size) :
    MetFree l x (head1 (Jvm.Cond.code x code maxLocals ret :: ws) room_1) (fun a U => a = #[(.long q1), (.long q2), (.long q3), (.long q4), (.int p5)] ∧ Z.Warmed39 U.vm ∧ U.heap = h0) (fun _ _ _ _ _ => True) (fun _ U o U' => ∃ v L, o = .returned v ∧ Q0 Z q1 q2 q3 q4 p5 h0 n0 v U'.heap L ∧ FrameEnd U o U' L room_1.cells room_1.slots) := by
  refine MetFree.of_bodySF (plainFor_of_name pn_1) hisR ?_
  intro p e s m args below meth c s₁ Bd hml0 hP hK
  obtain ⟨rfl, hZ, hh⟩ := hP
  have hx := Bd.exec
  have hby := Bd.bytes
  have hml : c.maxLocals = 33 := hml0
  have hown : s.vm.findClass "com/example/wasserstand/wasserstand/network/MemoryPoolTakePinLaw" = some m.cls := findClass_of_methodNamed Bd.named
  have hnm := (name_of_methodNamed Bd.named Bd.method).1
  have X0 : Stand p l e room_1 s m #[(.long q1), (.long q2), (.long q3), (.long q4), (.int p5)] below meth c s₁ [] 0 0 := Stand.of_body Bd
  have e0 : s₁.heap = h0 := by rw [← hh, Bd.state]; rfl
  have N0 := Fr.nil n0
  have k0 : Go p e below (s₁.setTop (entryFrame m #[(.long q1), (.long q2), (.long q3), (.long q4), (.int p5)] maxLocals)) (s₁.setTop (mkF m 0 #[.val (.long q1), .second, .val (.long q2), .second, .val (.long q3), .second, .val (.long q4), .second, .val (.int p5), .unset, .unset, .unset, .unset, .unset, .unset, .unset, .unset, .unset, .unset, .unset, .unset, .unset, .unset, .unset, .unset, .unset, .unset, .unset, .unset, .unset, .unset, .unset, .unset] [])) := fun t k => castTop (ef_rm0 m q1 q2 q3 q4 p5) k
  have b1 := own_mask q1
  have b2 := own_mask q2
  have k1 : Go p e below (s₁.setTop (entryFrame m #[(.long q1), (.long q2), (.long q3), (.long q4), (.int p5)] maxLocals)) (s₁.setTop (mkF m 17 #[.val (.long q1), .second, .val (.long q2), .second, .val (.long q3), .second, .val (.long q4), .second, .val (.int p5), .val (.long (9223372036854775807 : Int64)), .second, .val (.long (q1 &&& (9223372036854775807 : Int64))), .second, .val (.long (q2 &&& (9223372036854775807 : Int64))), .second, .unset, .unset, .unset, .unset, .unset, .unset, .unset, .unset, .unset, .unset, .unset, .unset, .unset, .unset, .unset, .unset, .unset, .unset] [])) := fun t kk => k0 t (by
    show Steps p.tables e below (s₁.setTop (mkF m 0 #[.val (.long q1), .second, .val (.long q2), .second, .val (.long q3), .second, .val (.long q4), .second, .val (.int p5), .unset, .unset, .unset, .unset, .unset, .unset, .unset, .unset, .unset, .unset, .unset, .unset, .unset, .unset, .unset, .unset, .unset, .unset, .unset, .unset, .unset, .unset, .unset, .unset] [])) _
    refine X0.ldc2Long hx hown (mvT hZ (hw _ (List.mem_of_getElem? (i := 0) rfl))) (g := (mkF m 0 #[.val (.long q1), .second, .val (.long q2), .second, .val (.long q3), .second, .val (.long q4), .second, .val (.int p5), .unset, .unset, .unset, .unset, .unset, .unset, .unset, .unset, .unset, .unset, .unset, .unset, .unset, .unset, .unset, .unset, .unset, .unset, .unset, .unset, .unset, .unset, .unset, .unset] [])) rfl (hb hby at_0) _ ?_
    show Steps p.tables e below (s₁.setTop (mkF m 3 #[.val (.long q1), .second, .val (.long q2), .second, .val (.long q3), .second, .val (.long q4), .second, .val (.int p5), .unset, .unset, .unset, .unset, .unset, .unset, .unset, .unset, .unset, .unset, .unset, .unset, .unset, .unset, .unset, .unset, .unset, .unset, .unset, .unset, .unset, .unset, .unset, .unset] [(.long (9223372036854775807 : Int64))])) _
    refine XS.lstore X0.here hx rfl (hb hby at_3) rfl (l' := #[.val (.long q1), .second, .val (.long q2), .second, .val (.long q3), .second, .val (.long q4), .second, .val (.int p5), .val (.long (9223372036854775807 : Int64)), .second, .unset, .unset, .unset, .unset, .unset, .unset, .unset, .unset, .unset, .unset, .unset, .unset, .unset, .unset, .unset, .unset, .unset, .unset, .unset, .unset, .unset, .unset]) rfl ?_
    show Steps p.tables e below (s₁.setTop (mkF m 5 #[.val (.long q1), .second, .val (.long q2), .second, .val (.long q3), .second, .val (.long q4), .second, .val (.int p5), .val (.long (9223372036854775807 : Int64)), .second, .unset, .unset, .unset, .unset, .unset, .unset, .unset, .unset, .unset, .unset, .unset, .unset, .unset, .unset, .unset, .unset, .unset, .unset, .unset, .unset, .unset, .unset] [])) _
    refine XS.lloadN X0.here hx rfl (hb hby at_5) rfl ?_
    show Steps p.tables e below (s₁.setTop (mkF m 6 #[.val (.long q1), .second, .val (.long q2), .second, .val (.long q3), .second, .val (.long q4), .second, .val (.int p5), .val (.long (9223372036854775807 : Int64)), .second, .unset, .unset, .unset, .unset, .unset, .unset, .unset, .unset, .unset, .unset, .unset, .unset, .unset, .unset, .unset, .unset, .unset, .unset, .unset, .unset, .unset, .unset] [(.long q1)])) _
    refine XS.lload X0.here hx rfl (hb hby at_6) rfl ?_
    show Steps p.tables e below (s₁.setTop (mkF m 8 #[.val (.long q1), .second, .val (.long q2), .second, .val (.long q3), .second, .val (.long q4), .second, .val (.int p5), .val (.long (9223372036854775807 : Int64)), .second, .unset, .unset, .unset, .unset, .unset, .unset, .unset, .unset, .unset, .unset, .unset, .unset, .unset, .unset, .unset, .unset, .unset, .unset, .unset, .unset, .unset, .unset] [(.long (9223372036854775807 : Int64)), (.long q1)])) _
    refine XS.land X0.here hx rfl (hb hby at_8) rfl ?_
    show Steps p.tables e below (s₁.setTop (mkF m 9 #[.val (.long q1), .second, .val (.long q2), .second, .val (.long q3), .second, .val (.long q4), .second, .val (.int p5), .val (.long (9223372036854775807 : Int64)), .second, .unset, .unset, .unset, .unset, .unset, .unset, .unset, .unset, .unset, .unset, .unset, .unset, .unset, .unset, .unset, .unset, .unset, .unset, .unset, .unset, .unset, .unset] [(.long (q1 &&& (9223372036854775807 : Int64)))])) _
    refine XS.lstore X0.here hx rfl (hb hby at_9) rfl (l' := #[.val (.long q1), .second, .val (.long q2), .second, .val (.long q3), .second, .val (.long q4), .second, .val (.int p5), .val (.long (9223372036854775807 : Int64)), .second, .val (.long (q1 &&& (9223372036854775807 : Int64))), .second, .unset, .unset, .unset, .unset, .unset, .unset, .unset, .unset, .unset, .unset, .unset, .unset, .unset, .unset, .unset, .unset, .unset, .unset, .unset, .unset]) rfl ?_
    show Steps p.tables e below (s₁.setTop (mkF m 11 #[.val (.long q1), .second, .val (.long q2), .second, .val (.long q3), .second, .val (.long q4), .second, .val (.int p5), .val (.long (9223372036854775807 : Int64)), .second, .val (.long (q1 &&& (9223372036854775807 : Int64))), .second, .unset, .unset, .unset, .unset, .unset, .unset, .unset, .unset, .unset, .unset, .unset, .unset, .unset, .unset, .unset, .unset, .unset, .unset, .unset, .unset] [])) _
    refine XS.lloadN X0.here hx rfl (hb hby at_11) rfl ?_
    show Steps p.tables e below (s₁.setTop (mkF m 12 #[.val (.long q1), .second, .val (.long q2), .second, .val (.long q3), .second, .val (.long q4), .second, .val (.int p5), .val (.long (9223372036854775807 : Int64)), .second, .val (.long (q1 &&& (9223372036854775807 : Int64))), .second, .unset, .unset, .unset, .unset, .unset, .unset, .unset, .unset, .unset, .unset, .unset, .unset, .unset, .unset, .unset, .unset, .unset, .unset, .unset, .unset] [(.long q2)])) _
    refine XS.lload X0.here hx rfl (hb hby at_12) rfl ?_
    show Steps p.tables e below (s₁.setTop (mkF m 14 #[.val (.long q1), .second, .val (.long q2), .second, .val (.long q3), .second, .val (.long q4), .second, .val (.int p5), .val (.long (9223372036854775807 : Int64)), .second, .val (.long (q1 &&& (9223372036854775807 : Int64))), .second, .unset, .unset, .unset, .unset, .unset, .unset, .unset, .unset, .unset, .unset, .unset, .unset, .unset, .unset, .unset, .unset, .unset, .unset, .unset, .unset] [(.long (9223372036854775807 : Int64)), (.long q2)])) _
    refine XS.land X0.here hx rfl (hb hby at_14) rfl ?_
    show Steps p.tables e below (s₁.setTop (mkF m 15 #[.val (.long q1), .second, .val (.long q2), .second, .val (.long q3), .second, .val (.long q4), .second, .val (.int p5), .val (.long (9223372036854775807 : Int64)), .second, .val (.long (q1 &&& (9223372036854775807 : Int64))), .second, .unset, .unset, .unset, .unset, .unset, .unset, .unset, .unset, .unset, .unset, .unset, .unset, .unset, .unset, .unset, .unset, .unset, .unset, .unset, .unset] [(.long (q2 &&& (9223372036854775807 : Int64)))])) _
    refine XS.lstore X0.here hx rfl (hb hby at_15) rfl (l' := #[.val (.long q1), .second, .val (.long q2), .second, .val (.long q3), .second, .val (.long q4), .second, .val (.int p5), .val (.long (9223372036854775807 : Int64)), .second, .val (.long (q1 &&& (9223372036854775807 : Int64))), .second, .val (.long (q2 &&& (9223372036854775807 : Int64))), .second, .unset, .unset, .unset, .unset, .unset, .unset, .unset, .unset, .unset, .unset, .unset, .unset, .unset, .unset, .unset, .unset, .unset, .unset]) rfl ?_
    exact kk)
  obtain ⟨lim, h_lim⟩ : ∃ z : Int64, z = (q1 &&& (9223372036854775807 : Int64)) := ⟨_, rfl⟩
  rw [← h_lim] at k1 b1
  obtain ⟨va, h_va⟩ : ∃ z : Int64, z = (q2 &&& (9223372036854775807 : Int64)) := ⟨_, rfl⟩
  rw [← h_va] at k1 b2
  obtain ⟨vt, hj2, k2⟩ : ∃ vt : Int64, (0 ≤ vt.toInt ∧ vt.toInt ≤ lim.toInt) ∧ Go p e below (s₁.setTop (entryFrame m #[(.long q1), (.long q2), (.long q3), (.long q4), (.int p5)] maxLocals)) (s₁.setTop (mkF m 37 #[.val (.long q1), .second, .val (.long q2), .second, .val (.long q3), .second, .val (.long q4), .second, .val (.int p5), .val (.long (9223372036854775807 : Int64)), .second, .val (.long lim), .second, .val (.long va), .second, .unset, .unset, .unset, .unset, .unset, .unset, .unset, .unset, .unset, .unset, .unset, .unset, .unset, .unset, .unset, .unset, .unset, .unset] [(.long vt)])) := by
    have k4 : Go p e below (s₁.setTop (entryFrame m #[(.long q1), (.long q2), (.long q3), (.long q4), (.int p5)] maxLocals)) (s₁.setTop (mkF m 22 #[.val (.long q1), .second, .val (.long q2), .second, .val (.long q3), .second, .val (.long q4), .second, .val (.int p5), .val (.long (9223372036854775807 : Int64)), .second, .val (.long lim), .second, .val (.long va), .second, .unset, .unset, .unset, .unset, .unset, .unset, .unset, .unset, .unset, .unset, .unset, .unset, .unset, .unset, .unset, .unset, .unset, .unset] [(.int (lcmpW lim (9223372036854775807 : Int64)))])) := fun t kk => k1 t (by
      show Steps p.tables e below (s₁.setTop (mkF m 17 #[.val (.long q1), .second, .val (.long q2), .second, .val (.long q3), .second, .val (.long q4), .second, .val (.int p5), .val (.long (9223372036854775807 : Int64)), .second, .val (.long lim), .second, .val (.long va), .second, .unset, .unset, .unset, .unset, .unset, .unset, .unset, .unset, .unset, .unset, .unset, .unset, .unset, .unset, .unset, .unset, .unset, .unset] [])) _
      refine XS.lload X0.here hx rfl (hb hby at_17) rfl ?_
      show Steps p.tables e below (s₁.setTop (mkF m 19 #[.val (.long q1), .second, .val (.long q2), .second, .val (.long q3), .second, .val (.long q4), .second, .val (.int p5), .val (.long (9223372036854775807 : Int64)), .second, .val (.long lim), .second, .val (.long va), .second, .unset, .unset, .unset, .unset, .unset, .unset, .unset, .unset, .unset, .unset, .unset, .unset, .unset, .unset, .unset, .unset, .unset, .unset] [(.long lim)])) _
      refine XS.lload X0.here hx rfl (hb hby at_19) rfl ?_
      show Steps p.tables e below (s₁.setTop (mkF m 21 #[.val (.long q1), .second, .val (.long q2), .second, .val (.long q3), .second, .val (.long q4), .second, .val (.int p5), .val (.long (9223372036854775807 : Int64)), .second, .val (.long lim), .second, .val (.long va), .second, .unset, .unset, .unset, .unset, .unset, .unset, .unset, .unset, .unset, .unset, .unset, .unset, .unset, .unset, .unset, .unset, .unset, .unset] [(.long (9223372036854775807 : Int64)), (.long lim)])) _
      refine XS.lcmp X0.here hx rfl (hb hby at_21) rfl ?_
      exact kk)
    by_cases hc22_3 : lim = (9223372036854775807 : Int64)
    · have k5 : Go p e below (s₁.setTop (entryFrame m #[(.long q1), (.long q2), (.long q3), (.long q4), (.int p5)] maxLocals)) (s₁.setTop (mkF m 37 #[.val (.long q1), .second, .val (.long q2), .second, .val (.long q3), .second, .val (.long q4), .second, .val (.int p5), .val (.long (9223372036854775807 : Int64)), .second, .val (.long lim), .second, .val (.long va), .second, .unset, .unset, .unset, .unset, .unset, .unset, .unset, .unset, .unset, .unset, .unset, .unset, .unset, .unset, .unset, .unset, .unset, .unset] [(.long va)])) := fun t kk => k4 t (by
        show Steps p.tables e below (s₁.setTop (mkF m 22 #[.val (.long q1), .second, .val (.long q2), .second, .val (.long q3), .second, .val (.long q4), .second, .val (.int p5), .val (.long (9223372036854775807 : Int64)), .second, .val (.long lim), .second, .val (.long va), .second, .unset, .unset, .unset, .unset, .unset, .unset, .unset, .unset, .unset, .unset, .unset, .unset, .unset, .unset, .unset, .unset, .unset, .unset] [(.int (lcmpW lim (9223372036854775807 : Int64)))])) _
        refine XS.ifNo X0.here hx rfl (hb hby at_22) rfl ((if0 _ _).trans (teq ((lw_eq _ _).mpr hc22_3)).2) ?_
        show Steps p.tables e below (s₁.setTop (mkF m 25 #[.val (.long q1), .second, .val (.long q2), .second, .val (.long q3), .second, .val (.long q4), .second, .val (.int p5), .val (.long (9223372036854775807 : Int64)), .second, .val (.long lim), .second, .val (.long va), .second, .unset, .unset, .unset, .unset, .unset, .unset, .unset, .unset, .unset, .unset, .unset, .unset, .unset, .unset, .unset, .unset, .unset, .unset] [])) _
        refine XS.lload X0.here hx rfl (hb hby at_25) rfl ?_
        show Steps p.tables e below (s₁.setTop (mkF m 27 #[.val (.long q1), .second, .val (.long q2), .second, .val (.long q3), .second, .val (.long q4), .second, .val (.int p5), .val (.long (9223372036854775807 : Int64)), .second, .val (.long lim), .second, .val (.long va), .second, .unset, .unset, .unset, .unset, .unset, .unset, .unset, .unset, .unset, .unset, .unset, .unset, .unset, .unset, .unset, .unset, .unset, .unset] [(.long va)])) _
        refine XS.goto X0.here hx rfl (pc0 := 27) (pc' := 37) rfl (hb hby at_27) (by decide) (by decide) ?_
        exact kk)
      exact ⟨va, own_t1 hc22_3 b1 b2, k5⟩
    · have k6 : Go p e below (s₁.setTop (entryFrame m #[(.long q1), (.long q2), (.long q3), (.long q4), (.int p5)] maxLocals)) (s₁.setTop (mkF m 37 #[.val (.long q1), .second, .val (.long q2), .second, .val (.long q3), .second, .val (.long q4), .second, .val (.int p5), .val (.long (9223372036854775807 : Int64)), .second, .val (.long lim), .second, .val (.long va), .second, .unset, .unset, .unset, .unset, .unset, .unset, .unset, .unset, .unset, .unset, .unset, .unset, .unset, .unset, .unset, .unset, .unset, .unset] [(.long (va - (va / (lim + (1 : Int64))) * (lim + (1 : Int64))))])) := fun t kk => k4 t (by
        show Steps p.tables e below (s₁.setTop (mkF m 22 #[.val (.long q1), .second, .val (.long q2), .second, .val (.long q3), .second, .val (.long q4), .second, .val (.int p5), .val (.long (9223372036854775807 : Int64)), .second, .val (.long lim), .second, .val (.long va), .second, .unset, .unset, .unset, .unset, .unset, .unset, .unset, .unset, .unset, .unset, .unset, .unset, .unset, .unset, .unset, .unset, .unset, .unset] [(.int (lcmpW lim (9223372036854775807 : Int64)))])) _
        refine XS.ifYes X0.here hx rfl (pc0 := 22) (pc' := 30) rfl (hb hby at_22) rfl ((if0 _ _).trans (feq (fun q => hc22_3 ((lw_eq _ _).mp q))).2) (by decide) (by decide) ?_
        show Steps p.tables e below (s₁.setTop (mkF m 30 #[.val (.long q1), .second, .val (.long q2), .second, .val (.long q3), .second, .val (.long q4), .second, .val (.int p5), .val (.long (9223372036854775807 : Int64)), .second, .val (.long lim), .second, .val (.long va), .second, .unset, .unset, .unset, .unset, .unset, .unset, .unset, .unset, .unset, .unset, .unset, .unset, .unset, .unset, .unset, .unset, .unset, .unset] [])) _
        refine XS.lload X0.here hx rfl (hb hby at_30) rfl ?_
        show Steps p.tables e below (s₁.setTop (mkF m 32 #[.val (.long q1), .second, .val (.long q2), .second, .val (.long q3), .second, .val (.long q4), .second, .val (.int p5), .val (.long (9223372036854775807 : Int64)), .second, .val (.long lim), .second, .val (.long va), .second, .unset, .unset, .unset, .unset, .unset, .unset, .unset, .unset, .unset, .unset, .unset, .unset, .unset, .unset, .unset, .unset, .unset, .unset] [(.long va)])) _
        refine XS.lload X0.here hx rfl (hb hby at_32) rfl ?_
        show Steps p.tables e below (s₁.setTop (mkF m 34 #[.val (.long q1), .second, .val (.long q2), .second, .val (.long q3), .second, .val (.long q4), .second, .val (.int p5), .val (.long (9223372036854775807 : Int64)), .second, .val (.long lim), .second, .val (.long va), .second, .unset, .unset, .unset, .unset, .unset, .unset, .unset, .unset, .unset, .unset, .unset, .unset, .unset, .unset, .unset, .unset, .unset, .unset] [(.long lim), (.long va)])) _
        refine XS.lconst X0.here hx rfl (hb hby at_34) ?_
        show Steps p.tables e below (s₁.setTop (mkF m 35 #[.val (.long q1), .second, .val (.long q2), .second, .val (.long q3), .second, .val (.long q4), .second, .val (.int p5), .val (.long (9223372036854775807 : Int64)), .second, .val (.long lim), .second, .val (.long va), .second, .unset, .unset, .unset, .unset, .unset, .unset, .unset, .unset, .unset, .unset, .unset, .unset, .unset, .unset, .unset, .unset, .unset, .unset] [(.long (1 : Int64)), (.long lim), (.long va)])) _
        refine XS.ladd X0.here hx rfl (hb hby at_35) rfl ?_
        show Steps p.tables e below (s₁.setTop (mkF m 36 #[.val (.long q1), .second, .val (.long q2), .second, .val (.long q3), .second, .val (.long q4), .second, .val (.int p5), .val (.long (9223372036854775807 : Int64)), .second, .val (.long lim), .second, .val (.long va), .second, .unset, .unset, .unset, .unset, .unset, .unset, .unset, .unset, .unset, .unset, .unset, .unset, .unset, .unset, .unset, .unset, .unset, .unset] [(.long (lim + (1 : Int64))), (.long va)])) _
        refine XS.lrem X0.here hx rfl (hb hby at_36) rfl (own_nz hc22_3 b1) ?_
        exact kk)
      exact ⟨(va - (va / (lim + (1 : Int64))) * (lim + (1 : Int64))), own_t2 hc22_3 b1 b2, k6⟩
  have b3 := hj2
  have b4 := own_mask q4
  have k7 : Go p e below (s₁.setTop (entryFrame m #[(.long q1), (.long q2), (.long q3), (.long q4), (.int p5)] maxLocals)) (s₁.setTop (mkF m 46 #[.val (.long q1), .second, .val (.long q2), .second, .val (.long q3), .second, .val (.long q4), .second, .val (.int p5), .val (.long (9223372036854775807 : Int64)), .second, .val (.long lim), .second, .val (.long va), .second, .val (.long vt), .second, .val (.long (q4 &&& (9223372036854775807 : Int64))), .second, .unset, .unset, .unset, .unset, .unset, .unset, .unset, .unset, .unset, .unset, .unset, .unset, .unset, .unset] [])) := fun t kk => k2 t (by
    show Steps p.tables e below (s₁.setTop (mkF m 37 #[.val (.long q1), .second, .val (.long q2), .second, .val (.long q3), .second, .val (.long q4), .second, .val (.int p5), .val (.long (9223372036854775807 : Int64)), .second, .val (.long lim), .second, .val (.long va), .second, .unset, .unset, .unset, .unset, .unset, .unset, .unset, .unset, .unset, .unset, .unset, .unset, .unset, .unset, .unset, .unset, .unset, .unset] [(.long vt)])) _
    refine XS.lstore X0.here hx rfl (hb hby at_37) rfl (l' := #[.val (.long q1), .second, .val (.long q2), .second, .val (.long q3), .second, .val (.long q4), .second, .val (.int p5), .val (.long (9223372036854775807 : Int64)), .second, .val (.long lim), .second, .val (.long va), .second, .val (.long vt), .second, .unset, .unset, .unset, .unset, .unset, .unset, .unset, .unset, .unset, .unset, .unset, .unset, .unset, .unset, .unset, .unset]) rfl ?_
    show Steps p.tables e below (s₁.setTop (mkF m 39 #[.val (.long q1), .second, .val (.long q2), .second, .val (.long q3), .second, .val (.long q4), .second, .val (.int p5), .val (.long (9223372036854775807 : Int64)), .second, .val (.long lim), .second, .val (.long va), .second, .val (.long vt), .second, .unset, .unset, .unset, .unset, .unset, .unset, .unset, .unset, .unset, .unset, .unset, .unset, .unset, .unset, .unset, .unset] [])) _
    refine XS.lload X0.here hx rfl (hb hby at_39) rfl ?_
    show Steps p.tables e below (s₁.setTop (mkF m 41 #[.val (.long q1), .second, .val (.long q2), .second, .val (.long q3), .second, .val (.long q4), .second, .val (.int p5), .val (.long (9223372036854775807 : Int64)), .second, .val (.long lim), .second, .val (.long va), .second, .val (.long vt), .second, .unset, .unset, .unset, .unset, .unset, .unset, .unset, .unset, .unset, .unset, .unset, .unset, .unset, .unset, .unset, .unset] [(.long q4)])) _
    refine XS.lload X0.here hx rfl (hb hby at_41) rfl ?_
    show Steps p.tables e below (s₁.setTop (mkF m 43 #[.val (.long q1), .second, .val (.long q2), .second, .val (.long q3), .second, .val (.long q4), .second, .val (.int p5), .val (.long (9223372036854775807 : Int64)), .second, .val (.long lim), .second, .val (.long va), .second, .val (.long vt), .second, .unset, .unset, .unset, .unset, .unset, .unset, .unset, .unset, .unset, .unset, .unset, .unset, .unset, .unset, .unset, .unset] [(.long (9223372036854775807 : Int64)), (.long q4)])) _
    refine XS.land X0.here hx rfl (hb hby at_43) rfl ?_
    show Steps p.tables e below (s₁.setTop (mkF m 44 #[.val (.long q1), .second, .val (.long q2), .second, .val (.long q3), .second, .val (.long q4), .second, .val (.int p5), .val (.long (9223372036854775807 : Int64)), .second, .val (.long lim), .second, .val (.long va), .second, .val (.long vt), .second, .unset, .unset, .unset, .unset, .unset, .unset, .unset, .unset, .unset, .unset, .unset, .unset, .unset, .unset, .unset, .unset] [(.long (q4 &&& (9223372036854775807 : Int64)))])) _
    refine XS.lstore X0.here hx rfl (hb hby at_44) rfl (l' := #[.val (.long q1), .second, .val (.long q2), .second, .val (.long q3), .second, .val (.long q4), .second, .val (.int p5), .val (.long (9223372036854775807 : Int64)), .second, .val (.long lim), .second, .val (.long va), .second, .val (.long vt), .second, .val (.long (q4 &&& (9223372036854775807 : Int64))), .second, .unset, .unset, .unset, .unset, .unset, .unset, .unset, .unset, .unset, .unset, .unset, .unset, .unset, .unset]) rfl ?_
    exact kk)
  obtain ⟨lv, h_lv⟩ : ∃ z : Int64, z = (q4 &&& (9223372036854775807 : Int64)) := ⟨_, rfl⟩
  rw [← h_lv] at k7 b4
  have bR : (lim - vt).toInt = lim.toInt - vt.toInt := (own_room (lv := 0) (b := 0) b1.1 (by decide) b3.1 b3.2 (by decide)).2
  have k8 : Go p e below (s₁.setTop (entryFrame m #[(.long q1), (.long q2), (.long q3), (.long q4), (.int p5)] maxLocals)) (s₁.setTop (mkF m 53 #[.val (.long q1), .second, .val (.long q2), .second, .val (.long q3), .second, .val (.long q4), .second, .val (.int p5), .val (.long (9223372036854775807 : Int64)), .second, .val (.long lim), .second, .val (.long va), .second, .val (.long vt), .second, .val (.long lv), .second, .val (.long (lim - vt)), .second, .unset, .unset, .unset, .unset, .unset, .unset, .unset, .unset, .unset, .unset, .unset, .unset] [])) := fun t kk => k7 t (by
    show Steps p.tables e below (s₁.setTop (mkF m 46 #[.val (.long q1), .second, .val (.long q2), .second, .val (.long q3), .second, .val (.long q4), .second, .val (.int p5), .val (.long (9223372036854775807 : Int64)), .second, .val (.long lim), .second, .val (.long va), .second, .val (.long vt), .second, .val (.long lv), .second, .unset, .unset, .unset, .unset, .unset, .unset, .unset, .unset, .unset, .unset, .unset, .unset, .unset, .unset] [])) _
    refine XS.lload X0.here hx rfl (hb hby at_46) rfl ?_
    show Steps p.tables e below (s₁.setTop (mkF m 48 #[.val (.long q1), .second, .val (.long q2), .second, .val (.long q3), .second, .val (.long q4), .second, .val (.int p5), .val (.long (9223372036854775807 : Int64)), .second, .val (.long lim), .second, .val (.long va), .second, .val (.long vt), .second, .val (.long lv), .second, .unset, .unset, .unset, .unset, .unset, .unset, .unset, .unset, .unset, .unset, .unset, .unset, .unset, .unset] [(.long lim)])) _
    refine XS.lload X0.here hx rfl (hb hby at_48) rfl ?_
    show Steps p.tables e below (s₁.setTop (mkF m 50 #[.val (.long q1), .second, .val (.long q2), .second, .val (.long q3), .second, .val (.long q4), .second, .val (.int p5), .val (.long (9223372036854775807 : Int64)), .second, .val (.long lim), .second, .val (.long va), .second, .val (.long vt), .second, .val (.long lv), .second, .unset, .unset, .unset, .unset, .unset, .unset, .unset, .unset, .unset, .unset, .unset, .unset, .unset, .unset] [(.long vt), (.long lim)])) _
    refine XS.lsub X0.here hx rfl (hb hby at_50) rfl ?_
    show Steps p.tables e below (s₁.setTop (mkF m 51 #[.val (.long q1), .second, .val (.long q2), .second, .val (.long q3), .second, .val (.long q4), .second, .val (.int p5), .val (.long (9223372036854775807 : Int64)), .second, .val (.long lim), .second, .val (.long va), .second, .val (.long vt), .second, .val (.long lv), .second, .unset, .unset, .unset, .unset, .unset, .unset, .unset, .unset, .unset, .unset, .unset, .unset, .unset, .unset] [(.long (lim - vt))])) _
    refine XS.lstore X0.here hx rfl (hb hby at_51) rfl (l' := #[.val (.long q1), .second, .val (.long q2), .second, .val (.long q3), .second, .val (.long q4), .second, .val (.int p5), .val (.long (9223372036854775807 : Int64)), .second, .val (.long lim), .second, .val (.long va), .second, .val (.long vt), .second, .val (.long lv), .second, .val (.long (lim - vt)), .second, .unset, .unset, .unset, .unset, .unset, .unset, .unset, .unset, .unset, .unset, .unset, .unset]) rfl ?_
    exact kk)
  obtain ⟨rm, h_rm⟩ : ∃ z : Int64, z = (lim - vt) := ⟨_, rfl⟩
  rw [← h_rm] at k8 bR
  obtain ⟨vx, hj9, k9⟩ : ∃ vx : Int64, (0 ≤ vx.toInt ∧ vx.toInt ≤ 9223372036854775807) ∧ Go p e below (s₁.setTop (entryFrame m #[(.long q1), (.long q2), (.long q3), (.long q4), (.int p5)] maxLocals)) (s₁.setTop (mkF m 70 #[.val (.long q1), .second, .val (.long q2), .second, .val (.long q3), .second, .val (.long q4), .second, .val (.int p5), .val (.long (9223372036854775807 : Int64)), .second, .val (.long lim), .second, .val (.long va), .second, .val (.long vt), .second, .val (.long lv), .second, .val (.long rm), .second, .unset, .unset, .unset, .unset, .unset, .unset, .unset, .unset, .unset, .unset, .unset, .unset] [(.long vx)])) := by
    have k11 : Go p e below (s₁.setTop (entryFrame m #[(.long q1), (.long q2), (.long q3), (.long q4), (.int p5)] maxLocals)) (s₁.setTop (mkF m 58 #[.val (.long q1), .second, .val (.long q2), .second, .val (.long q3), .second, .val (.long q4), .second, .val (.int p5), .val (.long (9223372036854775807 : Int64)), .second, .val (.long lim), .second, .val (.long va), .second, .val (.long vt), .second, .val (.long lv), .second, .val (.long rm), .second, .unset, .unset, .unset, .unset, .unset, .unset, .unset, .unset, .unset, .unset, .unset, .unset] [(.int (lcmpW lv rm))])) := fun t kk => k8 t (by
      show Steps p.tables e below (s₁.setTop (mkF m 53 #[.val (.long q1), .second, .val (.long q2), .second, .val (.long q3), .second, .val (.long q4), .second, .val (.int p5), .val (.long (9223372036854775807 : Int64)), .second, .val (.long lim), .second, .val (.long va), .second, .val (.long vt), .second, .val (.long lv), .second, .val (.long rm), .second, .unset, .unset, .unset, .unset, .unset, .unset, .unset, .unset, .unset, .unset, .unset, .unset] [])) _
      refine XS.lload X0.here hx rfl (hb hby at_53) rfl ?_
      show Steps p.tables e below (s₁.setTop (mkF m 55 #[.val (.long q1), .second, .val (.long q2), .second, .val (.long q3), .second, .val (.long q4), .second, .val (.int p5), .val (.long (9223372036854775807 : Int64)), .second, .val (.long lim), .second, .val (.long va), .second, .val (.long vt), .second, .val (.long lv), .second, .val (.long rm), .second, .unset, .unset, .unset, .unset, .unset, .unset, .unset, .unset, .unset, .unset, .unset, .unset] [(.long lv)])) _
      refine XS.lload X0.here hx rfl (hb hby at_55) rfl ?_
      show Steps p.tables e below (s₁.setTop (mkF m 57 #[.val (.long q1), .second, .val (.long q2), .second, .val (.long q3), .second, .val (.long q4), .second, .val (.int p5), .val (.long (9223372036854775807 : Int64)), .second, .val (.long lim), .second, .val (.long va), .second, .val (.long vt), .second, .val (.long lv), .second, .val (.long rm), .second, .unset, .unset, .unset, .unset, .unset, .unset, .unset, .unset, .unset, .unset, .unset, .unset] [(.long rm), (.long lv)])) _
      refine XS.lcmp X0.here hx rfl (hb hby at_57) rfl ?_
      exact kk)
    by_cases hc58_10 : rm < lv
    · have k12 : Go p e below (s₁.setTop (entryFrame m #[(.long q1), (.long q2), (.long q3), (.long q4), (.int p5)] maxLocals)) (s₁.setTop (mkF m 70 #[.val (.long q1), .second, .val (.long q2), .second, .val (.long q3), .second, .val (.long q4), .second, .val (.int p5), .val (.long (9223372036854775807 : Int64)), .second, .val (.long lim), .second, .val (.long va), .second, .val (.long vt), .second, .val (.long lv), .second, .val (.long rm), .second, .unset, .unset, .unset, .unset, .unset, .unset, .unset, .unset, .unset, .unset, .unset, .unset] [(.long (0 : Int64))])) := fun t kk => k11 t (by
        show Steps p.tables e below (s₁.setTop (mkF m 58 #[.val (.long q1), .second, .val (.long q2), .second, .val (.long q3), .second, .val (.long q4), .second, .val (.int p5), .val (.long (9223372036854775807 : Int64)), .second, .val (.long lim), .second, .val (.long va), .second, .val (.long vt), .second, .val (.long lv), .second, .val (.long rm), .second, .unset, .unset, .unset, .unset, .unset, .unset, .unset, .unset, .unset, .unset, .unset, .unset] [(.int (lcmpW lv rm))])) _
        refine XS.ifYes X0.here hx rfl (pc0 := 58) (pc' := 69) rfl (hb hby at_58) rfl ((if0 _ _).trans (tlt ((lw_gt _ _).mpr hc58_10)).2.2.1) (by decide) (by decide) ?_
        show Steps p.tables e below (s₁.setTop (mkF m 69 #[.val (.long q1), .second, .val (.long q2), .second, .val (.long q3), .second, .val (.long q4), .second, .val (.int p5), .val (.long (9223372036854775807 : Int64)), .second, .val (.long lim), .second, .val (.long va), .second, .val (.long vt), .second, .val (.long lv), .second, .val (.long rm), .second, .unset, .unset, .unset, .unset, .unset, .unset, .unset, .unset, .unset, .unset, .unset, .unset] [])) _
        refine XS.lconst X0.here hx rfl (hb hby at_69) ?_
        exact kk)
      exact ⟨(0 : Int64), (by decide), k12⟩
    · have k13 : Go p e below (s₁.setTop (entryFrame m #[(.long q1), (.long q2), (.long q3), (.long q4), (.int p5)] maxLocals)) (s₁.setTop (mkF m 70 #[.val (.long q1), .second, .val (.long q2), .second, .val (.long q3), .second, .val (.long q4), .second, .val (.int p5), .val (.long (9223372036854775807 : Int64)), .second, .val (.long lim), .second, .val (.long va), .second, .val (.long vt), .second, .val (.long lv), .second, .val (.long rm), .second, .unset, .unset, .unset, .unset, .unset, .unset, .unset, .unset, .unset, .unset, .unset, .unset] [(.long (rm - lv))])) := fun t kk => k11 t (by
        show Steps p.tables e below (s₁.setTop (mkF m 58 #[.val (.long q1), .second, .val (.long q2), .second, .val (.long q3), .second, .val (.long q4), .second, .val (.int p5), .val (.long (9223372036854775807 : Int64)), .second, .val (.long lim), .second, .val (.long va), .second, .val (.long vt), .second, .val (.long lv), .second, .val (.long rm), .second, .unset, .unset, .unset, .unset, .unset, .unset, .unset, .unset, .unset, .unset, .unset, .unset] [(.int (lcmpW lv rm))])) _
        refine XS.ifNo X0.here hx rfl (hb hby at_58) rfl ((if0 _ _).trans (flt (fun q => hc58_10 ((lw_gt _ _).mp q))).2.2.1) ?_
        show Steps p.tables e below (s₁.setTop (mkF m 61 #[.val (.long q1), .second, .val (.long q2), .second, .val (.long q3), .second, .val (.long q4), .second, .val (.int p5), .val (.long (9223372036854775807 : Int64)), .second, .val (.long lim), .second, .val (.long va), .second, .val (.long vt), .second, .val (.long lv), .second, .val (.long rm), .second, .unset, .unset, .unset, .unset, .unset, .unset, .unset, .unset, .unset, .unset, .unset, .unset] [])) _
        refine XS.lload X0.here hx rfl (hb hby at_61) rfl ?_
        show Steps p.tables e below (s₁.setTop (mkF m 63 #[.val (.long q1), .second, .val (.long q2), .second, .val (.long q3), .second, .val (.long q4), .second, .val (.int p5), .val (.long (9223372036854775807 : Int64)), .second, .val (.long lim), .second, .val (.long va), .second, .val (.long vt), .second, .val (.long lv), .second, .val (.long rm), .second, .unset, .unset, .unset, .unset, .unset, .unset, .unset, .unset, .unset, .unset, .unset, .unset] [(.long rm)])) _
        refine XS.lload X0.here hx rfl (hb hby at_63) rfl ?_
        show Steps p.tables e below (s₁.setTop (mkF m 65 #[.val (.long q1), .second, .val (.long q2), .second, .val (.long q3), .second, .val (.long q4), .second, .val (.int p5), .val (.long (9223372036854775807 : Int64)), .second, .val (.long lim), .second, .val (.long va), .second, .val (.long vt), .second, .val (.long lv), .second, .val (.long rm), .second, .unset, .unset, .unset, .unset, .unset, .unset, .unset, .unset, .unset, .unset, .unset, .unset] [(.long lv), (.long rm)])) _
        refine XS.lsub X0.here hx rfl (hb hby at_65) rfl ?_
        show Steps p.tables e below (s₁.setTop (mkF m 66 #[.val (.long q1), .second, .val (.long q2), .second, .val (.long q3), .second, .val (.long q4), .second, .val (.int p5), .val (.long (9223372036854775807 : Int64)), .second, .val (.long lim), .second, .val (.long va), .second, .val (.long vt), .second, .val (.long lv), .second, .val (.long rm), .second, .unset, .unset, .unset, .unset, .unset, .unset, .unset, .unset, .unset, .unset, .unset, .unset] [(.long (rm - lv))])) _
        refine XS.goto X0.here hx rfl (pc0 := 66) (pc' := 70) rfl (hb hby at_66) (by decide) (by decide) ?_
        exact kk)
      exact ⟨(rm - lv), own_ex hc58_10 b4, k13⟩
  have b5 := hj9
  have k14 : Go p e below (s₁.setTop (entryFrame m #[(.long q1), (.long q2), (.long q3), (.long q4), (.int p5)] maxLocals)) (s₁.setTop (mkF m 78 #[.val (.long q1), .second, .val (.long q2), .second, .val (.long q3), .second, .val (.long q4), .second, .val (.int p5), .val (.long (9223372036854775807 : Int64)), .second, .val (.long lim), .second, .val (.long va), .second, .val (.long vt), .second, .val (.long lv), .second, .val (.long rm), .second, .val (.long vx), .second, .val (.int (p5 &&& (3 : Int32))), .unset, .unset, .unset, .unset, .unset, .unset, .unset, .unset, .unset] [])) := fun t kk => k9 t (by
    show Steps p.tables e below (s₁.setTop (mkF m 70 #[.val (.long q1), .second, .val (.long q2), .second, .val (.long q3), .second, .val (.long q4), .second, .val (.int p5), .val (.long (9223372036854775807 : Int64)), .second, .val (.long lim), .second, .val (.long va), .second, .val (.long vt), .second, .val (.long lv), .second, .val (.long rm), .second, .unset, .unset, .unset, .unset, .unset, .unset, .unset, .unset, .unset, .unset, .unset, .unset] [(.long vx)])) _
    refine XS.lstore X0.here hx rfl (hb hby at_70) rfl (l' := #[.val (.long q1), .second, .val (.long q2), .second, .val (.long q3), .second, .val (.long q4), .second, .val (.int p5), .val (.long (9223372036854775807 : Int64)), .second, .val (.long lim), .second, .val (.long va), .second, .val (.long vt), .second, .val (.long lv), .second, .val (.long rm), .second, .val (.long vx), .second, .unset, .unset, .unset, .unset, .unset, .unset, .unset, .unset, .unset, .unset]) rfl ?_
    show Steps p.tables e below (s₁.setTop (mkF m 72 #[.val (.long q1), .second, .val (.long q2), .second, .val (.long q3), .second, .val (.long q4), .second, .val (.int p5), .val (.long (9223372036854775807 : Int64)), .second, .val (.long lim), .second, .val (.long va), .second, .val (.long vt), .second, .val (.long lv), .second, .val (.long rm), .second, .val (.long vx), .second, .unset, .unset, .unset, .unset, .unset, .unset, .unset, .unset, .unset, .unset] [])) _
    refine XS.iload X0.here hx rfl (hb hby at_72) rfl ?_
    show Steps p.tables e below (s₁.setTop (mkF m 74 #[.val (.long q1), .second, .val (.long q2), .second, .val (.long q3), .second, .val (.long q4), .second, .val (.int p5), .val (.long (9223372036854775807 : Int64)), .second, .val (.long lim), .second, .val (.long va), .second, .val (.long vt), .second, .val (.long lv), .second, .val (.long rm), .second, .val (.long vx), .second, .unset, .unset, .unset, .unset, .unset, .unset, .unset, .unset, .unset, .unset] [(.int p5)])) _
    refine XS.iconst X0.here hx rfl (hb hby at_74) ?_
    show Steps p.tables e below (s₁.setTop (mkF m 75 #[.val (.long q1), .second, .val (.long q2), .second, .val (.long q3), .second, .val (.long q4), .second, .val (.int p5), .val (.long (9223372036854775807 : Int64)), .second, .val (.long lim), .second, .val (.long va), .second, .val (.long vt), .second, .val (.long lv), .second, .val (.long rm), .second, .val (.long vx), .second, .unset, .unset, .unset, .unset, .unset, .unset, .unset, .unset, .unset, .unset] [(.int (3 : Int32)), (.int p5)])) _
    refine XS.iand X0.here hx rfl (hb hby at_75) rfl ?_
    show Steps p.tables e below (s₁.setTop (mkF m 76 #[.val (.long q1), .second, .val (.long q2), .second, .val (.long q3), .second, .val (.long q4), .second, .val (.int p5), .val (.long (9223372036854775807 : Int64)), .second, .val (.long lim), .second, .val (.long va), .second, .val (.long vt), .second, .val (.long lv), .second, .val (.long rm), .second, .val (.long vx), .second, .unset, .unset, .unset, .unset, .unset, .unset, .unset, .unset, .unset, .unset] [(.int (p5 &&& (3 : Int32)))])) _
    refine XS.istore X0.here hx rfl (hb hby at_76) rfl (l' := #[.val (.long q1), .second, .val (.long q2), .second, .val (.long q3), .second, .val (.long q4), .second, .val (.int p5), .val (.long (9223372036854775807 : Int64)), .second, .val (.long lim), .second, .val (.long va), .second, .val (.long vt), .second, .val (.long lv), .second, .val (.long rm), .second, .val (.long vx), .second, .val (.int (p5 &&& (3 : Int32))), .unset, .unset, .unset, .unset, .unset, .unset, .unset, .unset, .unset]) rfl ?_
    exact kk)
  obtain ⟨md, h_md⟩ : ∃ z : Int32, z = (p5 &&& (3 : Int32)) := ⟨_, rfl⟩
  rw [← h_md] at k14
  obtain ⟨T15, X15, e15, vb, hj15, k15⟩ : ∃ T' : State, Stand p l e room_1 s m #[(.long q1), (.long q2), (.long q3), (.long q4), (.int p5)] below meth c T' [] 0 0 ∧ T'.heap = h0 ∧ ∃ vb : Int64, (0 ≤ vb.toInt) ∧ Go p e below (s₁.setTop (entryFrame m #[(.long q1), (.long q2), (.long q3), (.long q4), (.int p5)] maxLocals)) (T'.setTop (mkF m 120 #[.val (.long q1), .second, .val (.long q2), .second, .val (.long q3), .second, .val (.long q4), .second, .val (.int p5), .val (.long (9223372036854775807 : Int64)), .second, .val (.long lim), .second, .val (.long va), .second, .val (.long vt), .second, .val (.long lv), .second, .val (.long rm), .second, .val (.long vx), .second, .val (.int md), .val (.long vb), .second, .unset, .unset, .unset, .unset, .unset, .unset, .unset] [])) := by
    have k17 : Go p e below (s₁.setTop (entryFrame m #[(.long q1), (.long q2), (.long q3), (.long q4), (.int p5)] maxLocals)) (s₁.setTop (mkF m 81 #[.val (.long q1), .second, .val (.long q2), .second, .val (.long q3), .second, .val (.long q4), .second, .val (.int p5), .val (.long (9223372036854775807 : Int64)), .second, .val (.long lim), .second, .val (.long va), .second, .val (.long vt), .second, .val (.long lv), .second, .val (.long rm), .second, .val (.long vx), .second, .val (.int md), .unset, .unset, .unset, .unset, .unset, .unset, .unset, .unset, .unset] [(.int (1 : Int32)), (.int md)])) := fun t kk => k14 t (by
      show Steps p.tables e below (s₁.setTop (mkF m 78 #[.val (.long q1), .second, .val (.long q2), .second, .val (.long q3), .second, .val (.long q4), .second, .val (.int p5), .val (.long (9223372036854775807 : Int64)), .second, .val (.long lim), .second, .val (.long va), .second, .val (.long vt), .second, .val (.long lv), .second, .val (.long rm), .second, .val (.long vx), .second, .val (.int md), .unset, .unset, .unset, .unset, .unset, .unset, .unset, .unset, .unset] [])) _
      refine XS.iload X0.here hx rfl (hb hby at_78) rfl ?_
      show Steps p.tables e below (s₁.setTop (mkF m 80 #[.val (.long q1), .second, .val (.long q2), .second, .val (.long q3), .second, .val (.long q4), .second, .val (.int p5), .val (.long (9223372036854775807 : Int64)), .second, .val (.long lim), .second, .val (.long va), .second, .val (.long vt), .second, .val (.long lv), .second, .val (.long rm), .second, .val (.long vx), .second, .val (.int md), .unset, .unset, .unset, .unset, .unset, .unset, .unset, .unset, .unset] [(.int md)])) _
      refine XS.iconst X0.here hx rfl (hb hby at_80) ?_
      exact kk)
    by_cases hc81_16 : md = (1 : Int32)
    · have k18 : Go p e below (s₁.setTop (entryFrame m #[(.long q1), (.long q2), (.long q3), (.long q4), (.int p5)] maxLocals)) (s₁.setTop (mkF m 120 #[.val (.long q1), .second, .val (.long q2), .second, .val (.long q3), .second, .val (.long q4), .second, .val (.int p5), .val (.long (9223372036854775807 : Int64)), .second, .val (.long lim), .second, .val (.long va), .second, .val (.long vt), .second, .val (.long lv), .second, .val (.long rm), .second, .val (.long vx), .second, .val (.int md), .val (.long vx), .second, .unset, .unset, .unset, .unset, .unset, .unset, .unset] [])) := fun t kk => k17 t (by
        show Steps p.tables e below (s₁.setTop (mkF m 81 #[.val (.long q1), .second, .val (.long q2), .second, .val (.long q3), .second, .val (.long q4), .second, .val (.int p5), .val (.long (9223372036854775807 : Int64)), .second, .val (.long lim), .second, .val (.long va), .second, .val (.long vt), .second, .val (.long lv), .second, .val (.long rm), .second, .val (.long vx), .second, .val (.int md), .unset, .unset, .unset, .unset, .unset, .unset, .unset, .unset, .unset] [(.int (1 : Int32)), (.int md)])) _
        refine XS.icmpNo X0.here hx rfl (hb hby at_81) rfl (teq hc81_16).2 ?_
        show Steps p.tables e below (s₁.setTop (mkF m 84 #[.val (.long q1), .second, .val (.long q2), .second, .val (.long q3), .second, .val (.long q4), .second, .val (.int p5), .val (.long (9223372036854775807 : Int64)), .second, .val (.long lim), .second, .val (.long va), .second, .val (.long vt), .second, .val (.long lv), .second, .val (.long rm), .second, .val (.long vx), .second, .val (.int md), .unset, .unset, .unset, .unset, .unset, .unset, .unset, .unset, .unset] [])) _
        refine XS.lload X0.here hx rfl (hb hby at_84) rfl ?_
        show Steps p.tables e below (s₁.setTop (mkF m 86 #[.val (.long q1), .second, .val (.long q2), .second, .val (.long q3), .second, .val (.long q4), .second, .val (.int p5), .val (.long (9223372036854775807 : Int64)), .second, .val (.long lim), .second, .val (.long va), .second, .val (.long vt), .second, .val (.long lv), .second, .val (.long rm), .second, .val (.long vx), .second, .val (.int md), .unset, .unset, .unset, .unset, .unset, .unset, .unset, .unset, .unset] [(.long vx)])) _
        refine XS.lstore X0.here hx rfl (hb hby at_86) rfl (l' := #[.val (.long q1), .second, .val (.long q2), .second, .val (.long q3), .second, .val (.long q4), .second, .val (.int p5), .val (.long (9223372036854775807 : Int64)), .second, .val (.long lim), .second, .val (.long va), .second, .val (.long vt), .second, .val (.long lv), .second, .val (.long rm), .second, .val (.long vx), .second, .val (.int md), .val (.long vx), .second, .unset, .unset, .unset, .unset, .unset, .unset, .unset]) rfl ?_
        show Steps p.tables e below (s₁.setTop (mkF m 88 #[.val (.long q1), .second, .val (.long q2), .second, .val (.long q3), .second, .val (.long q4), .second, .val (.int p5), .val (.long (9223372036854775807 : Int64)), .second, .val (.long lim), .second, .val (.long va), .second, .val (.long vt), .second, .val (.long lv), .second, .val (.long rm), .second, .val (.long vx), .second, .val (.int md), .val (.long vx), .second, .unset, .unset, .unset, .unset, .unset, .unset, .unset] [])) _
        refine XS.goto X0.here hx rfl (pc0 := 88) (pc' := 120) rfl (hb hby at_88) (by decide) (by decide) ?_
        exact kk)
      exact ⟨s₁, X0, e0, vx, b5.1, k18⟩
    · have k20 : Go p e below (s₁.setTop (entryFrame m #[(.long q1), (.long q2), (.long q3), (.long q4), (.int p5)] maxLocals)) (s₁.setTop (mkF m 94 #[.val (.long q1), .second, .val (.long q2), .second, .val (.long q3), .second, .val (.long q4), .second, .val (.int p5), .val (.long (9223372036854775807 : Int64)), .second, .val (.long lim), .second, .val (.long va), .second, .val (.long vt), .second, .val (.long lv), .second, .val (.long rm), .second, .val (.long vx), .second, .val (.int md), .unset, .unset, .unset, .unset, .unset, .unset, .unset, .unset, .unset] [(.int (2 : Int32)), (.int md)])) := fun t kk => k17 t (by
        show Steps p.tables e below (s₁.setTop (mkF m 81 #[.val (.long q1), .second, .val (.long q2), .second, .val (.long q3), .second, .val (.long q4), .second, .val (.int p5), .val (.long (9223372036854775807 : Int64)), .second, .val (.long lim), .second, .val (.long va), .second, .val (.long vt), .second, .val (.long lv), .second, .val (.long rm), .second, .val (.long vx), .second, .val (.int md), .unset, .unset, .unset, .unset, .unset, .unset, .unset, .unset, .unset] [(.int (1 : Int32)), (.int md)])) _
        refine XS.icmpYes X0.here hx rfl (pc0 := 81) (pc' := 91) rfl (hb hby at_81) rfl (feq hc81_16).2 (by decide) (by decide) ?_
        show Steps p.tables e below (s₁.setTop (mkF m 91 #[.val (.long q1), .second, .val (.long q2), .second, .val (.long q3), .second, .val (.long q4), .second, .val (.int p5), .val (.long (9223372036854775807 : Int64)), .second, .val (.long lim), .second, .val (.long va), .second, .val (.long vt), .second, .val (.long lv), .second, .val (.long rm), .second, .val (.long vx), .second, .val (.int md), .unset, .unset, .unset, .unset, .unset, .unset, .unset, .unset, .unset] [])) _
        refine XS.iload X0.here hx rfl (hb hby at_91) rfl ?_
        show Steps p.tables e below (s₁.setTop (mkF m 93 #[.val (.long q1), .second, .val (.long q2), .second, .val (.long q3), .second, .val (.long q4), .second, .val (.int p5), .val (.long (9223372036854775807 : Int64)), .second, .val (.long lim), .second, .val (.long va), .second, .val (.long vt), .second, .val (.long lv), .second, .val (.long rm), .second, .val (.long vx), .second, .val (.int md), .unset, .unset, .unset, .unset, .unset, .unset, .unset, .unset, .unset] [(.int md)])) _
        refine XS.iconst X0.here hx rfl (hb hby at_93) ?_
        exact kk)
      by_cases hc94_19 : md = (2 : Int32)
      · have k21 : Go p e below (s₁.setTop (entryFrame m #[(.long q1), (.long q2), (.long q3), (.long q4), (.int p5)] maxLocals)) (s₁.setTop (mkF m 103 #[.val (.long q1), .second, .val (.long q2), .second, .val (.long q3), .second, .val (.long q4), .second, .val (.int p5), .val (.long (9223372036854775807 : Int64)), .second, .val (.long lim), .second, .val (.long va), .second, .val (.long vt), .second, .val (.long lv), .second, .val (.long rm), .second, .val (.long vx), .second, .val (.int md), .unset, .unset, .unset, .unset, .unset, .unset, .unset, .unset, .unset] [(.long ((9223372036854775807 : Int64) - (1 : Int64))), (.long vx)])) := fun t kk => k20 t (by
          show Steps p.tables e below (s₁.setTop (mkF m 94 #[.val (.long q1), .second, .val (.long q2), .second, .val (.long q3), .second, .val (.long q4), .second, .val (.int p5), .val (.long (9223372036854775807 : Int64)), .second, .val (.long lim), .second, .val (.long va), .second, .val (.long vt), .second, .val (.long lv), .second, .val (.long rm), .second, .val (.long vx), .second, .val (.int md), .unset, .unset, .unset, .unset, .unset, .unset, .unset, .unset, .unset] [(.int (2 : Int32)), (.int md)])) _
          refine XS.icmpNo X0.here hx rfl (hb hby at_94) rfl (teq hc94_19).2 ?_
          show Steps p.tables e below (s₁.setTop (mkF m 97 #[.val (.long q1), .second, .val (.long q2), .second, .val (.long q3), .second, .val (.long q4), .second, .val (.int p5), .val (.long (9223372036854775807 : Int64)), .second, .val (.long lim), .second, .val (.long va), .second, .val (.long vt), .second, .val (.long lv), .second, .val (.long rm), .second, .val (.long vx), .second, .val (.int md), .unset, .unset, .unset, .unset, .unset, .unset, .unset, .unset, .unset] [])) _
          refine XS.lload X0.here hx rfl (hb hby at_97) rfl ?_
          show Steps p.tables e below (s₁.setTop (mkF m 99 #[.val (.long q1), .second, .val (.long q2), .second, .val (.long q3), .second, .val (.long q4), .second, .val (.int p5), .val (.long (9223372036854775807 : Int64)), .second, .val (.long lim), .second, .val (.long va), .second, .val (.long vt), .second, .val (.long lv), .second, .val (.long rm), .second, .val (.long vx), .second, .val (.int md), .unset, .unset, .unset, .unset, .unset, .unset, .unset, .unset, .unset] [(.long vx)])) _
          refine XS.lload X0.here hx rfl (hb hby at_99) rfl ?_
          show Steps p.tables e below (s₁.setTop (mkF m 101 #[.val (.long q1), .second, .val (.long q2), .second, .val (.long q3), .second, .val (.long q4), .second, .val (.int p5), .val (.long (9223372036854775807 : Int64)), .second, .val (.long lim), .second, .val (.long va), .second, .val (.long vt), .second, .val (.long lv), .second, .val (.long rm), .second, .val (.long vx), .second, .val (.int md), .unset, .unset, .unset, .unset, .unset, .unset, .unset, .unset, .unset] [(.long (9223372036854775807 : Int64)), (.long vx)])) _
          refine XS.lconst X0.here hx rfl (hb hby at_101) ?_
          show Steps p.tables e below (s₁.setTop (mkF m 102 #[.val (.long q1), .second, .val (.long q2), .second, .val (.long q3), .second, .val (.long q4), .second, .val (.int p5), .val (.long (9223372036854775807 : Int64)), .second, .val (.long lim), .second, .val (.long va), .second, .val (.long vt), .second, .val (.long lv), .second, .val (.long rm), .second, .val (.long vx), .second, .val (.int md), .unset, .unset, .unset, .unset, .unset, .unset, .unset, .unset, .unset] [(.long (1 : Int64)), (.long (9223372036854775807 : Int64)), (.long vx)])) _
          refine XS.lsub X0.here hx rfl (hb hby at_102) rfl ?_
          exact kk)
        obtain ⟨_, _, ⟨T22, L22, kx22, nx22⟩, -, X22, ⟨Lc22, hQ22, l22, y22, z22⟩, st22⟩ := Jvm.LawKit.callS X0 hx (y := (⟨"java/lang/Math", "min", "(JJ)J"⟩ : MethodName)) hown (mvT hZ (hw _ (List.mem_of_getElem? (i := 24) rfl))) (mvT hZ (hw _ (List.mem_of_getElem? (i := 25) rfl))) (mvT hZ (hw _ (List.mem_of_getElem? (i := 26) rfl))) (mvT hZ (hw _ (List.mem_of_getElem? (i := 27) rfl))) (by decide) (backOf (W := 0) (rmM l Z a0 hw [] vx ((9223372036854775807 : Int64) - (1 : Int64)) h0 n0 Z0 ) hZ (hw _ (List.mem_of_getElem? (i := 27) rfl)) (hw _ (List.mem_of_getElem? (i := 26) rfl)) (by decide) (by decide)) (g := (mkF m 103 #[.val (.long q1), .second, .val (.long q2), .second, .val (.long q3), .second, .val (.long q4), .second, .val (.int p5), .val (.long (9223372036854775807 : Int64)), .second, .val (.long lim), .second, .val (.long va), .second, .val (.long vt), .second, .val (.long lv), .second, .val (.long rm), .second, .val (.long vx), .second, .val (.int md), .unset, .unset, .unset, .unset, .unset, .unset, .unset, .unset, .unset] [(.long ((9223372036854775807 : Int64) - (1 : Int64))), (.long vx)])) rfl (by rw [hml]; rfl) (argsL := [(.long vx), (.long ((9223372036854775807 : Int64) - (1 : Int64)))]) (rest := []) (lenOf pd_0 rfl) rfl (by show 2 * 0 + _ ≤ _; exact Nat.le_of_eq rfl) (hb hby at_103) (fun _ _ => ⟨rfl, e0, (by decide : 0 + 0 ≤ _), (by decide : 0 + 0 ≤ _)⟩)
        dsimp only [Pt.U, Pt.locs, Pt.cells, Pt.slots] at X22 l22 y22 z22 st22 hQ22
        subst l22 y22 z22
        obtain ⟨rfl, rfl, e22⟩ := hQ22
        try rw [List.append_nil] at X22
        have k22 : Go p e below (s₁.setTop (entryFrame m #[(.long q1), (.long q2), (.long q3), (.long q4), (.int p5)] maxLocals)) (T22.setTop (mkF m 106 #[.val (.long q1), .second, .val (.long q2), .second, .val (.long q3), .second, .val (.long q4), .second, .val (.int p5), .val (.long (9223372036854775807 : Int64)), .second, .val (.long lim), .second, .val (.long va), .second, .val (.long vt), .second, .val (.long lv), .second, .val (.long rm), .second, .val (.long vx), .second, .val (.int md), .unset, .unset, .unset, .unset, .unset, .unset, .unset, .unset, .unset] [(.long (own_min vx ((9223372036854775807 : Int64) - (1 : Int64))))])) := fun t kk => k21 t (st22 t kk)
        have k23 : Go p e below (s₁.setTop (entryFrame m #[(.long q1), (.long q2), (.long q3), (.long q4), (.int p5)] maxLocals)) (T22.setTop (mkF m 120 #[.val (.long q1), .second, .val (.long q2), .second, .val (.long q3), .second, .val (.long q4), .second, .val (.int p5), .val (.long (9223372036854775807 : Int64)), .second, .val (.long lim), .second, .val (.long va), .second, .val (.long vt), .second, .val (.long lv), .second, .val (.long rm), .second, .val (.long vx), .second, .val (.int md), .val (.long ((own_min vx ((9223372036854775807 : Int64) - (1 : Int64))) + (1 : Int64))), .second, .unset, .unset, .unset, .unset, .unset, .unset, .unset] [])) := fun t kk => k22 t (by
          show Steps p.tables e below (T22.setTop (mkF m 106 #[.val (.long q1), .second, .val (.long q2), .second, .val (.long q3), .second, .val (.long q4), .second, .val (.int p5), .val (.long (9223372036854775807 : Int64)), .second, .val (.long lim), .second, .val (.long va), .second, .val (.long vt), .second, .val (.long lv), .second, .val (.long rm), .second, .val (.long vx), .second, .val (.int md), .unset, .unset, .unset, .unset, .unset, .unset, .unset, .unset, .unset] [(.long (own_min vx ((9223372036854775807 : Int64) - (1 : Int64))))])) _
          refine XS.lconst X22.here hx rfl (hb hby at_106) ?_
          show Steps p.tables e below (T22.setTop (mkF m 107 #[.val (.long q1), .second, .val (.long q2), .second, .val (.long q3), .second, .val (.long q4), .second, .val (.int p5), .val (.long (9223372036854775807 : Int64)), .second, .val (.long lim), .second, .val (.long va), .second, .val (.long vt), .second, .val (.long lv), .second, .val (.long rm), .second, .val (.long vx), .second, .val (.int md), .unset, .unset, .unset, .unset, .unset, .unset, .unset, .unset, .unset] [(.long (1 : Int64)), (.long (own_min vx ((9223372036854775807 : Int64) - (1 : Int64))))])) _
          refine XS.ladd X22.here hx rfl (hb hby at_107) rfl ?_
          show Steps p.tables e below (T22.setTop (mkF m 108 #[.val (.long q1), .second, .val (.long q2), .second, .val (.long q3), .second, .val (.long q4), .second, .val (.int p5), .val (.long (9223372036854775807 : Int64)), .second, .val (.long lim), .second, .val (.long va), .second, .val (.long vt), .second, .val (.long lv), .second, .val (.long rm), .second, .val (.long vx), .second, .val (.int md), .unset, .unset, .unset, .unset, .unset, .unset, .unset, .unset, .unset] [(.long ((own_min vx ((9223372036854775807 : Int64) - (1 : Int64))) + (1 : Int64)))])) _
          refine XS.lstore X22.here hx rfl (hb hby at_108) rfl (l' := #[.val (.long q1), .second, .val (.long q2), .second, .val (.long q3), .second, .val (.long q4), .second, .val (.int p5), .val (.long (9223372036854775807 : Int64)), .second, .val (.long lim), .second, .val (.long va), .second, .val (.long vt), .second, .val (.long lv), .second, .val (.long rm), .second, .val (.long vx), .second, .val (.int md), .val (.long ((own_min vx ((9223372036854775807 : Int64) - (1 : Int64))) + (1 : Int64))), .second, .unset, .unset, .unset, .unset, .unset, .unset, .unset]) rfl ?_
          show Steps p.tables e below (T22.setTop (mkF m 110 #[.val (.long q1), .second, .val (.long q2), .second, .val (.long q3), .second, .val (.long q4), .second, .val (.int p5), .val (.long (9223372036854775807 : Int64)), .second, .val (.long lim), .second, .val (.long va), .second, .val (.long vt), .second, .val (.long lv), .second, .val (.long rm), .second, .val (.long vx), .second, .val (.int md), .val (.long ((own_min vx ((9223372036854775807 : Int64) - (1 : Int64))) + (1 : Int64))), .second, .unset, .unset, .unset, .unset, .unset, .unset, .unset] [])) _
          refine XS.goto X22.here hx rfl (pc0 := 110) (pc' := 120) rfl (hb hby at_110) (by decide) (by decide) ?_
          exact kk)
        exact ⟨T22, X22, e22, ((own_min vx ((9223372036854775807 : Int64) - (1 : Int64))) + (1 : Int64)), own_min1 b5, k23⟩
      · have k24 : Go p e below (s₁.setTop (entryFrame m #[(.long q1), (.long q2), (.long q3), (.long q4), (.int p5)] maxLocals)) (s₁.setTop (mkF m 120 #[.val (.long q1), .second, .val (.long q2), .second, .val (.long q3), .second, .val (.long q4), .second, .val (.int p5), .val (.long (9223372036854775807 : Int64)), .second, .val (.long lim), .second, .val (.long va), .second, .val (.long vt), .second, .val (.long lv), .second, .val (.long rm), .second, .val (.long vx), .second, .val (.int md), .val (.long (q3 &&& (9223372036854775807 : Int64))), .second, .unset, .unset, .unset, .unset, .unset, .unset, .unset] [])) := fun t kk => k20 t (by
          show Steps p.tables e below (s₁.setTop (mkF m 94 #[.val (.long q1), .second, .val (.long q2), .second, .val (.long q3), .second, .val (.long q4), .second, .val (.int p5), .val (.long (9223372036854775807 : Int64)), .second, .val (.long lim), .second, .val (.long va), .second, .val (.long vt), .second, .val (.long lv), .second, .val (.long rm), .second, .val (.long vx), .second, .val (.int md), .unset, .unset, .unset, .unset, .unset, .unset, .unset, .unset, .unset] [(.int (2 : Int32)), (.int md)])) _
          refine XS.icmpYes X0.here hx rfl (pc0 := 94) (pc' := 113) rfl (hb hby at_94) rfl (feq hc94_19).2 (by decide) (by decide) ?_
          show Steps p.tables e below (s₁.setTop (mkF m 113 #[.val (.long q1), .second, .val (.long q2), .second, .val (.long q3), .second, .val (.long q4), .second, .val (.int p5), .val (.long (9223372036854775807 : Int64)), .second, .val (.long lim), .second, .val (.long va), .second, .val (.long vt), .second, .val (.long lv), .second, .val (.long rm), .second, .val (.long vx), .second, .val (.int md), .unset, .unset, .unset, .unset, .unset, .unset, .unset, .unset, .unset] [])) _
          refine XS.lload X0.here hx rfl (hb hby at_113) rfl ?_
          show Steps p.tables e below (s₁.setTop (mkF m 115 #[.val (.long q1), .second, .val (.long q2), .second, .val (.long q3), .second, .val (.long q4), .second, .val (.int p5), .val (.long (9223372036854775807 : Int64)), .second, .val (.long lim), .second, .val (.long va), .second, .val (.long vt), .second, .val (.long lv), .second, .val (.long rm), .second, .val (.long vx), .second, .val (.int md), .unset, .unset, .unset, .unset, .unset, .unset, .unset, .unset, .unset] [(.long q3)])) _
          refine XS.lload X0.here hx rfl (hb hby at_115) rfl ?_
          show Steps p.tables e below (s₁.setTop (mkF m 117 #[.val (.long q1), .second, .val (.long q2), .second, .val (.long q3), .second, .val (.long q4), .second, .val (.int p5), .val (.long (9223372036854775807 : Int64)), .second, .val (.long lim), .second, .val (.long va), .second, .val (.long vt), .second, .val (.long lv), .second, .val (.long rm), .second, .val (.long vx), .second, .val (.int md), .unset, .unset, .unset, .unset, .unset, .unset, .unset, .unset, .unset] [(.long (9223372036854775807 : Int64)), (.long q3)])) _
          refine XS.land X0.here hx rfl (hb hby at_117) rfl ?_
          show Steps p.tables e below (s₁.setTop (mkF m 118 #[.val (.long q1), .second, .val (.long q2), .second, .val (.long q3), .second, .val (.long q4), .second, .val (.int p5), .val (.long (9223372036854775807 : Int64)), .second, .val (.long lim), .second, .val (.long va), .second, .val (.long vt), .second, .val (.long lv), .second, .val (.long rm), .second, .val (.long vx), .second, .val (.int md), .unset, .unset, .unset, .unset, .unset, .unset, .unset, .unset, .unset] [(.long (q3 &&& (9223372036854775807 : Int64)))])) _
          refine XS.lstore X0.here hx rfl (hb hby at_118) rfl (l' := #[.val (.long q1), .second, .val (.long q2), .second, .val (.long q3), .second, .val (.long q4), .second, .val (.int p5), .val (.long (9223372036854775807 : Int64)), .second, .val (.long lim), .second, .val (.long va), .second, .val (.long vt), .second, .val (.long lv), .second, .val (.long rm), .second, .val (.long vx), .second, .val (.int md), .val (.long (q3 &&& (9223372036854775807 : Int64))), .second, .unset, .unset, .unset, .unset, .unset, .unset, .unset]) rfl ?_
          exact kk)
        exact ⟨s₁, X0, e0, (q3 &&& (9223372036854775807 : Int64)), (own_mask q3).1, k24⟩
  have b6 := hj15
  obtain ⟨T25, h25, X25, e25, E25, A25, D25, -, st25⟩ := newO X15 hx hZ hown (hw _ (List.mem_of_getElem? (i := 1) rfl)) (hw _ (List.mem_of_getElem? (i := 2) rfl)) (hw _ (List.mem_of_getElem? (i := 3) rfl)) e15 (g := (mkF m 120 #[.val (.long q1), .second, .val (.long q2), .second, .val (.long q3), .second, .val (.long q4), .second, .val (.int p5), .val (.long (9223372036854775807 : Int64)), .second, .val (.long lim), .second, .val (.long va), .second, .val (.long vt), .second, .val (.long lv), .second, .val (.long rm), .second, .val (.long vx), .second, .val (.int md), .val (.long vb), .second, .unset, .unset, .unset, .unset, .unset, .unset, .unset] [])) rfl (hb hby at_120) (by decide) (by decide)
  obtain ⟨b25, g25⟩ : ∃ z, z = (h0).size := ⟨_, rfl⟩
  rw [← g25] at A25 D25 st25
  have sz_b25 : h0.size ≤ b25 := Nat.le_trans (Keep.refl h0 []).1 (Nat.le_of_eq g25.symm)
  have ge_b25 : n0 ≤ b25 := Nat.le_trans Z0 (Nat.le_of_eq g25.symm)
  have K25 := ((Keep.refl h0 [])).ext E25
  have Zs25 : n0 ≤ h25.size := Nat.le_trans Z0 E25.1
  have F25_limit : Fld Z h25 b25 "com/example/wasserstand/wasserstand/network/MemoryPool" "limit" "J" (.long (0 : Int64)) := D25 (Or.inr (hw _ (List.mem_of_getElem? (i := 11) rfl))) (ty := .long) (by decide)
  have F25_taken : Fld Z h25 b25 "com/example/wasserstand/wasserstand/network/MemoryPool" "taken" "J" (.long (0 : Int64)) := D25 (Or.inl (hw _ (List.mem_of_getElem? (i := 18) rfl))) (ty := .long) (by decide)
  have k25 : Go p e below (s₁.setTop (entryFrame m #[(.long q1), (.long q2), (.long q3), (.long q4), (.int p5)] maxLocals)) (T25.setTop (mkF m 123 #[.val (.long q1), .second, .val (.long q2), .second, .val (.long q3), .second, .val (.long q4), .second, .val (.int p5), .val (.long (9223372036854775807 : Int64)), .second, .val (.long lim), .second, .val (.long va), .second, .val (.long vt), .second, .val (.long lv), .second, .val (.long rm), .second, .val (.long vx), .second, .val (.int md), .val (.long vb), .second, .unset, .unset, .unset, .unset, .unset, .unset, .unset] [(.ref b25)])) := fun t kk => k15 t (st25 t kk)
  have k26 : Go p e below (s₁.setTop (entryFrame m #[(.long q1), (.long q2), (.long q3), (.long q4), (.int p5)] maxLocals)) (T25.setTop (mkF m 126 #[.val (.long q1), .second, .val (.long q2), .second, .val (.long q3), .second, .val (.long q4), .second, .val (.int p5), .val (.long (9223372036854775807 : Int64)), .second, .val (.long lim), .second, .val (.long va), .second, .val (.long vt), .second, .val (.long lv), .second, .val (.long rm), .second, .val (.long vx), .second, .val (.int md), .val (.long vb), .second, .unset, .unset, .unset, .unset, .unset, .unset, .unset] [(.long lim), (.ref b25), (.ref b25)])) := fun t kk => k25 t (by
    show Steps p.tables e below (T25.setTop (mkF m 123 #[.val (.long q1), .second, .val (.long q2), .second, .val (.long q3), .second, .val (.long q4), .second, .val (.int p5), .val (.long (9223372036854775807 : Int64)), .second, .val (.long lim), .second, .val (.long va), .second, .val (.long vt), .second, .val (.long lv), .second, .val (.long rm), .second, .val (.long vx), .second, .val (.int md), .val (.long vb), .second, .unset, .unset, .unset, .unset, .unset, .unset, .unset] [(.ref b25)])) _
    refine XS.dup X25.here hx rfl (hb hby at_123) rfl rfl ?_
    show Steps p.tables e below (T25.setTop (mkF m 124 #[.val (.long q1), .second, .val (.long q2), .second, .val (.long q3), .second, .val (.long q4), .second, .val (.int p5), .val (.long (9223372036854775807 : Int64)), .second, .val (.long lim), .second, .val (.long va), .second, .val (.long vt), .second, .val (.long lv), .second, .val (.long rm), .second, .val (.long vx), .second, .val (.int md), .val (.long vb), .second, .unset, .unset, .unset, .unset, .unset, .unset, .unset] [(.ref b25), (.ref b25)])) _
    refine XS.lload X25.here hx rfl (hb hby at_124) rfl ?_
    exact kk)
  obtain ⟨_, _, ⟨T27, L27, kx27, nx27⟩, -, X27, ⟨Lc27, hQ27, l27, y27, z27⟩, st27⟩ := X25.specialBack hx (y := (⟨"com/example/wasserstand/wasserstand/network/MemoryPool", "<init>", "(J)V"⟩ : MethodName)) rfl hown (mvT hZ (hw _ (List.mem_of_getElem? (i := 4) rfl))) (mvT hZ (hw _ (List.mem_of_getElem? (i := 5) rfl))) (mvT hZ (hw _ (List.mem_of_getElem? (i := 6) rfl))) (by decide) (backOf (W := 1) (rmN l Z a0 hw [] b25 lim h25 n0 Zs25 F25_limit F25_taken A25 ge_b25) hZ (hw _ (List.mem_of_getElem? (i := 6) rfl)) (hw _ (List.mem_of_getElem? (i := 3) rfl)) (by decide) (by decide)) (g := (mkF m 126 #[.val (.long q1), .second, .val (.long q2), .second, .val (.long q3), .second, .val (.long q4), .second, .val (.int p5), .val (.long (9223372036854775807 : Int64)), .second, .val (.long lim), .second, .val (.long va), .second, .val (.long vt), .second, .val (.long lv), .second, .val (.long rm), .second, .val (.long vx), .second, .val (.int md), .val (.long vb), .second, .unset, .unset, .unset, .unset, .unset, .unset, .unset] [(.long lim), (.ref b25), (.ref b25)])) rfl (by rw [hml]; rfl) (Steps.refl _) (a := b25) (argsL := [(.long lim)]) (rest := [(.ref b25)]) (lenOf pd_1 rfl) rfl (by show 2 * 0 + _ ≤ _; exact Nat.le_of_eq rfl) (hb hby at_126) (fun _ _ => ⟨rfl, e25, (by decide : 1 + 0 ≤ _), (by decide : 2 + 0 ≤ _)⟩)
  dsimp only [Pt.U, Pt.locs, Pt.cells, Pt.slots] at X27 l27 y27 z27 st27 hQ27
  subst l27 y27 z27
  obtain ⟨rfl, N27q, K27q, c27_0, c27_1⟩ := hQ27
  have N27 := Fr.app N0 N27q
  have f28 := A25.keep K27q
  have K27 := (K25).trans K27q (allS (Or.inr sz_b25) all0)
  have Zs27 : n0 ≤ T27.heap.size := Nat.le_trans Zs25 K27q.1
  have k27 : Go p e below (s₁.setTop (entryFrame m #[(.long q1), (.long q2), (.long q3), (.long q4), (.int p5)] maxLocals)) (T27.setTop (mkF m 129 #[.val (.long q1), .second, .val (.long q2), .second, .val (.long q3), .second, .val (.long q4), .second, .val (.int p5), .val (.long (9223372036854775807 : Int64)), .second, .val (.long lim), .second, .val (.long va), .second, .val (.long vt), .second, .val (.long lv), .second, .val (.long rm), .second, .val (.long vx), .second, .val (.int md), .val (.long vb), .second, .unset, .unset, .unset, .unset, .unset, .unset, .unset] [(.ref b25)])) := fun t kk => k26 t (st27.trans kk)
  have k29 : Go p e below (s₁.setTop (entryFrame m #[(.long q1), (.long q2), (.long q3), (.long q4), (.int p5)] maxLocals)) (T27.setTop (mkF m 136 #[.val (.long q1), .second, .val (.long q2), .second, .val (.long q3), .second, .val (.long q4), .second, .val (.int p5), .val (.long (9223372036854775807 : Int64)), .second, .val (.long lim), .second, .val (.long va), .second, .val (.long vt), .second, .val (.long lv), .second, .val (.long rm), .second, .val (.long vx), .second, .val (.int md), .val (.long vb), .second, .val (.ref b25), .unset, .unset, .unset, .unset, .unset, .unset] [(.long (0 : Int64)), (.long vt), (.ref b25)])) := fun t kk => k27 t (by
    show Steps p.tables e below (T27.setTop (mkF m 129 #[.val (.long q1), .second, .val (.long q2), .second, .val (.long q3), .second, .val (.long q4), .second, .val (.int p5), .val (.long (9223372036854775807 : Int64)), .second, .val (.long lim), .second, .val (.long va), .second, .val (.long vt), .second, .val (.long lv), .second, .val (.long rm), .second, .val (.long vx), .second, .val (.int md), .val (.long vb), .second, .unset, .unset, .unset, .unset, .unset, .unset, .unset] [(.ref b25)])) _
    refine XS.astore X27.here hx rfl (hb hby at_129) rfl rfl (l' := #[.val (.long q1), .second, .val (.long q2), .second, .val (.long q3), .second, .val (.long q4), .second, .val (.int p5), .val (.long (9223372036854775807 : Int64)), .second, .val (.long lim), .second, .val (.long va), .second, .val (.long vt), .second, .val (.long lv), .second, .val (.long rm), .second, .val (.long vx), .second, .val (.int md), .val (.long vb), .second, .val (.ref b25), .unset, .unset, .unset, .unset, .unset, .unset]) rfl ?_
    show Steps p.tables e below (T27.setTop (mkF m 131 #[.val (.long q1), .second, .val (.long q2), .second, .val (.long q3), .second, .val (.long q4), .second, .val (.int p5), .val (.long (9223372036854775807 : Int64)), .second, .val (.long lim), .second, .val (.long va), .second, .val (.long vt), .second, .val (.long lv), .second, .val (.long rm), .second, .val (.long vx), .second, .val (.int md), .val (.long vb), .second, .val (.ref b25), .unset, .unset, .unset, .unset, .unset, .unset] [])) _
    refine XS.aload X27.here hx rfl (hb hby at_131) rfl rfl ?_
    show Steps p.tables e below (T27.setTop (mkF m 133 #[.val (.long q1), .second, .val (.long q2), .second, .val (.long q3), .second, .val (.long q4), .second, .val (.int p5), .val (.long (9223372036854775807 : Int64)), .second, .val (.long lim), .second, .val (.long va), .second, .val (.long vt), .second, .val (.long lv), .second, .val (.long rm), .second, .val (.long vx), .second, .val (.int md), .val (.long vb), .second, .val (.ref b25), .unset, .unset, .unset, .unset, .unset, .unset] [(.ref b25)])) _
    refine XS.lload X27.here hx rfl (hb hby at_133) rfl ?_
    show Steps p.tables e below (T27.setTop (mkF m 135 #[.val (.long q1), .second, .val (.long q2), .second, .val (.long q3), .second, .val (.long q4), .second, .val (.int p5), .val (.long (9223372036854775807 : Int64)), .second, .val (.long lim), .second, .val (.long va), .second, .val (.long vt), .second, .val (.long lv), .second, .val (.long rm), .second, .val (.long vx), .second, .val (.int md), .val (.long vb), .second, .val (.ref b25), .unset, .unset, .unset, .unset, .unset, .unset] [(.long vt), (.ref b25)])) _
    refine XS.lconst X27.here hx rfl (hb hby at_135) ?_
    exact kk)
  obtain ⟨cq30, kq30, q30a, q30b, q30c⟩ := isOf hZ rfl f28
  obtain ⟨_, _, ⟨T30, L30, kx30, nx30⟩, -, X30, ⟨Lc30, hQ30, l30, y30, z30⟩, st30⟩ := X27.virtualBack hx (y := (⟨"com/example/wasserstand/wasserstand/network/MemoryPool", "take", "(JJ)Z"⟩ : MethodName)) (z := (⟨"com/example/wasserstand/wasserstand/network/MemoryPool", "take", "(JJ)Z"⟩ : MethodName)) hown (mvT hZ (hw _ (List.mem_of_getElem? (i := 12) rfl))) (mvT hZ (hw _ (List.mem_of_getElem? (i := 13) rfl))) (notFace_of_selects (args := #[]) (mvT hZ (hw _ (List.mem_of_getElem? (i := 15) rfl)))) (mvT hZ (hw _ (List.mem_of_getElem? (i := 15) rfl))) (mvT hZ (hw _ (List.mem_of_getElem? (i := 14) rfl))) (by decide) (backOf (W := 0) (rmT l Z a0 hw [] b25 vt (0 : Int64) lim (0 : Int64) T27.heap n0 Zs27 c27_0 c27_1 f28 ge_b25) hZ (hw _ (List.mem_of_getElem? (i := 16) rfl)) (hw _ (List.mem_of_getElem? (i := 3) rfl)) (by decide) (by decide)) q30a q30c (g := (mkF m 136 #[.val (.long q1), .second, .val (.long q2), .second, .val (.long q3), .second, .val (.long q4), .second, .val (.int p5), .val (.long (9223372036854775807 : Int64)), .second, .val (.long lim), .second, .val (.long va), .second, .val (.long vt), .second, .val (.long lv), .second, .val (.long rm), .second, .val (.long vx), .second, .val (.int md), .val (.long vb), .second, .val (.ref b25), .unset, .unset, .unset, .unset, .unset, .unset] [(.long (0 : Int64)), (.long vt), (.ref b25)])) rfl (by rw [hml]; rfl) (Steps.refl _) (argsL := [(.long vt), (.long (0 : Int64))]) (rest := []) (lenOf pd_2 rfl) rfl (by show 2 * 0 + _ ≤ _; exact Nat.le_of_eq rfl) (hb hby at_136) (fun _ _ => ⟨rfl, rfl, (by decide : 1 + 0 ≤ _), (by decide : 2 + 0 ≤ _)⟩)
  dsimp only [Pt.U, Pt.locs, Pt.cells, Pt.slots] at X30 l30 y30 z30 st30 hQ30
  subst l30 y30 z30
  obtain ⟨rfl, N30q, K30q, c30_0, c30_1⟩ := hQ30
  have N30 := Fr.app N27 N30q
  have f31 := f28.keep K30q
  have K30 := (K27).trans K30q (allS (Or.inr sz_b25) all0)
  have Zs30 : n0 ≤ T30.heap.size := Nat.le_trans Zs27 K30q.1
  have k30 : Go p e below (s₁.setTop (entryFrame m #[(.long q1), (.long q2), (.long q3), (.long q4), (.int p5)] maxLocals)) (T30.setTop (mkF m 139 #[.val (.long q1), .second, .val (.long q2), .second, .val (.long q3), .second, .val (.long q4), .second, .val (.int p5), .val (.long (9223372036854775807 : Int64)), .second, .val (.long lim), .second, .val (.long va), .second, .val (.long vt), .second, .val (.long lv), .second, .val (.long rm), .second, .val (.long vx), .second, .val (.int md), .val (.long vb), .second, .val (.ref b25), .unset, .unset, .unset, .unset, .unset, .unset] [(.int (own_take vt (0 : Int64) lim (0 : Int64)))])) := fun t kk => k29 t (st30.trans kk)
  obtain ⟨fi1, fi2⟩ := own_first b1 b3
  rw [fi2] at c30_1
  rw [fi1] at k30
  have k32 : Go p e below (s₁.setTop (entryFrame m #[(.long q1), (.long q2), (.long q3), (.long q4), (.int p5)] maxLocals)) (T30.setTop (mkF m 143 #[.val (.long q1), .second, .val (.long q2), .second, .val (.long q3), .second, .val (.long q4), .second, .val (.int p5), .val (.long (9223372036854775807 : Int64)), .second, .val (.long lim), .second, .val (.long va), .second, .val (.long vt), .second, .val (.long lv), .second, .val (.long rm), .second, .val (.long vx), .second, .val (.int md), .val (.long vb), .second, .val (.ref b25), .val (.int (1 : Int32)), .unset, .unset, .unset, .unset, .unset] [(.ref b25)])) := fun t kk => k30 t (by
    show Steps p.tables e below (T30.setTop (mkF m 139 #[.val (.long q1), .second, .val (.long q2), .second, .val (.long q3), .second, .val (.long q4), .second, .val (.int p5), .val (.long (9223372036854775807 : Int64)), .second, .val (.long lim), .second, .val (.long va), .second, .val (.long vt), .second, .val (.long lv), .second, .val (.long rm), .second, .val (.long vx), .second, .val (.int md), .val (.long vb), .second, .val (.ref b25), .unset, .unset, .unset, .unset, .unset, .unset] [(.int (1 : Int32))])) _
    refine XS.istore X30.here hx rfl (hb hby at_139) rfl (l' := #[.val (.long q1), .second, .val (.long q2), .second, .val (.long q3), .second, .val (.long q4), .second, .val (.int p5), .val (.long (9223372036854775807 : Int64)), .second, .val (.long lim), .second, .val (.long va), .second, .val (.long vt), .second, .val (.long lv), .second, .val (.long rm), .second, .val (.long vx), .second, .val (.int md), .val (.long vb), .second, .val (.ref b25), .val (.int (1 : Int32)), .unset, .unset, .unset, .unset, .unset]) rfl ?_
    show Steps p.tables e below (T30.setTop (mkF m 141 #[.val (.long q1), .second, .val (.long q2), .second, .val (.long q3), .second, .val (.long q4), .second, .val (.int p5), .val (.long (9223372036854775807 : Int64)), .second, .val (.long lim), .second, .val (.long va), .second, .val (.long vt), .second, .val (.long lv), .second, .val (.long rm), .second, .val (.long vx), .second, .val (.int md), .val (.long vb), .second, .val (.ref b25), .val (.int (1 : Int32)), .unset, .unset, .unset, .unset, .unset] [])) _
    refine XS.aload X30.here hx rfl (hb hby at_141) rfl rfl ?_
    exact kk)
  obtain ⟨cq33, kq33, q33a, q33b, q33c⟩ := isOf hZ rfl f31
  obtain ⟨_, _, ⟨T33, L33, kx33, nx33⟩, -, X33, ⟨Lc33, hQ33, l33, y33, z33⟩, st33⟩ := X30.virtualBack hx (y := (⟨"com/example/wasserstand/wasserstand/network/MemoryPool", "left", "()J"⟩ : MethodName)) (z := (⟨"com/example/wasserstand/wasserstand/network/MemoryPool", "left", "()J"⟩ : MethodName)) hown (mvT hZ (hw _ (List.mem_of_getElem? (i := 19) rfl))) (mvT hZ (hw _ (List.mem_of_getElem? (i := 20) rfl))) (notFace_of_selects (args := #[]) (mvT hZ (hw _ (List.mem_of_getElem? (i := 22) rfl)))) (mvT hZ (hw _ (List.mem_of_getElem? (i := 22) rfl))) (mvT hZ (hw _ (List.mem_of_getElem? (i := 21) rfl))) (by decide) (backOf (W := 0) (rmL l Z a0 hw [] b25 lim vt T30.heap n0 Zs30 c30_0 c30_1) hZ (hw _ (List.mem_of_getElem? (i := 23) rfl)) (hw _ (List.mem_of_getElem? (i := 3) rfl)) (by decide) (by decide)) q33a q33c (g := (mkF m 143 #[.val (.long q1), .second, .val (.long q2), .second, .val (.long q3), .second, .val (.long q4), .second, .val (.int p5), .val (.long (9223372036854775807 : Int64)), .second, .val (.long lim), .second, .val (.long va), .second, .val (.long vt), .second, .val (.long lv), .second, .val (.long rm), .second, .val (.long vx), .second, .val (.int md), .val (.long vb), .second, .val (.ref b25), .val (.int (1 : Int32)), .unset, .unset, .unset, .unset, .unset] [(.ref b25)])) rfl (by rw [hml]; rfl) (Steps.refl _) (argsL := []) (rest := []) (lenOf pd_3 rfl) rfl (by show 2 * 0 + _ ≤ _; exact Nat.le_of_eq rfl) (hb hby at_143) (fun _ _ => ⟨rfl, rfl, (by decide : 1 + 0 ≤ _), (by decide : 2 + 0 ≤ _)⟩)
  dsimp only [Pt.U, Pt.locs, Pt.cells, Pt.slots] at X33 l33 y33 z33 st33 hQ33
  subst l33 y33 z33
  obtain ⟨rfl, rfl, e33⟩ := hQ33
  try rw [List.append_nil] at X33
  have k33 : Go p e below (s₁.setTop (entryFrame m #[(.long q1), (.long q2), (.long q3), (.long q4), (.int p5)] maxLocals)) (T33.setTop (mkF m 146 #[.val (.long q1), .second, .val (.long q2), .second, .val (.long q3), .second, .val (.long q4), .second, .val (.int p5), .val (.long (9223372036854775807 : Int64)), .second, .val (.long lim), .second, .val (.long va), .second, .val (.long vt), .second, .val (.long lv), .second, .val (.long rm), .second, .val (.long vx), .second, .val (.int md), .val (.long vb), .second, .val (.ref b25), .val (.int (1 : Int32)), .unset, .unset, .unset, .unset, .unset] [(.long (lim - vt))])) := fun t kk => k32 t (st33.trans kk)
  have hd1 : (lim - vt) = rm := h_rm.symm
  have k34 : Go p e below (s₁.setTop (entryFrame m #[(.long q1), (.long q2), (.long q3), (.long q4), (.int p5)] maxLocals)) (T33.setTop (mkF m 165 #[.val (.long q1), .second, .val (.long q2), .second, .val (.long q3), .second, .val (.long q4), .second, .val (.int p5), .val (.long (9223372036854775807 : Int64)), .second, .val (.long lim), .second, .val (.long va), .second, .val (.long vt), .second, .val (.long lv), .second, .val (.long rm), .second, .val (.long vx), .second, .val (.int md), .val (.long vb), .second, .val (.ref b25), .val (.int (1 : Int32)), .val (.int (1 : Int32)), .unset, .unset, .unset, .unset] [(.long lv), (.long vb), (.ref b25)])) := fun t kk => k33 t (by
    show Steps p.tables e below (T33.setTop (mkF m 146 #[.val (.long q1), .second, .val (.long q2), .second, .val (.long q3), .second, .val (.long q4), .second, .val (.int p5), .val (.long (9223372036854775807 : Int64)), .second, .val (.long lim), .second, .val (.long va), .second, .val (.long vt), .second, .val (.long lv), .second, .val (.long rm), .second, .val (.long vx), .second, .val (.int md), .val (.long vb), .second, .val (.ref b25), .val (.int (1 : Int32)), .unset, .unset, .unset, .unset, .unset] [(.long (lim - vt))])) _
    refine XS.lload X33.here hx rfl (hb hby at_146) rfl ?_
    show Steps p.tables e below (T33.setTop (mkF m 148 #[.val (.long q1), .second, .val (.long q2), .second, .val (.long q3), .second, .val (.long q4), .second, .val (.int p5), .val (.long (9223372036854775807 : Int64)), .second, .val (.long lim), .second, .val (.long va), .second, .val (.long vt), .second, .val (.long lv), .second, .val (.long rm), .second, .val (.long vx), .second, .val (.int md), .val (.long vb), .second, .val (.ref b25), .val (.int (1 : Int32)), .unset, .unset, .unset, .unset, .unset] [(.long rm), (.long (lim - vt))])) _
    refine XS.lcmp X33.here hx rfl (hb hby at_148) rfl ?_
    show Steps p.tables e below (T33.setTop (mkF m 149 #[.val (.long q1), .second, .val (.long q2), .second, .val (.long q3), .second, .val (.long q4), .second, .val (.int p5), .val (.long (9223372036854775807 : Int64)), .second, .val (.long lim), .second, .val (.long va), .second, .val (.long vt), .second, .val (.long lv), .second, .val (.long rm), .second, .val (.long vx), .second, .val (.int md), .val (.long vb), .second, .val (.ref b25), .val (.int (1 : Int32)), .unset, .unset, .unset, .unset, .unset] [(.int (lcmpW (lim - vt) rm))])) _
    refine XS.ifNo X33.here hx rfl (hb hby at_149) rfl ((if0 _ _).trans (teq ((lw_eq _ _).mpr hd1)).2) ?_
    show Steps p.tables e below (T33.setTop (mkF m 152 #[.val (.long q1), .second, .val (.long q2), .second, .val (.long q3), .second, .val (.long q4), .second, .val (.int p5), .val (.long (9223372036854775807 : Int64)), .second, .val (.long lim), .second, .val (.long va), .second, .val (.long vt), .second, .val (.long lv), .second, .val (.long rm), .second, .val (.long vx), .second, .val (.int md), .val (.long vb), .second, .val (.ref b25), .val (.int (1 : Int32)), .unset, .unset, .unset, .unset, .unset] [])) _
    refine XS.iconst X33.here hx rfl (hb hby at_152) ?_
    show Steps p.tables e below (T33.setTop (mkF m 153 #[.val (.long q1), .second, .val (.long q2), .second, .val (.long q3), .second, .val (.long q4), .second, .val (.int p5), .val (.long (9223372036854775807 : Int64)), .second, .val (.long lim), .second, .val (.long va), .second, .val (.long vt), .second, .val (.long lv), .second, .val (.long rm), .second, .val (.long vx), .second, .val (.int md), .val (.long vb), .second, .val (.ref b25), .val (.int (1 : Int32)), .unset, .unset, .unset, .unset, .unset] [(.int (1 : Int32))])) _
    refine XS.goto X33.here hx rfl (pc0 := 153) (pc' := 157) rfl (hb hby at_153) (by decide) (by decide) ?_
    show Steps p.tables e below (T33.setTop (mkF m 157 #[.val (.long q1), .second, .val (.long q2), .second, .val (.long q3), .second, .val (.long q4), .second, .val (.int p5), .val (.long (9223372036854775807 : Int64)), .second, .val (.long lim), .second, .val (.long va), .second, .val (.long vt), .second, .val (.long lv), .second, .val (.long rm), .second, .val (.long vx), .second, .val (.int md), .val (.long vb), .second, .val (.ref b25), .val (.int (1 : Int32)), .unset, .unset, .unset, .unset, .unset] [(.int (1 : Int32))])) _
    refine XS.istore X33.here hx rfl (hb hby at_157) rfl (l' := #[.val (.long q1), .second, .val (.long q2), .second, .val (.long q3), .second, .val (.long q4), .second, .val (.int p5), .val (.long (9223372036854775807 : Int64)), .second, .val (.long lim), .second, .val (.long va), .second, .val (.long vt), .second, .val (.long lv), .second, .val (.long rm), .second, .val (.long vx), .second, .val (.int md), .val (.long vb), .second, .val (.ref b25), .val (.int (1 : Int32)), .val (.int (1 : Int32)), .unset, .unset, .unset, .unset]) rfl ?_
    show Steps p.tables e below (T33.setTop (mkF m 159 #[.val (.long q1), .second, .val (.long q2), .second, .val (.long q3), .second, .val (.long q4), .second, .val (.int p5), .val (.long (9223372036854775807 : Int64)), .second, .val (.long lim), .second, .val (.long va), .second, .val (.long vt), .second, .val (.long lv), .second, .val (.long rm), .second, .val (.long vx), .second, .val (.int md), .val (.long vb), .second, .val (.ref b25), .val (.int (1 : Int32)), .val (.int (1 : Int32)), .unset, .unset, .unset, .unset] [])) _
    refine XS.aload X33.here hx rfl (hb hby at_159) rfl rfl ?_
    show Steps p.tables e below (T33.setTop (mkF m 161 #[.val (.long q1), .second, .val (.long q2), .second, .val (.long q3), .second, .val (.long q4), .second, .val (.int p5), .val (.long (9223372036854775807 : Int64)), .second, .val (.long lim), .second, .val (.long va), .second, .val (.long vt), .second, .val (.long lv), .second, .val (.long rm), .second, .val (.long vx), .second, .val (.int md), .val (.long vb), .second, .val (.ref b25), .val (.int (1 : Int32)), .val (.int (1 : Int32)), .unset, .unset, .unset, .unset] [(.ref b25)])) _
    refine XS.lload X33.here hx rfl (hb hby at_161) rfl ?_
    show Steps p.tables e below (T33.setTop (mkF m 163 #[.val (.long q1), .second, .val (.long q2), .second, .val (.long q3), .second, .val (.long q4), .second, .val (.int p5), .val (.long (9223372036854775807 : Int64)), .second, .val (.long lim), .second, .val (.long va), .second, .val (.long vt), .second, .val (.long lv), .second, .val (.long rm), .second, .val (.long vx), .second, .val (.int md), .val (.long vb), .second, .val (.ref b25), .val (.int (1 : Int32)), .val (.int (1 : Int32)), .unset, .unset, .unset, .unset] [(.long vb), (.ref b25)])) _
    refine XS.lload X33.here hx rfl (hb hby at_163) rfl ?_
    exact kk)
  obtain ⟨cq35, kq35, q35a, q35b, q35c⟩ := isOf hZ e33 f31
  obtain ⟨_, _, ⟨T35, L35, kx35, nx35⟩, -, X35, ⟨Lc35, hQ35, l35, y35, z35⟩, st35⟩ := X33.virtualBack hx (y := (⟨"com/example/wasserstand/wasserstand/network/MemoryPool", "take", "(JJ)Z"⟩ : MethodName)) (z := (⟨"com/example/wasserstand/wasserstand/network/MemoryPool", "take", "(JJ)Z"⟩ : MethodName)) hown (mvT hZ (hw _ (List.mem_of_getElem? (i := 12) rfl))) (mvT hZ (hw _ (List.mem_of_getElem? (i := 13) rfl))) (notFace_of_selects (args := #[]) (mvT hZ (hw _ (List.mem_of_getElem? (i := 15) rfl)))) (mvT hZ (hw _ (List.mem_of_getElem? (i := 15) rfl))) (mvT hZ (hw _ (List.mem_of_getElem? (i := 14) rfl))) (by decide) (backOf (W := 0) (rmT l Z a0 hw [] b25 vb lv lim vt T30.heap n0 Zs30 c30_0 c30_1 f31 ge_b25) hZ (hw _ (List.mem_of_getElem? (i := 16) rfl)) (hw _ (List.mem_of_getElem? (i := 3) rfl)) (by decide) (by decide)) q35a q35c (g := (mkF m 165 #[.val (.long q1), .second, .val (.long q2), .second, .val (.long q3), .second, .val (.long q4), .second, .val (.int p5), .val (.long (9223372036854775807 : Int64)), .second, .val (.long lim), .second, .val (.long va), .second, .val (.long vt), .second, .val (.long lv), .second, .val (.long rm), .second, .val (.long vx), .second, .val (.int md), .val (.long vb), .second, .val (.ref b25), .val (.int (1 : Int32)), .val (.int (1 : Int32)), .unset, .unset, .unset, .unset] [(.long lv), (.long vb), (.ref b25)])) rfl (by rw [hml]; rfl) (Steps.refl _) (argsL := [(.long vb), (.long lv)]) (rest := []) (lenOf pd_2 rfl) rfl (by show 2 * 0 + _ ≤ _; exact Nat.le_of_eq rfl) (hb hby at_165) (fun _ _ => ⟨rfl, e33, (by decide : 1 + 0 ≤ _), (by decide : 2 + 0 ≤ _)⟩)
  dsimp only [Pt.U, Pt.locs, Pt.cells, Pt.slots] at X35 l35 y35 z35 st35 hQ35
  subst l35 y35 z35
  obtain ⟨rfl, N35q, K35q, c35_0, c35_1⟩ := hQ35
  have N35 := Fr.app N30 N35q
  have f36 := f31.keep K35q
  have K35 := (K30).trans K35q (allS (Or.inr sz_b25) all0)
  have Zs35 : n0 ≤ T35.heap.size := Nat.le_trans Zs30 K35q.1
  have k35 : Go p e below (s₁.setTop (entryFrame m #[(.long q1), (.long q2), (.long q3), (.long q4), (.int p5)] maxLocals)) (T35.setTop (mkF m 168 #[.val (.long q1), .second, .val (.long q2), .second, .val (.long q3), .second, .val (.long q4), .second, .val (.int p5), .val (.long (9223372036854775807 : Int64)), .second, .val (.long lim), .second, .val (.long va), .second, .val (.long vt), .second, .val (.long lv), .second, .val (.long rm), .second, .val (.long vx), .second, .val (.int md), .val (.long vb), .second, .val (.ref b25), .val (.int (1 : Int32)), .val (.int (1 : Int32)), .unset, .unset, .unset, .unset] [(.int (own_take vb lv lim vt))])) := fun t kk => k34 t (st35.trans kk)
  obtain ⟨se1, se2⟩ := own_second b1 b3 b4 b6 h_rm
  have k37 : Go p e below (s₁.setTop (entryFrame m #[(.long q1), (.long q2), (.long q3), (.long q4), (.int p5)] maxLocals)) (T35.setTop (mkF m 170 #[.val (.long q1), .second, .val (.long q2), .second, .val (.long q3), .second, .val (.long q4), .second, .val (.int p5), .val (.long (9223372036854775807 : Int64)), .second, .val (.long lim), .second, .val (.long va), .second, .val (.long vt), .second, .val (.long lv), .second, .val (.long rm), .second, .val (.long vx), .second, .val (.int md), .val (.long vb), .second, .val (.ref b25), .val (.int (1 : Int32)), .val (.int (1 : Int32)), .val (.int (own_take vb lv lim vt)), .unset, .unset, .unset] [])) := fun t kk => k35 t (by
    show Steps p.tables e below (T35.setTop (mkF m 168 #[.val (.long q1), .second, .val (.long q2), .second, .val (.long q3), .second, .val (.long q4), .second, .val (.int p5), .val (.long (9223372036854775807 : Int64)), .second, .val (.long lim), .second, .val (.long va), .second, .val (.long vt), .second, .val (.long lv), .second, .val (.long rm), .second, .val (.long vx), .second, .val (.int md), .val (.long vb), .second, .val (.ref b25), .val (.int (1 : Int32)), .val (.int (1 : Int32)), .unset, .unset, .unset, .unset] [(.int (own_take vb lv lim vt))])) _
    refine XS.istore X35.here hx rfl (hb hby at_168) rfl (l' := #[.val (.long q1), .second, .val (.long q2), .second, .val (.long q3), .second, .val (.long q4), .second, .val (.int p5), .val (.long (9223372036854775807 : Int64)), .second, .val (.long lim), .second, .val (.long va), .second, .val (.long vt), .second, .val (.long lv), .second, .val (.long rm), .second, .val (.long vx), .second, .val (.int md), .val (.long vb), .second, .val (.ref b25), .val (.int (1 : Int32)), .val (.int (1 : Int32)), .val (.int (own_take vb lv lim vt)), .unset, .unset, .unset]) rfl ?_
    exact kk)
  obtain ⟨vd, hj38, k38⟩ : ∃ vd : Int32, (vd = own_expd vb lv rm) ∧ Go p e below (s₁.setTop (entryFrame m #[(.long q1), (.long q2), (.long q3), (.long q4), (.int p5)] maxLocals)) (T35.setTop (mkF m 194 #[.val (.long q1), .second, .val (.long q2), .second, .val (.long q3), .second, .val (.long q4), .second, .val (.int p5), .val (.long (9223372036854775807 : Int64)), .second, .val (.long lim), .second, .val (.long va), .second, .val (.long vt), .second, .val (.long lv), .second, .val (.long rm), .second, .val (.long vx), .second, .val (.int md), .val (.long vb), .second, .val (.ref b25), .val (.int (1 : Int32)), .val (.int (1 : Int32)), .val (.int (own_take vb lv lim vt)), .unset, .unset, .unset] [(.int vd)])) := by
    have k40 : Go p e below (s₁.setTop (entryFrame m #[(.long q1), (.long q2), (.long q3), (.long q4), (.int p5)] maxLocals)) (T35.setTop (mkF m 175 #[.val (.long q1), .second, .val (.long q2), .second, .val (.long q3), .second, .val (.long q4), .second, .val (.int p5), .val (.long (9223372036854775807 : Int64)), .second, .val (.long lim), .second, .val (.long va), .second, .val (.long vt), .second, .val (.long lv), .second, .val (.long rm), .second, .val (.long vx), .second, .val (.int md), .val (.long vb), .second, .val (.ref b25), .val (.int (1 : Int32)), .val (.int (1 : Int32)), .val (.int (own_take vb lv lim vt)), .unset, .unset, .unset] [(.int (lcmpW vb rm))])) := fun t kk => k37 t (by
      show Steps p.tables e below (T35.setTop (mkF m 170 #[.val (.long q1), .second, .val (.long q2), .second, .val (.long q3), .second, .val (.long q4), .second, .val (.int p5), .val (.long (9223372036854775807 : Int64)), .second, .val (.long lim), .second, .val (.long va), .second, .val (.long vt), .second, .val (.long lv), .second, .val (.long rm), .second, .val (.long vx), .second, .val (.int md), .val (.long vb), .second, .val (.ref b25), .val (.int (1 : Int32)), .val (.int (1 : Int32)), .val (.int (own_take vb lv lim vt)), .unset, .unset, .unset] [])) _
      refine XS.lload X35.here hx rfl (hb hby at_170) rfl ?_
      show Steps p.tables e below (T35.setTop (mkF m 172 #[.val (.long q1), .second, .val (.long q2), .second, .val (.long q3), .second, .val (.long q4), .second, .val (.int p5), .val (.long (9223372036854775807 : Int64)), .second, .val (.long lim), .second, .val (.long va), .second, .val (.long vt), .second, .val (.long lv), .second, .val (.long rm), .second, .val (.long vx), .second, .val (.int md), .val (.long vb), .second, .val (.ref b25), .val (.int (1 : Int32)), .val (.int (1 : Int32)), .val (.int (own_take vb lv lim vt)), .unset, .unset, .unset] [(.long vb)])) _
      refine XS.lload X35.here hx rfl (hb hby at_172) rfl ?_
      show Steps p.tables e below (T35.setTop (mkF m 174 #[.val (.long q1), .second, .val (.long q2), .second, .val (.long q3), .second, .val (.long q4), .second, .val (.int p5), .val (.long (9223372036854775807 : Int64)), .second, .val (.long lim), .second, .val (.long va), .second, .val (.long vt), .second, .val (.long lv), .second, .val (.long rm), .second, .val (.long vx), .second, .val (.int md), .val (.long vb), .second, .val (.ref b25), .val (.int (1 : Int32)), .val (.int (1 : Int32)), .val (.int (own_take vb lv lim vt)), .unset, .unset, .unset] [(.long rm), (.long vb)])) _
      refine XS.lcmp X35.here hx rfl (hb hby at_174) rfl ?_
      exact kk)
    by_cases hc175_39 : rm < vb
    · have k41 : Go p e below (s₁.setTop (entryFrame m #[(.long q1), (.long q2), (.long q3), (.long q4), (.int p5)] maxLocals)) (T35.setTop (mkF m 194 #[.val (.long q1), .second, .val (.long q2), .second, .val (.long q3), .second, .val (.long q4), .second, .val (.int p5), .val (.long (9223372036854775807 : Int64)), .second, .val (.long lim), .second, .val (.long va), .second, .val (.long vt), .second, .val (.long lv), .second, .val (.long rm), .second, .val (.long vx), .second, .val (.int md), .val (.long vb), .second, .val (.ref b25), .val (.int (1 : Int32)), .val (.int (1 : Int32)), .val (.int (own_take vb lv lim vt)), .unset, .unset, .unset] [(.int (0 : Int32))])) := fun t kk => k40 t (by
        show Steps p.tables e below (T35.setTop (mkF m 175 #[.val (.long q1), .second, .val (.long q2), .second, .val (.long q3), .second, .val (.long q4), .second, .val (.int p5), .val (.long (9223372036854775807 : Int64)), .second, .val (.long lim), .second, .val (.long va), .second, .val (.long vt), .second, .val (.long lv), .second, .val (.long rm), .second, .val (.long vx), .second, .val (.int md), .val (.long vb), .second, .val (.ref b25), .val (.int (1 : Int32)), .val (.int (1 : Int32)), .val (.int (own_take vb lv lim vt)), .unset, .unset, .unset] [(.int (lcmpW vb rm))])) _
        refine XS.ifYes X35.here hx rfl (pc0 := 175) (pc' := 193) rfl (hb hby at_175) rfl ((if0 _ _).trans (tlt ((lw_gt _ _).mpr hc175_39)).2.2.1) (by decide) (by decide) ?_
        show Steps p.tables e below (T35.setTop (mkF m 193 #[.val (.long q1), .second, .val (.long q2), .second, .val (.long q3), .second, .val (.long q4), .second, .val (.int p5), .val (.long (9223372036854775807 : Int64)), .second, .val (.long lim), .second, .val (.long va), .second, .val (.long vt), .second, .val (.long lv), .second, .val (.long rm), .second, .val (.long vx), .second, .val (.int md), .val (.long vb), .second, .val (.ref b25), .val (.int (1 : Int32)), .val (.int (1 : Int32)), .val (.int (own_take vb lv lim vt)), .unset, .unset, .unset] [])) _
        refine XS.iconst X35.here hx rfl (hb hby at_193) ?_
        exact kk)
      exact ⟨(0 : Int32), by simp [own_expd, hd1, hc175_39], k41⟩
    · have k43 : Go p e below (s₁.setTop (entryFrame m #[(.long q1), (.long q2), (.long q3), (.long q4), (.int p5)] maxLocals)) (T35.setTop (mkF m 186 #[.val (.long q1), .second, .val (.long q2), .second, .val (.long q3), .second, .val (.long q4), .second, .val (.int p5), .val (.long (9223372036854775807 : Int64)), .second, .val (.long lim), .second, .val (.long va), .second, .val (.long vt), .second, .val (.long lv), .second, .val (.long rm), .second, .val (.long vx), .second, .val (.int md), .val (.long vb), .second, .val (.ref b25), .val (.int (1 : Int32)), .val (.int (1 : Int32)), .val (.int (own_take vb lv lim vt)), .unset, .unset, .unset] [(.int (lcmpW lv (rm - vb)))])) := fun t kk => k40 t (by
        show Steps p.tables e below (T35.setTop (mkF m 175 #[.val (.long q1), .second, .val (.long q2), .second, .val (.long q3), .second, .val (.long q4), .second, .val (.int p5), .val (.long (9223372036854775807 : Int64)), .second, .val (.long lim), .second, .val (.long va), .second, .val (.long vt), .second, .val (.long lv), .second, .val (.long rm), .second, .val (.long vx), .second, .val (.int md), .val (.long vb), .second, .val (.ref b25), .val (.int (1 : Int32)), .val (.int (1 : Int32)), .val (.int (own_take vb lv lim vt)), .unset, .unset, .unset] [(.int (lcmpW vb rm))])) _
        refine XS.ifNo X35.here hx rfl (hb hby at_175) rfl ((if0 _ _).trans (flt (fun q => hc175_39 ((lw_gt _ _).mp q))).2.2.1) ?_
        show Steps p.tables e below (T35.setTop (mkF m 178 #[.val (.long q1), .second, .val (.long q2), .second, .val (.long q3), .second, .val (.long q4), .second, .val (.int p5), .val (.long (9223372036854775807 : Int64)), .second, .val (.long lim), .second, .val (.long va), .second, .val (.long vt), .second, .val (.long lv), .second, .val (.long rm), .second, .val (.long vx), .second, .val (.int md), .val (.long vb), .second, .val (.ref b25), .val (.int (1 : Int32)), .val (.int (1 : Int32)), .val (.int (own_take vb lv lim vt)), .unset, .unset, .unset] [])) _
        refine XS.lload X35.here hx rfl (hb hby at_178) rfl ?_
        show Steps p.tables e below (T35.setTop (mkF m 180 #[.val (.long q1), .second, .val (.long q2), .second, .val (.long q3), .second, .val (.long q4), .second, .val (.int p5), .val (.long (9223372036854775807 : Int64)), .second, .val (.long lim), .second, .val (.long va), .second, .val (.long vt), .second, .val (.long lv), .second, .val (.long rm), .second, .val (.long vx), .second, .val (.int md), .val (.long vb), .second, .val (.ref b25), .val (.int (1 : Int32)), .val (.int (1 : Int32)), .val (.int (own_take vb lv lim vt)), .unset, .unset, .unset] [(.long lv)])) _
        refine XS.lload X35.here hx rfl (hb hby at_180) rfl ?_
        show Steps p.tables e below (T35.setTop (mkF m 182 #[.val (.long q1), .second, .val (.long q2), .second, .val (.long q3), .second, .val (.long q4), .second, .val (.int p5), .val (.long (9223372036854775807 : Int64)), .second, .val (.long lim), .second, .val (.long va), .second, .val (.long vt), .second, .val (.long lv), .second, .val (.long rm), .second, .val (.long vx), .second, .val (.int md), .val (.long vb), .second, .val (.ref b25), .val (.int (1 : Int32)), .val (.int (1 : Int32)), .val (.int (own_take vb lv lim vt)), .unset, .unset, .unset] [(.long rm), (.long lv)])) _
        refine XS.lload X35.here hx rfl (hb hby at_182) rfl ?_
        show Steps p.tables e below (T35.setTop (mkF m 184 #[.val (.long q1), .second, .val (.long q2), .second, .val (.long q3), .second, .val (.long q4), .second, .val (.int p5), .val (.long (9223372036854775807 : Int64)), .second, .val (.long lim), .second, .val (.long va), .second, .val (.long vt), .second, .val (.long lv), .second, .val (.long rm), .second, .val (.long vx), .second, .val (.int md), .val (.long vb), .second, .val (.ref b25), .val (.int (1 : Int32)), .val (.int (1 : Int32)), .val (.int (own_take vb lv lim vt)), .unset, .unset, .unset] [(.long vb), (.long rm), (.long lv)])) _
        refine XS.lsub X35.here hx rfl (hb hby at_184) rfl ?_
        show Steps p.tables e below (T35.setTop (mkF m 185 #[.val (.long q1), .second, .val (.long q2), .second, .val (.long q3), .second, .val (.long q4), .second, .val (.int p5), .val (.long (9223372036854775807 : Int64)), .second, .val (.long lim), .second, .val (.long va), .second, .val (.long vt), .second, .val (.long lv), .second, .val (.long rm), .second, .val (.long vx), .second, .val (.int md), .val (.long vb), .second, .val (.ref b25), .val (.int (1 : Int32)), .val (.int (1 : Int32)), .val (.int (own_take vb lv lim vt)), .unset, .unset, .unset] [(.long (rm - vb)), (.long lv)])) _
        refine XS.lcmp X35.here hx rfl (hb hby at_185) rfl ?_
        exact kk)
      by_cases hc186_42 : (rm - vb) < lv
      · have k44 : Go p e below (s₁.setTop (entryFrame m #[(.long q1), (.long q2), (.long q3), (.long q4), (.int p5)] maxLocals)) (T35.setTop (mkF m 194 #[.val (.long q1), .second, .val (.long q2), .second, .val (.long q3), .second, .val (.long q4), .second, .val (.int p5), .val (.long (9223372036854775807 : Int64)), .second, .val (.long lim), .second, .val (.long va), .second, .val (.long vt), .second, .val (.long lv), .second, .val (.long rm), .second, .val (.long vx), .second, .val (.int md), .val (.long vb), .second, .val (.ref b25), .val (.int (1 : Int32)), .val (.int (1 : Int32)), .val (.int (own_take vb lv lim vt)), .unset, .unset, .unset] [(.int (0 : Int32))])) := fun t kk => k43 t (by
          show Steps p.tables e below (T35.setTop (mkF m 186 #[.val (.long q1), .second, .val (.long q2), .second, .val (.long q3), .second, .val (.long q4), .second, .val (.int p5), .val (.long (9223372036854775807 : Int64)), .second, .val (.long lim), .second, .val (.long va), .second, .val (.long vt), .second, .val (.long lv), .second, .val (.long rm), .second, .val (.long vx), .second, .val (.int md), .val (.long vb), .second, .val (.ref b25), .val (.int (1 : Int32)), .val (.int (1 : Int32)), .val (.int (own_take vb lv lim vt)), .unset, .unset, .unset] [(.int (lcmpW lv (rm - vb)))])) _
          refine XS.ifYes X35.here hx rfl (pc0 := 186) (pc' := 193) rfl (hb hby at_186) rfl ((if0 _ _).trans (tlt ((lw_gt _ _).mpr hc186_42)).2.2.1) (by decide) (by decide) ?_
          show Steps p.tables e below (T35.setTop (mkF m 193 #[.val (.long q1), .second, .val (.long q2), .second, .val (.long q3), .second, .val (.long q4), .second, .val (.int p5), .val (.long (9223372036854775807 : Int64)), .second, .val (.long lim), .second, .val (.long va), .second, .val (.long vt), .second, .val (.long lv), .second, .val (.long rm), .second, .val (.long vx), .second, .val (.int md), .val (.long vb), .second, .val (.ref b25), .val (.int (1 : Int32)), .val (.int (1 : Int32)), .val (.int (own_take vb lv lim vt)), .unset, .unset, .unset] [])) _
          refine XS.iconst X35.here hx rfl (hb hby at_193) ?_
          exact kk)
        exact ⟨(0 : Int32), by simp [own_expd, hd1, hc175_39, hc186_42], k44⟩
      · have k45 : Go p e below (s₁.setTop (entryFrame m #[(.long q1), (.long q2), (.long q3), (.long q4), (.int p5)] maxLocals)) (T35.setTop (mkF m 194 #[.val (.long q1), .second, .val (.long q2), .second, .val (.long q3), .second, .val (.long q4), .second, .val (.int p5), .val (.long (9223372036854775807 : Int64)), .second, .val (.long lim), .second, .val (.long va), .second, .val (.long vt), .second, .val (.long lv), .second, .val (.long rm), .second, .val (.long vx), .second, .val (.int md), .val (.long vb), .second, .val (.ref b25), .val (.int (1 : Int32)), .val (.int (1 : Int32)), .val (.int (own_take vb lv lim vt)), .unset, .unset, .unset] [(.int (1 : Int32))])) := fun t kk => k43 t (by
          show Steps p.tables e below (T35.setTop (mkF m 186 #[.val (.long q1), .second, .val (.long q2), .second, .val (.long q3), .second, .val (.long q4), .second, .val (.int p5), .val (.long (9223372036854775807 : Int64)), .second, .val (.long lim), .second, .val (.long va), .second, .val (.long vt), .second, .val (.long lv), .second, .val (.long rm), .second, .val (.long vx), .second, .val (.int md), .val (.long vb), .second, .val (.ref b25), .val (.int (1 : Int32)), .val (.int (1 : Int32)), .val (.int (own_take vb lv lim vt)), .unset, .unset, .unset] [(.int (lcmpW lv (rm - vb)))])) _
          refine XS.ifNo X35.here hx rfl (hb hby at_186) rfl ((if0 _ _).trans (flt (fun q => hc186_42 ((lw_gt _ _).mp q))).2.2.1) ?_
          show Steps p.tables e below (T35.setTop (mkF m 189 #[.val (.long q1), .second, .val (.long q2), .second, .val (.long q3), .second, .val (.long q4), .second, .val (.int p5), .val (.long (9223372036854775807 : Int64)), .second, .val (.long lim), .second, .val (.long va), .second, .val (.long vt), .second, .val (.long lv), .second, .val (.long rm), .second, .val (.long vx), .second, .val (.int md), .val (.long vb), .second, .val (.ref b25), .val (.int (1 : Int32)), .val (.int (1 : Int32)), .val (.int (own_take vb lv lim vt)), .unset, .unset, .unset] [])) _
          refine XS.iconst X35.here hx rfl (hb hby at_189) ?_
          show Steps p.tables e below (T35.setTop (mkF m 190 #[.val (.long q1), .second, .val (.long q2), .second, .val (.long q3), .second, .val (.long q4), .second, .val (.int p5), .val (.long (9223372036854775807 : Int64)), .second, .val (.long lim), .second, .val (.long va), .second, .val (.long vt), .second, .val (.long lv), .second, .val (.long rm), .second, .val (.long vx), .second, .val (.int md), .val (.long vb), .second, .val (.ref b25), .val (.int (1 : Int32)), .val (.int (1 : Int32)), .val (.int (own_take vb lv lim vt)), .unset, .unset, .unset] [(.int (1 : Int32))])) _
          refine XS.goto X35.here hx rfl (pc0 := 190) (pc' := 194) rfl (hb hby at_190) (by decide) (by decide) ?_
          exact kk)
        exact ⟨(1 : Int32), by simp [own_expd, hd1, hc175_39, hc186_42], k45⟩
  have k46 : Go p e below (s₁.setTop (entryFrame m #[(.long q1), (.long q2), (.long q3), (.long q4), (.int p5)] maxLocals)) (T35.setTop (mkF m 198 #[.val (.long q1), .second, .val (.long q2), .second, .val (.long q3), .second, .val (.long q4), .second, .val (.int p5), .val (.long (9223372036854775807 : Int64)), .second, .val (.long lim), .second, .val (.long va), .second, .val (.long vt), .second, .val (.long lv), .second, .val (.long rm), .second, .val (.long vx), .second, .val (.int md), .val (.long vb), .second, .val (.ref b25), .val (.int (1 : Int32)), .val (.int (1 : Int32)), .val (.int (own_take vb lv lim vt)), .val (.int vd), .unset, .unset] [(.int vd)])) := fun t kk => k38 t (by
    show Steps p.tables e below (T35.setTop (mkF m 194 #[.val (.long q1), .second, .val (.long q2), .second, .val (.long q3), .second, .val (.long q4), .second, .val (.int p5), .val (.long (9223372036854775807 : Int64)), .second, .val (.long lim), .second, .val (.long va), .second, .val (.long vt), .second, .val (.long lv), .second, .val (.long rm), .second, .val (.long vx), .second, .val (.int md), .val (.long vb), .second, .val (.ref b25), .val (.int (1 : Int32)), .val (.int (1 : Int32)), .val (.int (own_take vb lv lim vt)), .unset, .unset, .unset] [(.int vd)])) _
    refine XS.istore X35.here hx rfl (hb hby at_194) rfl (l' := #[.val (.long q1), .second, .val (.long q2), .second, .val (.long q3), .second, .val (.long q4), .second, .val (.int p5), .val (.long (9223372036854775807 : Int64)), .second, .val (.long lim), .second, .val (.long va), .second, .val (.long vt), .second, .val (.long lv), .second, .val (.long rm), .second, .val (.long vx), .second, .val (.int md), .val (.long vb), .second, .val (.ref b25), .val (.int (1 : Int32)), .val (.int (1 : Int32)), .val (.int (own_take vb lv lim vt)), .val (.int vd), .unset, .unset]) rfl ?_
    show Steps p.tables e below (T35.setTop (mkF m 196 #[.val (.long q1), .second, .val (.long q2), .second, .val (.long q3), .second, .val (.long q4), .second, .val (.int p5), .val (.long (9223372036854775807 : Int64)), .second, .val (.long lim), .second, .val (.long va), .second, .val (.long vt), .second, .val (.long lv), .second, .val (.long rm), .second, .val (.long vx), .second, .val (.int md), .val (.long vb), .second, .val (.ref b25), .val (.int (1 : Int32)), .val (.int (1 : Int32)), .val (.int (own_take vb lv lim vt)), .val (.int vd), .unset, .unset] [])) _
    refine XS.iload X35.here hx rfl (hb hby at_196) rfl ?_
    exact kk)
  obtain ⟨ve, hj47, k47⟩ : ∃ ve : Int64, (ve = own_left vb lv rm) ∧ Go p e below (s₁.setTop (entryFrame m #[(.long q1), (.long q2), (.long q3), (.long q4), (.int p5)] maxLocals)) (T35.setTop (mkF m 211 #[.val (.long q1), .second, .val (.long q2), .second, .val (.long q3), .second, .val (.long q4), .second, .val (.int p5), .val (.long (9223372036854775807 : Int64)), .second, .val (.long lim), .second, .val (.long va), .second, .val (.long vt), .second, .val (.long lv), .second, .val (.long rm), .second, .val (.long vx), .second, .val (.int md), .val (.long vb), .second, .val (.ref b25), .val (.int (1 : Int32)), .val (.int (1 : Int32)), .val (.int (own_take vb lv lim vt)), .val (.int vd), .unset, .unset] [(.long ve)])) := by
    by_cases hc198_48 : vd = (0 : Int32)
    · have k49 : Go p e below (s₁.setTop (entryFrame m #[(.long q1), (.long q2), (.long q3), (.long q4), (.int p5)] maxLocals)) (T35.setTop (mkF m 211 #[.val (.long q1), .second, .val (.long q2), .second, .val (.long q3), .second, .val (.long q4), .second, .val (.int p5), .val (.long (9223372036854775807 : Int64)), .second, .val (.long lim), .second, .val (.long va), .second, .val (.long vt), .second, .val (.long lv), .second, .val (.long rm), .second, .val (.long vx), .second, .val (.int md), .val (.long vb), .second, .val (.ref b25), .val (.int (1 : Int32)), .val (.int (1 : Int32)), .val (.int (own_take vb lv lim vt)), .val (.int vd), .unset, .unset] [(.long rm)])) := fun t kk => k46 t (by
        show Steps p.tables e below (T35.setTop (mkF m 198 #[.val (.long q1), .second, .val (.long q2), .second, .val (.long q3), .second, .val (.long q4), .second, .val (.int p5), .val (.long (9223372036854775807 : Int64)), .second, .val (.long lim), .second, .val (.long va), .second, .val (.long vt), .second, .val (.long lv), .second, .val (.long rm), .second, .val (.long vx), .second, .val (.int md), .val (.long vb), .second, .val (.ref b25), .val (.int (1 : Int32)), .val (.int (1 : Int32)), .val (.int (own_take vb lv lim vt)), .val (.int vd), .unset, .unset] [(.int vd)])) _
        refine XS.ifYes X35.here hx rfl (pc0 := 198) (pc' := 209) rfl (hb hby at_198) rfl ((if0 _ _).trans (teq hc198_48).1) (by decide) (by decide) ?_
        show Steps p.tables e below (T35.setTop (mkF m 209 #[.val (.long q1), .second, .val (.long q2), .second, .val (.long q3), .second, .val (.long q4), .second, .val (.int p5), .val (.long (9223372036854775807 : Int64)), .second, .val (.long lim), .second, .val (.long va), .second, .val (.long vt), .second, .val (.long lv), .second, .val (.long rm), .second, .val (.long vx), .second, .val (.int md), .val (.long vb), .second, .val (.ref b25), .val (.int (1 : Int32)), .val (.int (1 : Int32)), .val (.int (own_take vb lv lim vt)), .val (.int vd), .unset, .unset] [])) _
        refine XS.lload X35.here hx rfl (hb hby at_209) rfl ?_
        exact kk)
      exact ⟨rm, by simp [own_left, ← hj38, hc198_48], k49⟩
    · have k50 : Go p e below (s₁.setTop (entryFrame m #[(.long q1), (.long q2), (.long q3), (.long q4), (.int p5)] maxLocals)) (T35.setTop (mkF m 211 #[.val (.long q1), .second, .val (.long q2), .second, .val (.long q3), .second, .val (.long q4), .second, .val (.int p5), .val (.long (9223372036854775807 : Int64)), .second, .val (.long lim), .second, .val (.long va), .second, .val (.long vt), .second, .val (.long lv), .second, .val (.long rm), .second, .val (.long vx), .second, .val (.int md), .val (.long vb), .second, .val (.ref b25), .val (.int (1 : Int32)), .val (.int (1 : Int32)), .val (.int (own_take vb lv lim vt)), .val (.int vd), .unset, .unset] [(.long (rm - vb))])) := fun t kk => k46 t (by
        show Steps p.tables e below (T35.setTop (mkF m 198 #[.val (.long q1), .second, .val (.long q2), .second, .val (.long q3), .second, .val (.long q4), .second, .val (.int p5), .val (.long (9223372036854775807 : Int64)), .second, .val (.long lim), .second, .val (.long va), .second, .val (.long vt), .second, .val (.long lv), .second, .val (.long rm), .second, .val (.long vx), .second, .val (.int md), .val (.long vb), .second, .val (.ref b25), .val (.int (1 : Int32)), .val (.int (1 : Int32)), .val (.int (own_take vb lv lim vt)), .val (.int vd), .unset, .unset] [(.int vd)])) _
        refine XS.ifNo X35.here hx rfl (hb hby at_198) rfl ((if0 _ _).trans (feq hc198_48).1) ?_
        show Steps p.tables e below (T35.setTop (mkF m 201 #[.val (.long q1), .second, .val (.long q2), .second, .val (.long q3), .second, .val (.long q4), .second, .val (.int p5), .val (.long (9223372036854775807 : Int64)), .second, .val (.long lim), .second, .val (.long va), .second, .val (.long vt), .second, .val (.long lv), .second, .val (.long rm), .second, .val (.long vx), .second, .val (.int md), .val (.long vb), .second, .val (.ref b25), .val (.int (1 : Int32)), .val (.int (1 : Int32)), .val (.int (own_take vb lv lim vt)), .val (.int vd), .unset, .unset] [])) _
        refine XS.lload X35.here hx rfl (hb hby at_201) rfl ?_
        show Steps p.tables e below (T35.setTop (mkF m 203 #[.val (.long q1), .second, .val (.long q2), .second, .val (.long q3), .second, .val (.long q4), .second, .val (.int p5), .val (.long (9223372036854775807 : Int64)), .second, .val (.long lim), .second, .val (.long va), .second, .val (.long vt), .second, .val (.long lv), .second, .val (.long rm), .second, .val (.long vx), .second, .val (.int md), .val (.long vb), .second, .val (.ref b25), .val (.int (1 : Int32)), .val (.int (1 : Int32)), .val (.int (own_take vb lv lim vt)), .val (.int vd), .unset, .unset] [(.long rm)])) _
        refine XS.lload X35.here hx rfl (hb hby at_203) rfl ?_
        show Steps p.tables e below (T35.setTop (mkF m 205 #[.val (.long q1), .second, .val (.long q2), .second, .val (.long q3), .second, .val (.long q4), .second, .val (.int p5), .val (.long (9223372036854775807 : Int64)), .second, .val (.long lim), .second, .val (.long va), .second, .val (.long vt), .second, .val (.long lv), .second, .val (.long rm), .second, .val (.long vx), .second, .val (.int md), .val (.long vb), .second, .val (.ref b25), .val (.int (1 : Int32)), .val (.int (1 : Int32)), .val (.int (own_take vb lv lim vt)), .val (.int vd), .unset, .unset] [(.long vb), (.long rm)])) _
        refine XS.lsub X35.here hx rfl (hb hby at_205) rfl ?_
        show Steps p.tables e below (T35.setTop (mkF m 206 #[.val (.long q1), .second, .val (.long q2), .second, .val (.long q3), .second, .val (.long q4), .second, .val (.int p5), .val (.long (9223372036854775807 : Int64)), .second, .val (.long lim), .second, .val (.long va), .second, .val (.long vt), .second, .val (.long lv), .second, .val (.long rm), .second, .val (.long vx), .second, .val (.int md), .val (.long vb), .second, .val (.ref b25), .val (.int (1 : Int32)), .val (.int (1 : Int32)), .val (.int (own_take vb lv lim vt)), .val (.int vd), .unset, .unset] [(.long (rm - vb))])) _
        refine XS.goto X35.here hx rfl (pc0 := 206) (pc' := 211) rfl (hb hby at_206) (by decide) (by decide) ?_
        exact kk)
      exact ⟨(rm - vb), by simp [own_left, ← hj38, hc198_48], k50⟩
  have hd2 : (own_take vb lv lim vt) = vd := by rw [hj38]; exact se1
  have hd3 : (lim - (own_taken vb lv lim vt)) = ve := by rw [hj47]; exact se2
  have k51 : Go p e below (s₁.setTop (entryFrame m #[(.long q1), (.long q2), (.long q3), (.long q4), (.int p5)] maxLocals)) (T35.setTop (mkF m 232 #[.val (.long q1), .second, .val (.long q2), .second, .val (.long q3), .second, .val (.long q4), .second, .val (.int p5), .val (.long (9223372036854775807 : Int64)), .second, .val (.long lim), .second, .val (.long va), .second, .val (.long vt), .second, .val (.long lv), .second, .val (.long rm), .second, .val (.long vx), .second, .val (.int md), .val (.long vb), .second, .val (.ref b25), .val (.int (1 : Int32)), .val (.int (1 : Int32)), .val (.int (own_take vb lv lim vt)), .val (.int vd), .val (.long ve), .second] [(.ref b25)])) := fun t kk => k47 t (by
    show Steps p.tables e below (T35.setTop (mkF m 211 #[.val (.long q1), .second, .val (.long q2), .second, .val (.long q3), .second, .val (.long q4), .second, .val (.int p5), .val (.long (9223372036854775807 : Int64)), .second, .val (.long lim), .second, .val (.long va), .second, .val (.long vt), .second, .val (.long lv), .second, .val (.long rm), .second, .val (.long vx), .second, .val (.int md), .val (.long vb), .second, .val (.ref b25), .val (.int (1 : Int32)), .val (.int (1 : Int32)), .val (.int (own_take vb lv lim vt)), .val (.int vd), .unset, .unset] [(.long ve)])) _
    refine XS.lstore X35.here hx rfl (hb hby at_211) rfl (l' := #[.val (.long q1), .second, .val (.long q2), .second, .val (.long q3), .second, .val (.long q4), .second, .val (.int p5), .val (.long (9223372036854775807 : Int64)), .second, .val (.long lim), .second, .val (.long va), .second, .val (.long vt), .second, .val (.long lv), .second, .val (.long rm), .second, .val (.long vx), .second, .val (.int md), .val (.long vb), .second, .val (.ref b25), .val (.int (1 : Int32)), .val (.int (1 : Int32)), .val (.int (own_take vb lv lim vt)), .val (.int vd), .val (.long ve), .second]) rfl ?_
    show Steps p.tables e below (T35.setTop (mkF m 213 #[.val (.long q1), .second, .val (.long q2), .second, .val (.long q3), .second, .val (.long q4), .second, .val (.int p5), .val (.long (9223372036854775807 : Int64)), .second, .val (.long lim), .second, .val (.long va), .second, .val (.long vt), .second, .val (.long lv), .second, .val (.long rm), .second, .val (.long vx), .second, .val (.int md), .val (.long vb), .second, .val (.ref b25), .val (.int (1 : Int32)), .val (.int (1 : Int32)), .val (.int (own_take vb lv lim vt)), .val (.int vd), .val (.long ve), .second] [])) _
    refine XS.iload X35.here hx rfl (hb hby at_213) rfl ?_
    show Steps p.tables e below (T35.setTop (mkF m 215 #[.val (.long q1), .second, .val (.long q2), .second, .val (.long q3), .second, .val (.long q4), .second, .val (.int p5), .val (.long (9223372036854775807 : Int64)), .second, .val (.long lim), .second, .val (.long va), .second, .val (.long vt), .second, .val (.long lv), .second, .val (.long rm), .second, .val (.long vx), .second, .val (.int md), .val (.long vb), .second, .val (.ref b25), .val (.int (1 : Int32)), .val (.int (1 : Int32)), .val (.int (own_take vb lv lim vt)), .val (.int vd), .val (.long ve), .second] [(.int (1 : Int32))])) _
    refine XS.ifNo X35.here hx rfl (hb hby at_215) rfl ((if0 _ _).trans (feq (by decide : ¬ ((1 : Int32) = (0 : Int32)))).1) ?_
    show Steps p.tables e below (T35.setTop (mkF m 218 #[.val (.long q1), .second, .val (.long q2), .second, .val (.long q3), .second, .val (.long q4), .second, .val (.int p5), .val (.long (9223372036854775807 : Int64)), .second, .val (.long lim), .second, .val (.long va), .second, .val (.long vt), .second, .val (.long lv), .second, .val (.long rm), .second, .val (.long vx), .second, .val (.int md), .val (.long vb), .second, .val (.ref b25), .val (.int (1 : Int32)), .val (.int (1 : Int32)), .val (.int (own_take vb lv lim vt)), .val (.int vd), .val (.long ve), .second] [])) _
    refine XS.iload X35.here hx rfl (hb hby at_218) rfl ?_
    show Steps p.tables e below (T35.setTop (mkF m 220 #[.val (.long q1), .second, .val (.long q2), .second, .val (.long q3), .second, .val (.long q4), .second, .val (.int p5), .val (.long (9223372036854775807 : Int64)), .second, .val (.long lim), .second, .val (.long va), .second, .val (.long vt), .second, .val (.long lv), .second, .val (.long rm), .second, .val (.long vx), .second, .val (.int md), .val (.long vb), .second, .val (.ref b25), .val (.int (1 : Int32)), .val (.int (1 : Int32)), .val (.int (own_take vb lv lim vt)), .val (.int vd), .val (.long ve), .second] [(.int (1 : Int32))])) _
    refine XS.ifNo X35.here hx rfl (hb hby at_220) rfl ((if0 _ _).trans (feq (by decide : ¬ ((1 : Int32) = (0 : Int32)))).1) ?_
    show Steps p.tables e below (T35.setTop (mkF m 223 #[.val (.long q1), .second, .val (.long q2), .second, .val (.long q3), .second, .val (.long q4), .second, .val (.int p5), .val (.long (9223372036854775807 : Int64)), .second, .val (.long lim), .second, .val (.long va), .second, .val (.long vt), .second, .val (.long lv), .second, .val (.long rm), .second, .val (.long vx), .second, .val (.int md), .val (.long vb), .second, .val (.ref b25), .val (.int (1 : Int32)), .val (.int (1 : Int32)), .val (.int (own_take vb lv lim vt)), .val (.int vd), .val (.long ve), .second] [])) _
    refine XS.iload X35.here hx rfl (hb hby at_223) rfl ?_
    show Steps p.tables e below (T35.setTop (mkF m 225 #[.val (.long q1), .second, .val (.long q2), .second, .val (.long q3), .second, .val (.long q4), .second, .val (.int p5), .val (.long (9223372036854775807 : Int64)), .second, .val (.long lim), .second, .val (.long va), .second, .val (.long vt), .second, .val (.long lv), .second, .val (.long rm), .second, .val (.long vx), .second, .val (.int md), .val (.long vb), .second, .val (.ref b25), .val (.int (1 : Int32)), .val (.int (1 : Int32)), .val (.int (own_take vb lv lim vt)), .val (.int vd), .val (.long ve), .second] [(.int (own_take vb lv lim vt))])) _
    refine XS.iload X35.here hx rfl (hb hby at_225) rfl ?_
    show Steps p.tables e below (T35.setTop (mkF m 227 #[.val (.long q1), .second, .val (.long q2), .second, .val (.long q3), .second, .val (.long q4), .second, .val (.int p5), .val (.long (9223372036854775807 : Int64)), .second, .val (.long lim), .second, .val (.long va), .second, .val (.long vt), .second, .val (.long lv), .second, .val (.long rm), .second, .val (.long vx), .second, .val (.int md), .val (.long vb), .second, .val (.ref b25), .val (.int (1 : Int32)), .val (.int (1 : Int32)), .val (.int (own_take vb lv lim vt)), .val (.int vd), .val (.long ve), .second] [(.int vd), (.int (own_take vb lv lim vt))])) _
    refine XS.icmpNo X35.here hx rfl (hb hby at_227) rfl (teq hd2).2 ?_
    show Steps p.tables e below (T35.setTop (mkF m 230 #[.val (.long q1), .second, .val (.long q2), .second, .val (.long q3), .second, .val (.long q4), .second, .val (.int p5), .val (.long (9223372036854775807 : Int64)), .second, .val (.long lim), .second, .val (.long va), .second, .val (.long vt), .second, .val (.long lv), .second, .val (.long rm), .second, .val (.long vx), .second, .val (.int md), .val (.long vb), .second, .val (.ref b25), .val (.int (1 : Int32)), .val (.int (1 : Int32)), .val (.int (own_take vb lv lim vt)), .val (.int vd), .val (.long ve), .second] [])) _
    refine XS.aload X35.here hx rfl (hb hby at_230) rfl rfl ?_
    exact kk)
  obtain ⟨cq52, kq52, q52a, q52b, q52c⟩ := isOf hZ rfl f36
  obtain ⟨_, _, ⟨T52, L52, kx52, nx52⟩, -, X52, ⟨Lc52, hQ52, l52, y52, z52⟩, st52⟩ := X35.virtualBack hx (y := (⟨"com/example/wasserstand/wasserstand/network/MemoryPool", "left", "()J"⟩ : MethodName)) (z := (⟨"com/example/wasserstand/wasserstand/network/MemoryPool", "left", "()J"⟩ : MethodName)) hown (mvT hZ (hw _ (List.mem_of_getElem? (i := 19) rfl))) (mvT hZ (hw _ (List.mem_of_getElem? (i := 20) rfl))) (notFace_of_selects (args := #[]) (mvT hZ (hw _ (List.mem_of_getElem? (i := 22) rfl)))) (mvT hZ (hw _ (List.mem_of_getElem? (i := 22) rfl))) (mvT hZ (hw _ (List.mem_of_getElem? (i := 21) rfl))) (by decide) (backOf (W := 0) (rmL l Z a0 hw [] b25 lim (own_taken vb lv lim vt) T35.heap n0 Zs35 c35_0 c35_1) hZ (hw _ (List.mem_of_getElem? (i := 23) rfl)) (hw _ (List.mem_of_getElem? (i := 3) rfl)) (by decide) (by decide)) q52a q52c (g := (mkF m 232 #[.val (.long q1), .second, .val (.long q2), .second, .val (.long q3), .second, .val (.long q4), .second, .val (.int p5), .val (.long (9223372036854775807 : Int64)), .second, .val (.long lim), .second, .val (.long va), .second, .val (.long vt), .second, .val (.long lv), .second, .val (.long rm), .second, .val (.long vx), .second, .val (.int md), .val (.long vb), .second, .val (.ref b25), .val (.int (1 : Int32)), .val (.int (1 : Int32)), .val (.int (own_take vb lv lim vt)), .val (.int vd), .val (.long ve), .second] [(.ref b25)])) rfl (by rw [hml]; rfl) (Steps.refl _) (argsL := []) (rest := []) (lenOf pd_3 rfl) rfl (by show 2 * 0 + _ ≤ _; exact Nat.le_of_eq rfl) (hb hby at_232) (fun _ _ => ⟨rfl, rfl, (by decide : 1 + 0 ≤ _), (by decide : 2 + 0 ≤ _)⟩)
  dsimp only [Pt.U, Pt.locs, Pt.cells, Pt.slots] at X52 l52 y52 z52 st52 hQ52
  subst l52 y52 z52
  obtain ⟨rfl, rfl, e52⟩ := hQ52
  try rw [List.append_nil] at X52
  have k52 : Go p e below (s₁.setTop (entryFrame m #[(.long q1), (.long q2), (.long q3), (.long q4), (.int p5)] maxLocals)) (T52.setTop (mkF m 235 #[.val (.long q1), .second, .val (.long q2), .second, .val (.long q3), .second, .val (.long q4), .second, .val (.int p5), .val (.long (9223372036854775807 : Int64)), .second, .val (.long lim), .second, .val (.long va), .second, .val (.long vt), .second, .val (.long lv), .second, .val (.long rm), .second, .val (.long vx), .second, .val (.int md), .val (.long vb), .second, .val (.ref b25), .val (.int (1 : Int32)), .val (.int (1 : Int32)), .val (.int (own_take vb lv lim vt)), .val (.int vd), .val (.long ve), .second] [(.long (lim - (own_taken vb lv lim vt)))])) := fun t kk => k51 t (st52.trans kk)
  have k53 : Go p e below (s₁.setTop (entryFrame m #[(.long q1), (.long q2), (.long q3), (.long q4), (.int p5)] maxLocals)) (T52.setTop (mkF m 246 #[.val (.long q1), .second, .val (.long q2), .second, .val (.long q3), .second, .val (.long q4), .second, .val (.int p5), .val (.long (9223372036854775807 : Int64)), .second, .val (.long lim), .second, .val (.long va), .second, .val (.long vt), .second, .val (.long lv), .second, .val (.long rm), .second, .val (.long vx), .second, .val (.int md), .val (.long vb), .second, .val (.ref b25), .val (.int (1 : Int32)), .val (.int (1 : Int32)), .val (.int (own_take vb lv lim vt)), .val (.int vd), .val (.long ve), .second] [(.int (1 : Int32))])) := fun t kk => k52 t (by
    show Steps p.tables e below (T52.setTop (mkF m 235 #[.val (.long q1), .second, .val (.long q2), .second, .val (.long q3), .second, .val (.long q4), .second, .val (.int p5), .val (.long (9223372036854775807 : Int64)), .second, .val (.long lim), .second, .val (.long va), .second, .val (.long vt), .second, .val (.long lv), .second, .val (.long rm), .second, .val (.long vx), .second, .val (.int md), .val (.long vb), .second, .val (.ref b25), .val (.int (1 : Int32)), .val (.int (1 : Int32)), .val (.int (own_take vb lv lim vt)), .val (.int vd), .val (.long ve), .second] [(.long (lim - (own_taken vb lv lim vt)))])) _
    refine XS.lload X52.here hx rfl (hb hby at_235) rfl ?_
    show Steps p.tables e below (T52.setTop (mkF m 237 #[.val (.long q1), .second, .val (.long q2), .second, .val (.long q3), .second, .val (.long q4), .second, .val (.int p5), .val (.long (9223372036854775807 : Int64)), .second, .val (.long lim), .second, .val (.long va), .second, .val (.long vt), .second, .val (.long lv), .second, .val (.long rm), .second, .val (.long vx), .second, .val (.int md), .val (.long vb), .second, .val (.ref b25), .val (.int (1 : Int32)), .val (.int (1 : Int32)), .val (.int (own_take vb lv lim vt)), .val (.int vd), .val (.long ve), .second] [(.long ve), (.long (lim - (own_taken vb lv lim vt)))])) _
    refine XS.lcmp X52.here hx rfl (hb hby at_237) rfl ?_
    show Steps p.tables e below (T52.setTop (mkF m 238 #[.val (.long q1), .second, .val (.long q2), .second, .val (.long q3), .second, .val (.long q4), .second, .val (.int p5), .val (.long (9223372036854775807 : Int64)), .second, .val (.long lim), .second, .val (.long va), .second, .val (.long vt), .second, .val (.long lv), .second, .val (.long rm), .second, .val (.long vx), .second, .val (.int md), .val (.long vb), .second, .val (.ref b25), .val (.int (1 : Int32)), .val (.int (1 : Int32)), .val (.int (own_take vb lv lim vt)), .val (.int vd), .val (.long ve), .second] [(.int (lcmpW (lim - (own_taken vb lv lim vt)) ve))])) _
    refine XS.ifNo X52.here hx rfl (hb hby at_238) rfl ((if0 _ _).trans (teq ((lw_eq _ _).mpr hd3)).2) ?_
    show Steps p.tables e below (T52.setTop (mkF m 241 #[.val (.long q1), .second, .val (.long q2), .second, .val (.long q3), .second, .val (.long q4), .second, .val (.int p5), .val (.long (9223372036854775807 : Int64)), .second, .val (.long lim), .second, .val (.long va), .second, .val (.long vt), .second, .val (.long lv), .second, .val (.long rm), .second, .val (.long vx), .second, .val (.int md), .val (.long vb), .second, .val (.ref b25), .val (.int (1 : Int32)), .val (.int (1 : Int32)), .val (.int (own_take vb lv lim vt)), .val (.int vd), .val (.long ve), .second] [])) _
    refine XS.iconst X52.here hx rfl (hb hby at_241) ?_
    show Steps p.tables e below (T52.setTop (mkF m 242 #[.val (.long q1), .second, .val (.long q2), .second, .val (.long q3), .second, .val (.long q4), .second, .val (.int p5), .val (.long (9223372036854775807 : Int64)), .second, .val (.long lim), .second, .val (.long va), .second, .val (.long vt), .second, .val (.long lv), .second, .val (.long rm), .second, .val (.long vx), .second, .val (.int md), .val (.long vb), .second, .val (.ref b25), .val (.int (1 : Int32)), .val (.int (1 : Int32)), .val (.int (own_take vb lv lim vt)), .val (.int vd), .val (.long ve), .second] [(.int (1 : Int32))])) _
    refine XS.goto X52.here hx rfl (pc0 := 242) (pc' := 246) rfl (hb hby at_242) (by decide) (by decide) ?_
    exact kk)
  obtain ⟨fs, hr, hrun, hended, hW, hsame⟩ := X52.leave (v := some (.int (1 : Int32))) (fun h => by rw [Bd.returns] at h; cases h)
  refine ⟨_, _, k53 _ ?_, hrun, hended, _, _, rfl, ?_, ⟨_, rfl⟩, hW, hsame.mono (by decide) (by decide)⟩
  · show Steps p.tables e below (T52.setTop (mkF m 246 #[.val (.long q1), .second, .val (.long q2), .second, .val (.long q3), .second, .val (.long q4), .second, .val (.int p5), .val (.long (9223372036854775807 : Int64)), .second, .val (.long lim), .second, .val (.long va), .second, .val (.long vt), .second, .val (.long lv), .second, .val (.long rm), .second, .val (.long vx), .second, .val (.int md), .val (.long vb), .second, .val (.ref b25), .val (.int (1 : Int32)), .val (.int (1 : Int32)), .val (.int (own_take vb lv lim vt)), .val (.int vd), .val (.long ve), .second] [(.int (1 : Int32))])) _
    exact retN X52 hx (t := .boolean) Bd.returns (by simp) (hb hby at_246) hr
  · show Q0 Z q1 q2 q3 q4 p5 h0 n0 _ T52.heap _
    rw [e52]
    exact ⟨rfl, N35⟩
set_option maxRecDepth 65536 in
set_option maxHeartbeats 40000000 in
theorem comes_1 {Post : Tables → Env → Array Value → State → Outcome → State → Prop} (hpost : ∀ tb e args s v u, (limb_1_1.after args s (.returned v) u = true ∧ limb_1_2.after args s (.returned v) u = true ∧ True) → FrameEnd s (.returned v) u (Jvm.fieldLocs frame_1_writes args s ++ Jvm.arrayLocs frame_1_arrays args s ++ Jvm.staticLocs frame_1_statics s) 16 128 → Post tb e args s (.returned v) u) :
    ArmFor flags0 classFile x code maxLocals ret World_1 tables_1 room_1 Calls_1 rest_1 Pre_1 Post := by
  intro l hfl _ _ p e ha hc hk s m args below hf hA hF happ hP
  obtain ⟨hcalls, hrest, hpre⟩ := hP
  obtain ⟨-, -, -, hnamed, -, -, -, hat⟩ := (Spec.applies_iff hf).mp happ
  obtain ⟨hg, hn⟩ := and_e (Cond.before_iff.mp (show (Jvm.Cond.and given_1 narrow_1).before args s = true from hpre))
  obtain ⟨g1, g2⟩ := and_e hg
  obtain ⟨g3, g4⟩ := and_e g2
  obtain ⟨g5, g6⟩ := and_e g4
  obtain ⟨g7, g8⟩ := and_e g6
  obtain ⟨g9, g10⟩ := and_e g8
  obtain ⟨w0, w1, w2, w3, w4, rfl⟩ : ∃ w0 w1 w2 w3 w4 : Value, args = #[w0, w1, w2, w3, w4] := by
    have hs : args.size = 5 := by simpa [Cond.value, given_1] using g1
    obtain ⟨L⟩ := args
    match L, hs with
    | [w0, w1, w2, w3, w4], _ => exact ⟨w0, w1, w2, w3, w4, rfl⟩
  have hw := fun d (hd : d ∈ tables_1) => atoms_spec (ws := Jvm.Cond.code x code maxLocals ret :: tables_1) hat d (List.mem_cons_of_mem _ hd)
  have hfit : Fit s := fun {y c} hc i hi => by
    obtain ⟨ha, rfl⟩ := Array.getElem?_eq_some_iff.mp hc
    have q := List.all_eq_true.mp ((Array.all_eq_true_iff_forall_mem.mp hF) _ (Array.getElem_mem ha)) i (List.mem_range.mpr hi)
    simpa [Array.getElem?_eq_getElem hi] using q
  obtain ⟨i0, ei0⟩ := isL_v g3
  obtain rfl : w0 = (.long i0) := Option.some.inj ei0
  obtain ⟨i1, ei1⟩ := isL_v g5
  obtain rfl : w1 = (.long i1) := Option.some.inj ei1
  obtain ⟨i2, ei2⟩ := isL_v g7
  obtain rfl : w2 = (.long i2) := Option.some.inj ei2
  obtain ⟨i3, ei3⟩ := isL_v g9
  obtain rfl : w3 = (.long i3) := Option.some.inj ei3
  obtain ⟨i4, ei4⟩ := is_v g10
  obtain rfl : w4 = (.int i4) := Option.some.inj ei4
  obtain ⟨n, o, h1, h2, h3, _, L, rfl, ⟨rfl, N⟩, hq⟩ := rm0 l s _ hw tables_1 i0 i1 i2 i3 i4  s.heap s.heap.size (Nat.le_refl _)  p e ha hc hk s m _ below hf ((Spec.applies_iff_loose hf).mp happ).1 ⟨rfl, State.Warmed39.refl s, rfl⟩ trivial
  refine ⟨n, _, h1, h2, h3, hpost _ _ _ _ _ _ ⟨Cond.after_iff.mpr rfl, Cond.after_iff.mpr (eq_i res_at (Term.int_eval (1)) rfl), trivial⟩ ⟨hq.1, hq.2.1, (hq.2.2.sift fun y hy => Or.inr (N y hy)).mono (by decide) (by decide)⟩⟩
theorem main_1_1 : Claimed_1_1 := comes_1 fun _ _ _ _ _ _ h hF => ⟨h.1, hF⟩
theorem main_1_2 : Claimed_1_2 := comes_1 fun _ _ _ _ _ _ h hF => ⟨h.2.1, hF⟩
end Jvm.Pilot.@@N@@
namespace Jvm.Pilot.@@N@@
open Jvm Jvm.ClassFile Sem Op Lib Jvm.Free Jvm.Stand Jvm.Pilot.@@N@@.Jvm.D
/-! MADE BY PROGRAM (witnessworld.py) out of the Statement's table words and the real class files: 10 classes; the members and pool entries that the words name. The judged class is class 1, her method 1. -/
namespace start1
open Jvm.ClassFile
def u (s : String) : CpInfo := .utf8 (stringToUtf16 s)
/-- a pool by its gaps: so many unusable entries, then the entry; so many at the end -/
def gap : Nat → List CpInfo → List CpInfo
  | 0, r => r
  | n + 1, r => .unusable :: gap n r
def poolList (es : List (Nat × CpInfo)) (last : Nat) : List CpInfo := es.foldr (fun e r => gap e.1 (e.2 :: r)) (gap last [])
def pool (es : List (Nat × CpInfo)) (last : Nat) : Array CpInfo := ⟨poolList es last⟩
def fileOf (pool : Array CpInfo) (this : Nat) (attrs : Array Attribute := #[]) (ms : Array MethodInfo := #[]) (fl : Nat := 33) (sup : Nat := 0) (ifs : Array Nat := #[]) (fds : Array FieldInfo := #[]) : ClassFile where
  minorVersion := 0
  majorVersion := 65
  constantPool := pool
  accessFlags := fl
  thisClass := this
  superClass := sup
  interfaces := ifs
  fields := fds
  methods := ms
  attributes := attrs
def plain (name : String) (sup : Option ClassId) : Class where
  name := name
  kind := .ordinary
  loader := none
  accessFlags := 33
  super := sup
  interfaces := #[]
  cf := none
  fields := #[]
  methods := #[]
  instanceTypes := #[]
  staticTypes := #[]
  resolved := #[]
  callSites := []
  init := .initialized
  statics := none
  mirror := none

def pool0 : Array CpInfo := pool [(5, u "<init>"), (0, u "()V"), (1, .class_ 10), (1, u "java/lang/Object")] 113

def k0c0 : Code := { maxStack := 0, maxLocals := 1, code := object_method_1_code, exceptionTable := #[], attributes := #[] }
def k0m0 : Method := { name := "<init>", desc := "()V", sig := { parameters := [], returnType := none }, accessFlags := 1, code := some k0c0 }
/-- java/lang/Object -/
def k0 : Class := { plain "java/lang/Object" none with
  accessFlags := 33
  interfaces := #[]
  cf := some (fileOf pool0 8 #[] #[{ accessFlags := 1, nameIndex := 5, descriptorIndex := 6, attributes := #[] }] 33 0 #[] #[])
  fields := #[]
  methods := #[k0m0]
  instanceTypes := #[]
  staticTypes := #[]
  resolved := Array.replicate 124 none
  statics := none }

def pool1 : Array CpInfo := pool [(2, .class_ 4), (1, u "java/lang/Object"), (0, u "<init>"), (0, u "()V"), (2, .long 9223372036854775807), (1, .methodref 12 13), (0, .class_ 14), (0, .nameAndType 15 16), (0, u "java/lang/Math"), (0, u "min"), (0, u "(JJ)J"), (0, .class_ 18), (0, u "com/example/wasserstand/wasserstand/network/MemoryPool"), (0, .methodref 17 20), (0, .nameAndType 5 21), (0, u "(J)V"), (0, .methodref 17 23), (0, .nameAndType 24 25), (0, u "take"), (0, u "(JJ)Z"), (0, .methodref 17 27), (0, .nameAndType 28 29), (0, u "left"), (0, u "()J"), (0, .class_ 31), (0, u "com/example/wasserstand/wasserstand/network/MemoryPoolTakePinLaw"), (2, u "law"), (0, u "(JJJJI)Z")] 3

def k1m0 : Method := { name := "<init>", desc := "()V", sig := { parameters := [], returnType := none }, accessFlags := 1, code := none }
def k1c1 : Code := { maxStack := 6, maxLocals := 33, code := code, exceptionTable := #[], attributes := #[] }
def k1m1 : Method := { name := "law", desc := "(JJJJI)Z", sig := { parameters := [.long, .long, .long, .long, .int], returnType := some .boolean }, accessFlags := 9, code := some k1c1 }
/-- com/example/wasserstand/wasserstand/network/MemoryPoolTakePinLaw -/
def k1 : Class := { plain "com/example/wasserstand/wasserstand/network/MemoryPoolTakePinLaw" (some 0) with
  accessFlags := 49
  interfaces := #[]
  cf := some (fileOf pool1 30 #[] #[{ accessFlags := 1, nameIndex := 5, descriptorIndex := 6, attributes := #[] }, { accessFlags := 9, nameIndex := 34, descriptorIndex := 35, attributes := #[] }] 49 2 #[] #[])
  fields := #[]
  methods := #[k1m0, k1m1]
  instanceTypes := #[]
  staticTypes := #[]
  resolved := Array.replicate 39 none
  statics := none }

def pool2 : Array CpInfo := pool [(1, .methodref 2 3), (0, .class_ 4), (0, .nameAndType 5 6), (0, u "java/lang/Object"), (0, u "<init>"), (0, u "()V"), (0, .fieldref 8 9), (0, .class_ 10), (0, .nameAndType 11 12), (0, u "com/example/wasserstand/wasserstand/network/MemoryPool"), (0, u "limit"), (0, u "J"), (2, u "take"), (0, u "(JJ)Z"), (0, .fieldref 8 18), (0, .nameAndType 19 12), (0, u "taken"), (0, u "(J)V"), (2, u "()J"), (2, u "left")] 4

def k2c0 : Code := { maxStack := 3, maxLocals := 3, code := prog_170_method_1_code, exceptionTable := #[], attributes := #[] }
def k2m0 : Method := { name := "<init>", desc := "(J)V", sig := { parameters := [.long], returnType := none }, accessFlags := 1, code := some k2c0 }
def k2c1 : Code := { maxStack := 6, maxLocals := 5, code := prog_170_method_4_code, exceptionTable := #[], attributes := #[] }
def k2m1 : Method := { name := "take", desc := "(JJ)Z", sig := { parameters := [.long, .long], returnType := some .boolean }, accessFlags := 0, code := some k2c1 }
def k2c2 : Code := { maxStack := 4, maxLocals := 1, code := prog_170_method_5_code, exceptionTable := #[], attributes := #[] }
def k2m2 : Method := { name := "left", desc := "()J", sig := { parameters := [], returnType := some .long }, accessFlags := 0, code := some k2c2 }
/-- com/example/wasserstand/wasserstand/network/MemoryPool -/
def k2 : Class := { plain "com/example/wasserstand/wasserstand/network/MemoryPool" (some 0) with
  accessFlags := 49
  interfaces := #[]
  cf := some (fileOf pool2 8 #[] #[{ accessFlags := 1, nameIndex := 5, descriptorIndex := 20, attributes := #[] }, { accessFlags := 0, nameIndex := 15, descriptorIndex := 16, attributes := #[] }, { accessFlags := 0, nameIndex := 26, descriptorIndex := 23, attributes := #[] }] 49 2 #[] #[{ accessFlags := 18, nameIndex := 11, descriptorIndex := 12, attributes := #[] }, { accessFlags := 2, nameIndex := 19, descriptorIndex := 12, attributes := #[] }])
  fields := #[{ name := "limit", type := .long, accessFlags := 18, slot := 0, constantValue := 0 }, { name := "taken", type := .long, accessFlags := 2, slot := 1, constantValue := 0 }]
  methods := #[k2m0, k2m1, k2m2]
  instanceTypes := #[.long, .long]
  staticTypes := #[]
  resolved := Array.replicate 31 none
  statics := none }

def pool3 : Array CpInfo := pool [(1, .class_ 2), (0, u "java/lang/Math"), (1, .class_ 6), (1, u "java/lang/Object"), (0, u "<init>"), (0, u "()V"), (89, .class_ 100), (1, u "java/lang/Math$RandomNumberGeneratorHolder"), (20, u "(JJ)J"), (50, u "negativeZeroFloatBits"), (0, u "J"), (2, u "negativeZeroDoubleBits"), (24, u "min"), (43, u "$assertionsDisabled"), (0, u "Z"), (91, u "twoToTheDoubleScaleDown"), (0, u "D"), (4, u "twoToTheDoubleScaleUp"), (9, u "E"), (3, u "PI"), (2, u "TAU"), (2, u "DEGREES_TO_RADIANS"), (0, u "RADIANS_TO_DEGREES")] 94

def k3m0 : Method := { name := "<init>", desc := "()V", sig := { parameters := [], returnType := none }, accessFlags := 2, code := none }
def k3c1 : Code := { maxStack := 4, maxLocals := 4, code := jdk_29_method_70_code, exceptionTable := #[], attributes := #[] }
def k3m1 : Method := { name := "min", desc := "(JJ)J", sig := { parameters := [.long, .long], returnType := some .long }, accessFlags := 9, code := some k3c1 }
/-- java/lang/Math -/
def k3 : Class := { plain "java/lang/Math" (some 0) with
  accessFlags := 49
  interfaces := #[]
  cf := some (fileOf pool3 1 #[.nestMembers #[98]] #[{ accessFlags := 2, nameIndex := 7, descriptorIndex := 8, attributes := #[] }, { accessFlags := 9, nameIndex := 201, descriptorIndex := 121, attributes := #[] }] 49 4 #[] #[{ accessFlags := 25, nameIndex := 354, descriptorIndex := 339, attributes := #[] }, { accessFlags := 25, nameIndex := 358, descriptorIndex := 339, attributes := #[] }, { accessFlags := 25, nameIndex := 361, descriptorIndex := 339, attributes := #[] }, { accessFlags := 26, nameIndex := 364, descriptorIndex := 339, attributes := #[] }, { accessFlags := 26, nameIndex := 365, descriptorIndex := 339, attributes := #[] }, { accessFlags := 26, nameIndex := 172, descriptorIndex := 173, attributes := #[] }, { accessFlags := 26, nameIndex := 176, descriptorIndex := 173, attributes := #[] }, { accessFlags := 8, nameIndex := 344, descriptorIndex := 339, attributes := #[] }, { accessFlags := 8, nameIndex := 338, descriptorIndex := 339, attributes := #[] }, { accessFlags := 4120, nameIndex := 245, descriptorIndex := 246, attributes := #[] }])
  fields := #[{ name := "E", type := .double, accessFlags := 25, slot := 0, constantValue := 0 }, { name := "PI", type := .double, accessFlags := 25, slot := 1, constantValue := 0 }, { name := "TAU", type := .double, accessFlags := 25, slot := 2, constantValue := 0 }, { name := "DEGREES_TO_RADIANS", type := .double, accessFlags := 26, slot := 3, constantValue := 0 }, { name := "RADIANS_TO_DEGREES", type := .double, accessFlags := 26, slot := 4, constantValue := 0 }, { name := "negativeZeroFloatBits", type := .long, accessFlags := 26, slot := 5, constantValue := 0 }, { name := "negativeZeroDoubleBits", type := .long, accessFlags := 26, slot := 6, constantValue := 0 }, { name := "twoToTheDoubleScaleUp", type := .double, accessFlags := 8, slot := 7, constantValue := 0 }, { name := "twoToTheDoubleScaleDown", type := .double, accessFlags := 8, slot := 8, constantValue := 0 }, { name := "$assertionsDisabled", type := .boolean, accessFlags := 4120, slot := 9, constantValue := 0 }]
  methods := #[k3m0, k3m1]
  instanceTypes := #[]
  staticTypes := #[.double, .double, .double, .double, .double, .long, .long, .double, .double, .boolean]
  resolved := Array.replicate 460 none
  statics := none }

def pool4 : Array CpInfo := pool [(1, u "java/lang/Cloneable"), (0, .class_ 1), (0, u "java/lang/Object"), (0, .class_ 3)] 3

/-- java/lang/Cloneable -/
def k4 : Class := { plain "java/lang/Cloneable" (some 0) with
  accessFlags := 1537
  interfaces := #[]
  cf := some (fileOf pool4 2 #[] #[] 1537 4 #[] #[])
  fields := #[]
  methods := #[]
  instanceTypes := #[]
  staticTypes := #[]
  resolved := Array.replicate 8 none
  statics := none }

def pool5 : Array CpInfo := pool [(1, u "java/io/Serializable"), (0, .class_ 1), (0, u "java/lang/Object"), (0, .class_ 3)] 3

/-- java/io/Serializable -/
def k5 : Class := { plain "java/io/Serializable" (some 0) with
  accessFlags := 1537
  interfaces := #[]
  cf := some (fileOf pool5 2 #[] #[] 1537 4 #[] #[])
  fields := #[]
  methods := #[]
  instanceTypes := #[]
  staticTypes := #[]
  resolved := Array.replicate 8 none
  statics := none }

/-- the primitive byte -/
def k6 : Class := { plain "byte" none with kind := .primitive 'B', accessFlags := 0x411 }
/-- [B -/
def k7 : Class := { plain "[B" (some 0) with kind := .array 6 .byte, interfaces := #[4, 5], accessFlags := 1041 }

/-- the primitive int -/
def k8 : Class := { plain "int" none with kind := .primitive 'I', accessFlags := 0x411 }
/-- [I -/
def k9 : Class := { plain "[I" (some 0) with kind := .array 8 .int, interfaces := #[4, 5], accessFlags := 1041 }

def heap : Heap := #[]
def classes : Array Class := #[k0, k1, k2, k3, k4, k5, k6, k7, k8, k9]
def interned : List (Array UInt16 × Addr) := []
def slotsUsed : Nat := 0
def theMethod : MethodId := ⟨1, 1⟩
def args0 : Array Value := #[.long 5, .long 7, .long 7, .long 7, .int 3]
def aboutOver (below : List Frame) : State where
  vm := { classes := classes, interned := interned.toArray }
  heap := heap
  slotsUsed := slotsUsed
  threads := #[{ frames := .invoking theMethod args0 :: below }]
def below0 : List Frame := [.native { method := ⟨0, 0⟩, args := #[] }]
def about1 : State := aboutOver below0
def p0 : Program := .bare "" "" ""
def e0 : Env := launch0.env 0 0 0
theorem w_frames : about1.frames = Frame.invoking theMethod args0 :: below0 := rfl
set_option maxRecDepth 65536 in
theorem w_args : argsFit about1.vm theMethod args0 = true := by decide +kernel
set_option maxRecDepth 65536 in
theorem w_heap : heapFits about1 = true := by decide +kernel
set_option maxRecDepth 65536 in
theorem w_runnable : about1.curStatus? = some .runnable := by decide +kernel
set_option maxRecDepth 65536 in
theorem w_alone : about1.alone = true := by decide +kernel
set_option maxRecDepth 65536 in
theorem w_named : about1.methodNamed? x = some theMethod := by decide +kernel
set_option maxRecDepth 65536 in
theorem w_hears : about1.hears theMethod below0 = true := by decide +kernel
set_option maxRecDepth 65536 in
theorem w_ripe : about1.ripe theMethod args0 below0 = true := by decide +kernel
theorem w_running : about1.status = .running := rfl
set_option maxRecDepth 65536 in
theorem w_room : about1.hasRoom e0.platform room_1 = true :=
  launch0.hasRoom_least _ room_1 (by decide +kernel) (by decide +kernel) (by decide +kernel) (by decide +kernel) (by decide +kernel) (by decide +kernel)
theorem allAtoms_all (ts : List Jvm.Cond) (a : Array Jvm.Value) (st : Jvm.State) : (allAtoms ts).before a st = ts.all (fun c => c.before a st) := by
  induction ts with
  | nil => rfl
  | cons c t ih =>
    show (Jvm.Cond.and c (allAtoms t)).before a st = _
    rw [Jvm.Cond.before_and, ih, List.all_cons]
def words1 : List Jvm.Cond := Jvm.Cond.code x code maxLocals ret :: tables_1
/-- a 'code' word, met by the world's own term for the bytes: nothing is compared byte by byte -/
theorem code_word {y : MethodName} {bytes : ByteArray} {mx : Nat} {rt : Option FieldType} {a : Array Value} {s : State} {m : MethodId} {meth : Method} {c : Code} (h1 : s.methodNamed? y = some m) (h2 : s.vm.method? m = some meth) (h3 : meth.code = some c) (h4 : c.code = bytes)
    (h5 : (c.maxLocals == mx && c.exceptionTable.isEmpty && decide (c.maxStack ≤ mostOperands) && decide (meth.sig.returnType = rt) && !meth.locks && decide (parseMethodDescriptor y.desc = some meth.sig)) = true) : (Jvm.Cond.code y bytes mx rt).before a s = true := by
  simp only [Bool.and_eq_true, beq_iff_eq, Bool.not_eq_true', decide_eq_true_eq] at h5
  obtain ⟨⟨⟨⟨⟨g1, g2⟩, g3⟩, g4⟩, g5⟩, g6⟩ := h5
  simp [Cond.before, Cond.holds, Cond.value, h1, h2, h3, h4, g1, g2, g3, g4, g5, g6]
def isCode : Jvm.Cond → Bool
  | .code _ _ _ _ => true
  | _ => false
theorem all_split {L : List Jvm.Cond} {P : Jvm.Cond → Bool} (h1 : L.all (fun c => isCode c || P c) = true) (h2 : ∀ c ∈ L.filter isCode, P c = true) : L.all P = true := by
  refine List.all_eq_true.mpr fun c hc => ?_
  have h := List.all_eq_true.mp h1 c hc
  rcases Bool.eq_false_or_eq_true (isCode c) with hi | hi
  · exact h2 c (List.mem_filter.mpr ⟨hc, hi⟩)
  · simpa [hi] using h
set_option maxRecDepth 65536 in
theorem w_c0 : (Jvm.Cond.code x code maxLocals ret).before args0 about1 = true := code_word (m := ⟨1, 1⟩) (meth := k1m1) (c := k1c1) (by decide +kernel) rfl rfl rfl (by decide +kernel)
set_option maxRecDepth 65536 in
theorem w_c1 : (Jvm.Cond.code ({ cls := "com/example/wasserstand/wasserstand/network/MemoryPool", name := "<init>", desc := "(J)V" } : Jvm.MethodName) prog_170_method_1_code (3 : Nat) (Option.none : Option Jvm.ClassFile.FieldType)).before args0 about1 = true := code_word (m := ⟨2, 0⟩) (meth := k2m0) (c := k2c0) (by decide +kernel) rfl rfl rfl (by decide +kernel)
set_option maxRecDepth 65536 in
theorem w_c2 : (Jvm.Cond.code ({ cls := "java/lang/Object", name := "<init>", desc := "()V" } : Jvm.MethodName) object_method_1_code (1 : Nat) (Option.none : Option Jvm.ClassFile.FieldType)).before args0 about1 = true := code_word (m := ⟨0, 0⟩) (meth := k0m0) (c := k0c0) (by decide +kernel) rfl rfl rfl (by decide +kernel)
set_option maxRecDepth 65536 in
theorem w_c3 : (Jvm.Cond.code ({ cls := "com/example/wasserstand/wasserstand/network/MemoryPool", name := "take", desc := "(JJ)Z" } : Jvm.MethodName) prog_170_method_4_code (5 : Nat) (Option.some Jvm.ClassFile.FieldType.boolean)).before args0 about1 = true := code_word (m := ⟨2, 1⟩) (meth := k2m1) (c := k2c1) (by decide +kernel) rfl rfl rfl (by decide +kernel)
set_option maxRecDepth 65536 in
theorem w_c4 : (Jvm.Cond.code ({ cls := "com/example/wasserstand/wasserstand/network/MemoryPool", name := "left", desc := "()J" } : Jvm.MethodName) prog_170_method_5_code (1 : Nat) (Option.some Jvm.ClassFile.FieldType.long)).before args0 about1 = true := code_word (m := ⟨2, 2⟩) (meth := k2m2) (c := k2c2) (by decide +kernel) rfl rfl rfl (by decide +kernel)
set_option maxRecDepth 65536 in
theorem w_c5 : (Jvm.Cond.code ({ cls := "java/lang/Math", name := "min", desc := "(JJ)J" } : Jvm.MethodName) jdk_29_method_70_code (4 : Nat) (Option.some Jvm.ClassFile.FieldType.long)).before args0 about1 = true := code_word (m := ⟨3, 1⟩) (meth := k3m1) (c := k3c1) (by decide +kernel) rfl rfl rfl (by decide +kernel)
def codes1 : List Jvm.Cond := [Jvm.Cond.code x code maxLocals ret, Jvm.Cond.code ({ cls := "com/example/wasserstand/wasserstand/network/MemoryPool", name := "<init>", desc := "(J)V" } : Jvm.MethodName) prog_170_method_1_code (3 : Nat) (Option.none : Option Jvm.ClassFile.FieldType), Jvm.Cond.code ({ cls := "java/lang/Object", name := "<init>", desc := "()V" } : Jvm.MethodName) object_method_1_code (1 : Nat) (Option.none : Option Jvm.ClassFile.FieldType), Jvm.Cond.code ({ cls := "com/example/wasserstand/wasserstand/network/MemoryPool", name := "take", desc := "(JJ)Z" } : Jvm.MethodName) prog_170_method_4_code (5 : Nat) (Option.some Jvm.ClassFile.FieldType.boolean), Jvm.Cond.code ({ cls := "com/example/wasserstand/wasserstand/network/MemoryPool", name := "left", desc := "()J" } : Jvm.MethodName) prog_170_method_5_code (1 : Nat) (Option.some Jvm.ClassFile.FieldType.long), Jvm.Cond.code ({ cls := "java/lang/Math", name := "min", desc := "(JJ)J" } : Jvm.MethodName) jdk_29_method_70_code (4 : Nat) (Option.some Jvm.ClassFile.FieldType.long)]
set_option maxRecDepth 65536 in
theorem codes_eq : words1.filter isCode = codes1 := rfl
theorem w_codes : ∀ c ∈ words1.filter isCode, c.before args0 about1 = true := by
  rw [codes_eq]
  intro c hc
  simp only [codes1, List.mem_cons, List.not_mem_nil, or_false] at hc
  rcases hc with rfl | rfl | rfl | rfl | rfl | rfl
  · exact w_c0
  · exact w_c1
  · exact w_c2
  · exact w_c3
  · exact w_c4
  · exact w_c5
set_option maxRecDepth 65536 in
theorem w_t1 : (words1.take 24).all (fun c => isCode c || c.before args0 about1) = true := by decide +kernel
set_option maxRecDepth 65536 in
theorem w_t2 : (words1.drop 24).all (fun c => isCode c || c.before args0 about1) = true := by decide +kernel
theorem w_tables : (allAtoms (Jvm.Cond.code x code maxLocals ret :: tables_1)).before args0 about1 = true := by
  rw [allAtoms_all]
  show words1.all (fun c => c.before args0 about1) = true
  refine all_split ?_ w_codes
  rw [← List.take_append_drop 24 words1, List.all_append, w_t1, w_t2]
  rfl
set_option maxRecDepth 65536 in
theorem w_case : (Jvm.Cond.and given_1 narrow_1).before args0 about1 = true := by decide +kernel
theorem w_applies : (headSpec (Jvm.Cond.code x code maxLocals ret :: tables_1) room_1).applies x e0.platform about1 = true :=
  (Spec.applies_iff w_frames).mpr ⟨w_running, w_runnable, w_alone, w_named, w_hears, w_ripe, w_room, w_tables⟩
theorem atStart : AtStart classFile x code maxLocals ret World_1 tables_1 room_1 Calls_1 rest_1 Pre_1 launch0 p0 e0 about1 theMethod args0 below0 :=
  ⟨lists_1, trivial, launch0.admits_env _ _ _, launch0.least_env, fairChoices_fair.cas, fairChoices_fair.clock, w_frames, w_args, w_heap, w_applies, trivial, trivial, w_case⟩
end start1
theorem witness_1 : WitnessClaimed_1 := ⟨start1.p0, start1.e0, start1.about1, start1.theMethod, start1.args0, start1.below0, start1.atStart⟩
end Jvm.Pilot.@@N@@
