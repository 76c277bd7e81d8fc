import JvmDerived
import JvmDerived.Pilot.@@N@@Statement
import JvmDerived.Pilot.@@N@@Code
set_option linter.unusedVariables false
set_option linter.unusedSimpArgs false
namespace Jvm.RoadKit
open Sem ClassFile Op Lib Jvm.Stand Jvm.Free Jvm.LawKit
section New
variable {p : Program} {l : Launch} {e : Env} {R : Room} {s : State} {m : MethodId} {args : Array Value} {below : List Frame} {meth : Method} {c : Code} {T : State} {locs : List Loc} {cells slots : Nat}
theorem retI (X : Stand p l e R s m args below meth c T locs cells slots) (hx : p.tables.exec = Jvm.exec) {pc : Nat} {Ls : Array Slot} {z : Int32} {rest : List Value} (hret : meth.sig.returnType = some .int) (hd : decode c.code pc = .ok (.ireturn, 1)) {fs : List Frame}
    (hl : ∀ (f : JFrame) (acts : List Action), f.method = m → f.locked = none → f.entered = [] → (doReturn e (T.setTop f) acts (some (.int z))).1 = T.setFrames fs) : Steps p.tables e below (T.setTop (mkF m pc Ls (.int z :: rest))) (T.setFrames fs) := by
  have hm' : T.vm.method? m = some meth := X.method'
  have hn : narrow .int (.int z) = .int z := rfl
  show Steps p.tables e below (T.setTop { method := m, pc := pc, locals := Ls, stack := _ :: rest, locked := none }) _
  jvm_step X.here [X.here.top, hx, hd, hm', hret, hn]
  first | (intro acts; rw [hl _ acts rfl rfl rfl]) | rw [hl _ _ rfl rfl rfl]
  exact Steps.refl _
/-- whatever is reached from the one state is reached from the other -/
def Go (p : Program) (e : Env) (below : List Frame) (A B : State) : Prop := ∀ t, Steps p.tables e below B t → Steps p.tables e below A t
end New
end Jvm.RoadKit
namespace Jvm.Pilot.@@N@@
open Jvm Jvm.ClassFile Sem Op Lib Jvm.Free Jvm.Stand Jvm.LawKit Jvm.RoadKit Bundle Jvm.Pilot.@@N@@.Jvm.D
theorem own_eqI {t : Term} {k : Int32} {args : Array Value} {s : State} (h : (Jvm.Cond.eq t (.int k)).value args s none s [] = some true) : t.eval args s none [] s = some (.int k) := by
  cases ht : t.eval args s none [] s with
  | none => simp [Cond.value, ht] at h
  | some x => cases x <;> simp [Cond.value, Term.eval, ht] at h ⊢ <;> exact h
def own_C (Z : State) (h : Heap) (f : String) (lo hi : Int32) : Prop := ∃ a : Addr, Sta Z h "com/example/wasserstand/wasserstand/protocol/ApiKey" f "Lcom/example/wasserstand/wasserstand/protocol/ApiKey;" (.ref a) ∧ Exa Z h a "com/example/wasserstand/wasserstand/protocol/ApiKey" ∧ Fld Z h a "com/example/wasserstand/wasserstand/protocol/ApiKey" "minVersion" "S" (.int lo) ∧ Fld Z h a "com/example/wasserstand/wasserstand/protocol/ApiKey" "maxVersion" "S" (.int hi)
def own_lo (k : Int32) : Int32 := if k = 0 then 3 else if k = 1 then 4 else if k = 2 then 1 else if k = 3 then 0 else if k = 4 then 2 else if k = 5 then 1 else if k = 14 then 3 else if k < 16 then 0 else 1
def own_hi (k : Int32) : Int32 := if k = 0 then 7 else if k = 1 then 11 else if k = 2 then 3 else if k = 3 then 5 else if k = 4 then 3 else if k = 5 then 3 else if k = 7 then 2 else if k = 11 then 2 else if k = 12 then 4 else if k = 14 then 3 else 1
def own_sup (v lo hi : Int32) : Int32 := if v < lo then 0 else if hi < v then 0 else 1
theorem own_sup01 (v lo hi : Int32) : nar .boolean (own_sup v lo hi) = own_sup v lo hi := by
  unfold own_sup; split
  · rfl
  · split <;> rfl
theorem own_lastk {k : Int32} (h : ¬ k < 18) : own_lo k = 1 ∧ own_hi k = 1 := by
  have e : ∀ j : Int32, j.toInt < 18 → ¬ k = j := fun j hj q => h (by rw [Int32.lt_iff_toInt_lt, q]; exact hj)
  unfold own_lo own_hi
  have h16 : ¬ k < 16 := fun q => h (by rw [Int32.lt_iff_toInt_lt] at q ⊢; have : (16 : Int32).toInt = 16 := rfl; have : (18 : Int32).toInt = 18 := rfl; omega)
  rw [if_neg (e 0 (by decide)), if_neg (e 1 (by decide)), if_neg (e 2 (by decide)), if_neg (e 3 (by decide)), if_neg (e 4 (by decide)), if_neg (e 5 (by decide)), if_neg (e 14 (by decide)), if_neg h16]
  rw [if_neg (e 0 (by decide)), if_neg (e 1 (by decide)), if_neg (e 2 (by decide)), if_neg (e 3 (by decide)), if_neg (e 4 (by decide)), if_neg (e 5 (by decide)), if_neg (e 7 (by decide)), if_neg (e 11 (by decide)), if_neg (e 12 (by decide)), if_neg (e 14 (by decide))]
  exact ⟨rfl, rfl⟩
theorem own_k18 {k : Int32} (h1 : 0 ≤ k.toInt) (n0 : ¬ k = 0) (n1 : ¬ k = 1) (n2 : ¬ k = 2) (n3 : ¬ k = 3) (n4 : ¬ k = 4) (n5 : ¬ k = 5) (n6 : ¬ k = 6) (n7 : ¬ k = 7) (n8 : ¬ k = 8) (n9 : ¬ k = 9) (n10 : ¬ k = 10) (n11 : ¬ k = 11) (n12 : ¬ k = 12) (n13 : ¬ k = 13) (n14 : ¬ k = 14) (n15 : ¬ k = 15) (n16 : ¬ k = 16) (n17 : ¬ k = 17) : ¬ k < 18 := fun q => by
  rw [Int32.lt_iff_toInt_lt] at q
  have e : ∀ j : Int32, ¬ k = j → k.toInt ≠ j.toInt := fun j hj y => hj (Int32.toInt_inj.mp y)
  have e18 : (18 : Int32).toInt = 18 := rfl
  have x0 : k.toInt ≠ 0 := e 0 n0
  have x1 : k.toInt ≠ 1 := e 1 n1
  have x2 : k.toInt ≠ 2 := e 2 n2
  have x3 : k.toInt ≠ 3 := e 3 n3
  have x4 : k.toInt ≠ 4 := e 4 n4
  have x5 : k.toInt ≠ 5 := e 5 n5
  have x6 : k.toInt ≠ 6 := e 6 n6
  have x7 : k.toInt ≠ 7 := e 7 n7
  have x8 : k.toInt ≠ 8 := e 8 n8
  have x9 : k.toInt ≠ 9 := e 9 n9
  have x10 : k.toInt ≠ 10 := e 10 n10
  have x11 : k.toInt ≠ 11 := e 11 n11
  have x12 : k.toInt ≠ 12 := e 12 n12
  have x13 : k.toInt ≠ 13 := e 13 n13
  have x14 : k.toInt ≠ 14 := e 14 n14
  have x15 : k.toInt ≠ 15 := e 15 n15
  have x16 : k.toInt ≠ 16 := e 16 n16
  have x17 : k.toInt ≠ 17 := e 17 n17
  omega
theorem dmethod_3_code_0 : decode method_3_code 0 = .ok (.iload_n 0, 1) := by decide +kernel
theorem dmethod_3_code_1 : decode method_3_code 1 = .ok (.ifCond .ne 7, 3) := by decide +kernel
theorem dmethod_3_code_4 : decode method_3_code 4 = .ok (.getstatic 27, 3) := by decide +kernel
theorem dmethod_3_code_7 : decode method_3_code 7 = .ok (.areturn, 1) := by decide +kernel
theorem dmethod_3_code_8 : decode method_3_code 8 = .ok (.iload_n 0, 1) := by decide +kernel
theorem dmethod_3_code_9 : decode method_3_code 9 = .ok (.iconst 1, 1) := by decide +kernel
theorem dmethod_3_code_10 : decode method_3_code 10 = .ok (.if_icmp .ne 7, 3) := by decide +kernel
theorem dmethod_3_code_13 : decode method_3_code 13 = .ok (.getstatic 31, 3) := by decide +kernel
theorem dmethod_3_code_16 : decode method_3_code 16 = .ok (.areturn, 1) := by decide +kernel
theorem dmethod_3_code_17 : decode method_3_code 17 = .ok (.iload_n 0, 1) := by decide +kernel
theorem dmethod_3_code_18 : decode method_3_code 18 = .ok (.iconst 2, 1) := by decide +kernel
theorem dmethod_3_code_19 : decode method_3_code 19 = .ok (.if_icmp .ne 7, 3) := by decide +kernel
theorem dmethod_3_code_22 : decode method_3_code 22 = .ok (.getstatic 34, 3) := by decide +kernel
theorem dmethod_3_code_25 : decode method_3_code 25 = .ok (.areturn, 1) := by decide +kernel
theorem dmethod_3_code_26 : decode method_3_code 26 = .ok (.iload_n 0, 1) := by decide +kernel
theorem dmethod_3_code_27 : decode method_3_code 27 = .ok (.iconst 3, 1) := by decide +kernel
theorem dmethod_3_code_28 : decode method_3_code 28 = .ok (.if_icmp .ne 7, 3) := by decide +kernel
theorem dmethod_3_code_31 : decode method_3_code 31 = .ok (.getstatic 37, 3) := by decide +kernel
theorem dmethod_3_code_34 : decode method_3_code 34 = .ok (.areturn, 1) := by decide +kernel
theorem dmethod_3_code_35 : decode method_3_code 35 = .ok (.iload_n 0, 1) := by decide +kernel
theorem dmethod_3_code_36 : decode method_3_code 36 = .ok (.iconst 4, 1) := by decide +kernel
theorem dmethod_3_code_37 : decode method_3_code 37 = .ok (.if_icmp .ne 7, 3) := by decide +kernel
theorem dmethod_3_code_40 : decode method_3_code 40 = .ok (.getstatic 40, 3) := by decide +kernel
theorem dmethod_3_code_43 : decode method_3_code 43 = .ok (.areturn, 1) := by decide +kernel
theorem dmethod_3_code_44 : decode method_3_code 44 = .ok (.iload_n 0, 1) := by decide +kernel
theorem dmethod_3_code_45 : decode method_3_code 45 = .ok (.iconst 5, 1) := by decide +kernel
theorem dmethod_3_code_46 : decode method_3_code 46 = .ok (.if_icmp .ne 7, 3) := by decide +kernel
theorem dmethod_3_code_49 : decode method_3_code 49 = .ok (.getstatic 43, 3) := by decide +kernel
theorem dmethod_3_code_52 : decode method_3_code 52 = .ok (.areturn, 1) := by decide +kernel
theorem dmethod_3_code_53 : decode method_3_code 53 = .ok (.iload_n 0, 1) := by decide +kernel
theorem dmethod_3_code_54 : decode method_3_code 54 = .ok (.bipush 6, 2) := by decide +kernel
theorem dmethod_3_code_56 : decode method_3_code 56 = .ok (.if_icmp .ne 7, 3) := by decide +kernel
theorem dmethod_3_code_59 : decode method_3_code 59 = .ok (.getstatic 46, 3) := by decide +kernel
theorem dmethod_3_code_62 : decode method_3_code 62 = .ok (.areturn, 1) := by decide +kernel
theorem dmethod_3_code_63 : decode method_3_code 63 = .ok (.iload_n 0, 1) := by decide +kernel
theorem dmethod_3_code_64 : decode method_3_code 64 = .ok (.bipush 7, 2) := by decide +kernel
theorem dmethod_3_code_66 : decode method_3_code 66 = .ok (.if_icmp .ne 7, 3) := by decide +kernel
theorem dmethod_3_code_69 : decode method_3_code 69 = .ok (.getstatic 49, 3) := by decide +kernel
theorem dmethod_3_code_72 : decode method_3_code 72 = .ok (.areturn, 1) := by decide +kernel
theorem dmethod_3_code_73 : decode method_3_code 73 = .ok (.iload_n 0, 1) := by decide +kernel
theorem dmethod_3_code_74 : decode method_3_code 74 = .ok (.bipush 8, 2) := by decide +kernel
theorem dmethod_3_code_76 : decode method_3_code 76 = .ok (.if_icmp .ne 7, 3) := by decide +kernel
theorem dmethod_3_code_79 : decode method_3_code 79 = .ok (.getstatic 52, 3) := by decide +kernel
theorem dmethod_3_code_82 : decode method_3_code 82 = .ok (.areturn, 1) := by decide +kernel
theorem dmethod_3_code_83 : decode method_3_code 83 = .ok (.iload_n 0, 1) := by decide +kernel
theorem dmethod_3_code_84 : decode method_3_code 84 = .ok (.bipush 9, 2) := by decide +kernel
theorem dmethod_3_code_86 : decode method_3_code 86 = .ok (.if_icmp .ne 7, 3) := by decide +kernel
theorem dmethod_3_code_89 : decode method_3_code 89 = .ok (.getstatic 55, 3) := by decide +kernel
theorem dmethod_3_code_92 : decode method_3_code 92 = .ok (.areturn, 1) := by decide +kernel
theorem dmethod_3_code_93 : decode method_3_code 93 = .ok (.iload_n 0, 1) := by decide +kernel
theorem dmethod_3_code_94 : decode method_3_code 94 = .ok (.bipush 10, 2) := by decide +kernel
theorem dmethod_3_code_96 : decode method_3_code 96 = .ok (.if_icmp .ne 7, 3) := by decide +kernel
theorem dmethod_3_code_99 : decode method_3_code 99 = .ok (.getstatic 58, 3) := by decide +kernel
theorem dmethod_3_code_102 : decode method_3_code 102 = .ok (.areturn, 1) := by decide +kernel
theorem dmethod_3_code_103 : decode method_3_code 103 = .ok (.iload_n 0, 1) := by decide +kernel
theorem dmethod_3_code_104 : decode method_3_code 104 = .ok (.bipush 11, 2) := by decide +kernel
theorem dmethod_3_code_106 : decode method_3_code 106 = .ok (.if_icmp .ne 7, 3) := by decide +kernel
theorem dmethod_3_code_109 : decode method_3_code 109 = .ok (.getstatic 61, 3) := by decide +kernel
theorem dmethod_3_code_112 : decode method_3_code 112 = .ok (.areturn, 1) := by decide +kernel
theorem dmethod_3_code_113 : decode method_3_code 113 = .ok (.iload_n 0, 1) := by decide +kernel
theorem dmethod_3_code_114 : decode method_3_code 114 = .ok (.bipush 12, 2) := by decide +kernel
theorem dmethod_3_code_116 : decode method_3_code 116 = .ok (.if_icmp .ne 7, 3) := by decide +kernel
theorem dmethod_3_code_119 : decode method_3_code 119 = .ok (.getstatic 64, 3) := by decide +kernel
theorem dmethod_3_code_122 : decode method_3_code 122 = .ok (.areturn, 1) := by decide +kernel
theorem dmethod_3_code_123 : decode method_3_code 123 = .ok (.iload_n 0, 1) := by decide +kernel
theorem dmethod_3_code_124 : decode method_3_code 124 = .ok (.bipush 13, 2) := by decide +kernel
theorem dmethod_3_code_126 : decode method_3_code 126 = .ok (.if_icmp .ne 7, 3) := by decide +kernel
theorem dmethod_3_code_129 : decode method_3_code 129 = .ok (.getstatic 67, 3) := by decide +kernel
theorem dmethod_3_code_132 : decode method_3_code 132 = .ok (.areturn, 1) := by decide +kernel
theorem dmethod_3_code_133 : decode method_3_code 133 = .ok (.iload_n 0, 1) := by decide +kernel
theorem dmethod_3_code_134 : decode method_3_code 134 = .ok (.bipush 14, 2) := by decide +kernel
theorem dmethod_3_code_136 : decode method_3_code 136 = .ok (.if_icmp .ne 7, 3) := by decide +kernel
theorem dmethod_3_code_139 : decode method_3_code 139 = .ok (.getstatic 70, 3) := by decide +kernel
theorem dmethod_3_code_142 : decode method_3_code 142 = .ok (.areturn, 1) := by decide +kernel
theorem dmethod_3_code_143 : decode method_3_code 143 = .ok (.iload_n 0, 1) := by decide +kernel
theorem dmethod_3_code_144 : decode method_3_code 144 = .ok (.bipush 15, 2) := by decide +kernel
theorem dmethod_3_code_146 : decode method_3_code 146 = .ok (.if_icmp .ne 7, 3) := by decide +kernel
theorem dmethod_3_code_149 : decode method_3_code 149 = .ok (.getstatic 73, 3) := by decide +kernel
theorem dmethod_3_code_152 : decode method_3_code 152 = .ok (.areturn, 1) := by decide +kernel
theorem dmethod_3_code_153 : decode method_3_code 153 = .ok (.iload_n 0, 1) := by decide +kernel
theorem dmethod_3_code_154 : decode method_3_code 154 = .ok (.bipush 16, 2) := by decide +kernel
theorem dmethod_3_code_156 : decode method_3_code 156 = .ok (.if_icmp .ne 7, 3) := by decide +kernel
theorem dmethod_3_code_159 : decode method_3_code 159 = .ok (.getstatic 76, 3) := by decide +kernel
theorem dmethod_3_code_162 : decode method_3_code 162 = .ok (.areturn, 1) := by decide +kernel
theorem dmethod_3_code_163 : decode method_3_code 163 = .ok (.iload_n 0, 1) := by decide +kernel
theorem dmethod_3_code_164 : decode method_3_code 164 = .ok (.bipush 17, 2) := by decide +kernel
theorem dmethod_3_code_166 : decode method_3_code 166 = .ok (.if_icmp .ne 7, 3) := by decide +kernel
theorem dmethod_3_code_169 : decode method_3_code 169 = .ok (.getstatic 79, 3) := by decide +kernel
theorem dmethod_3_code_172 : decode method_3_code 172 = .ok (.areturn, 1) := by decide +kernel
theorem dmethod_3_code_173 : decode method_3_code 173 = .ok (.getstatic 82, 3) := by decide +kernel
theorem dmethod_3_code_176 : decode method_3_code 176 = .ok (.areturn, 1) := by decide +kernel
theorem ef_rmK (m : MethodId) (x0 : Int32) : entryFrame m #[(.int x0)] 1 = mkF m 0 #[.val (.int x0)] [] := by first | (simp [entryFrame, mkF, argsToLocals, Value.category]; done) | rfl
def QK (Z : State) (p1 : Int32) (h0 : Heap) (n0 : Nat) (v : Option Value) (h : Heap) (L : List Loc) : Prop := ∃ a : Addr, v = some (.ref a) ∧ L = [] ∧ h = h0 ∧ Exa Z h0 a "com/example/wasserstand/wasserstand/protocol/ApiKey" ∧ Fld Z h0 a "com/example/wasserstand/wasserstand/protocol/ApiKey" "minVersion" "S" (.int (own_lo p1)) ∧ Fld Z h0 a "com/example/wasserstand/wasserstand/protocol/ApiKey" "maxVersion" "S" (.int (own_hi p1))
theorem pn_0 : plainName "com/example/wasserstand/wasserstand/protocol/ApiKeySupportsPinLaw" = true := by first | (simp [plainName, overriddenIn]; done) | decide +kernel
set_option maxRecDepth 65536 in
set_option maxHeartbeats 40000000 in
theorem rmK (l : Launch) (Z : State) (a0 : Array Value) (hw : ∀ d ∈ tables_1, d.before a0 Z = true) (ws : List Jvm.Cond) (p1 : Int32) (h0 : Heap) (n0 : Nat) (Z0 : n0 ≤ h0.size) (hk : 0 ≤ p1.toInt) (c_PRODUCE : own_C Z h0 "PRODUCE" 3 7) (c_FETCH : own_C Z h0 "FETCH" 4 11) (c_LIST_OFFSETS : own_C Z h0 "LIST_OFFSETS" 1 3) (c_METADATA : own_C Z h0 "METADATA" 0 5) (c_OFFSET_COMMIT : own_C Z h0 "OFFSET_COMMIT" 2 3) (c_OFFSET_FETCH : own_C Z h0 "OFFSET_FETCH" 1 3) (c_FIND_COORDINATOR : own_C Z h0 "FIND_COORDINATOR" 0 1) (c_JOIN_GROUP : own_C Z h0 "JOIN_GROUP" 0 2) (c_HEARTBEAT : own_C Z h0 "HEARTBEAT" 0 1) (c_LEAVE_GROUP : own_C Z h0 "LEAVE_GROUP" 0 1) (c_SYNC_GROUP : own_C Z h0 "SYNC_GROUP" 0 1) (c_API_VERSIONS : own_C Z h0 "API_VERSIONS" 0 2) (c_CREATE_TOPICS : own_C Z h0 "CREATE_TOPICS" 0 4) (c_INIT_PRODUCER_ID : own_C Z h0 "INIT_PRODUCER_ID" 0 1) (c_OFFSET_FOR_LEADER_EPOCH : own_C Z h0 "OFFSET_FOR_LEADER_EPOCH" 3 3) (c_CREATE_PARTITIONS : own_C Z h0 "CREATE_PARTITIONS" 0 1) (c_CLUSTER_STATE : own_C Z h0 "CLUSTER_STATE" 1 1) (c_UPDATE_ISR : own_C Z h0 "UPDATE_ISR" 1 1) (c_RESERVE_PRODUCER_IDS : own_C Z h0 "RESERVE_PRODUCER_IDS" 1 1) :
    MetFree l (⟨"com/example/wasserstand/wasserstand/protocol/ApiKeySupportsPinLaw", "key", "(I)Lcom/example/wasserstand/wasserstand/protocol/ApiKey;"⟩ : MethodName) (head1 (Jvm.Cond.code (⟨"com/example/wasserstand/wasserstand/protocol/ApiKeySupportsPinLaw", "key", "(I)Lcom/example/wasserstand/wasserstand/protocol/ApiKey;"⟩ : MethodName) method_3_code 1 (some (.object "com/example/wasserstand/wasserstand/protocol/ApiKey")) :: ws) ({ frames := 0, cells := 0, slots := 0, locals := 0 } : Room)) (fun a U => a = #[(.int p1)] ∧ Z.Warmed39 U.vm ∧ U.heap = h0) (fun _ _ _ _ _ => True) (fun _ U o U' => ∃ v L, o = .returned v ∧ QK Z p1 h0 n0 v U'.heap L ∧ FrameEnd U o U' L ({ frames := 0, cells := 0, slots := 0, locals := 0 } : Room).cells ({ frames := 0, cells := 0, slots := 0, locals := 0 } : Room).slots) := by
  refine MetFree.of_bodySF (plainFor_of_name pn_0) hisR ?_
  intro p e s m args below meth c s₁ Bd hml0 hP hK
  obtain ⟨rfl, hZ, hh⟩ := hP
  have hx := Bd.exec
  have hby := Bd.bytes
  have hml : c.maxLocals = 1 := hml0
  have hown : s.vm.findClass "com/example/wasserstand/wasserstand/protocol/ApiKeySupportsPinLaw" = some m.cls := findClass_of_methodNamed Bd.named
  have hnm := (name_of_methodNamed Bd.named Bd.method).1
  have X0 : Stand p l e ({ frames := 0, cells := 0, slots := 0, locals := 0 } : Room) s m #[(.int p1)] below meth c s₁ [] 0 0 := Stand.of_body Bd
  have e0 : s₁.heap = h0 := by rw [← hh, Bd.state]; rfl
  have N0 := Fr.nil n0
  have k0 : Go p e below (s₁.setTop (entryFrame m #[(.int p1)] 1)) (s₁.setTop (mkF m 0 #[.val (.int p1)] [])) := fun t k => castTop (ef_rmK m p1) k
  have k2 : Go p e below (s₁.setTop (entryFrame m #[(.int p1)] 1)) (s₁.setTop (mkF m 1 #[.val (.int p1)] [(.int p1)])) := fun t kk => k0 t (by
    show Steps p.tables e below (s₁.setTop (mkF m 0 #[.val (.int p1)] [])) _
    refine XS.iloadN X0.here hx rfl (hb hby dmethod_3_code_0) rfl ?_
    exact kk)
  by_cases hc1_1 : p1 = (0 : Int32)
  · have k3 : Go p e below (s₁.setTop (entryFrame m #[(.int p1)] 1)) (s₁.setTop (mkF m 4 #[.val (.int p1)] [])) := fun t kk => k2 t (by
      show Steps p.tables e below (s₁.setTop (mkF m 1 #[.val (.int p1)] [(.int p1)])) _
      refine XS.ifNo X0.here hx rfl (hb hby dmethod_3_code_1) rfl ((if0 _ _).trans (teq hc1_1).2) ?_
      exact kk)
    obtain ⟨y_PRODUCE, Sy_PRODUCE, Ey_PRODUCE, Py_PRODUCE, Ry_PRODUCE⟩ := c_PRODUCE
    obtain ⟨T4, X4, e4, st4⟩ := getS2 X0 hx hZ hown (host := "") (Or.inl (hw _ (List.mem_of_getElem? (i := 5) rfl))) Via.refl e0 Sy_PRODUCE (g := (mkF m 4 #[.val (.int p1)] [])) rfl (hb hby dmethod_3_code_4)
    have k4 : Go p e below (s₁.setTop (entryFrame m #[(.int p1)] 1)) (T4.setTop (mkF m 7 #[.val (.int p1)] [(.ref y_PRODUCE)])) := fun t kk => k3 t (st4 t kk)
    have lo5 : own_lo p1 = 3 := by rw [hc1_1]; rfl
    have hi5 : own_hi p1 = 7 := by rw [hc1_1]; rfl
    obtain ⟨fs, hr, hrun, hended, hW, hsame⟩ := X4.leave (v := some (.ref y_PRODUCE)) (fun h => by rw [Bd.returns] at h; cases h)
    refine ⟨_, _, k4 _ ?_, hrun, hended, _, _, rfl, ?_, ⟨_, rfl⟩, hW, hsame.mono (by decide) (by decide)⟩
    · show Steps p.tables e below (T4.setTop (mkF m 7 #[.val (.int p1)] [(.ref y_PRODUCE)])) _
      jvm_step X4.here [X4.here.top, hx, (hb hby dmethod_3_code_7), X4.method', Bd.returns, Value.isRef, FieldType.isReference]
      first | (intro acts; rw [hr _ acts rfl rfl rfl]) | rw [hr _ _ rfl rfl rfl]
      exact Steps.refl _
    · show QK Z p1 h0 n0 _ T4.heap _
      rw [e4]
      exact ⟨y_PRODUCE, rfl, rfl, rfl, Ey_PRODUCE, (by rw [lo5]; exact Py_PRODUCE), (by rw [hi5]; exact Ry_PRODUCE)⟩
  · have k8 : Go p e below (s₁.setTop (entryFrame m #[(.int p1)] 1)) (s₁.setTop (mkF m 10 #[.val (.int p1)] [(.int (1 : Int32)), (.int p1)])) := fun t kk => k2 t (by
      show Steps p.tables e below (s₁.setTop (mkF m 1 #[.val (.int p1)] [(.int p1)])) _
      refine XS.ifYes X0.here hx rfl (pc0 := 1) (pc' := 8) rfl (hb hby dmethod_3_code_1) rfl ((if0 _ _).trans (feq hc1_1).2) (by decide) (by decide) ?_
      show Steps p.tables e below (s₁.setTop (mkF m 8 #[.val (.int p1)] [])) _
      refine XS.iloadN X0.here hx rfl (hb hby dmethod_3_code_8) rfl ?_
      show Steps p.tables e below (s₁.setTop (mkF m 9 #[.val (.int p1)] [(.int p1)])) _
      refine XS.iconst X0.here hx rfl (hb hby dmethod_3_code_9) ?_
      exact kk)
    by_cases hc10_7 : p1 = (1 : Int32)
    · have k9 : Go p e below (s₁.setTop (entryFrame m #[(.int p1)] 1)) (s₁.setTop (mkF m 13 #[.val (.int p1)] [])) := fun t kk => k8 t (by
        show Steps p.tables e below (s₁.setTop (mkF m 10 #[.val (.int p1)] [(.int (1 : Int32)), (.int p1)])) _
        refine XS.icmpNo X0.here hx rfl (hb hby dmethod_3_code_10) rfl (teq hc10_7).2 ?_
        exact kk)
      obtain ⟨y_FETCH, Sy_FETCH, Ey_FETCH, Py_FETCH, Ry_FETCH⟩ := c_FETCH
      obtain ⟨T10, X10, e10, st10⟩ := getS2 X0 hx hZ hown (host := "") (Or.inl (hw _ (List.mem_of_getElem? (i := 45) rfl))) Via.refl e0 Sy_FETCH (g := (mkF m 13 #[.val (.int p1)] [])) rfl (hb hby dmethod_3_code_13)
      have k10 : Go p e below (s₁.setTop (entryFrame m #[(.int p1)] 1)) (T10.setTop (mkF m 16 #[.val (.int p1)] [(.ref y_FETCH)])) := fun t kk => k9 t (st10 t kk)
      have lo11 : own_lo p1 = 4 := by rw [hc10_7]; rfl
      have hi11 : own_hi p1 = 11 := by rw [hc10_7]; rfl
      obtain ⟨fs, hr, hrun, hended, hW, hsame⟩ := X10.leave (v := some (.ref y_FETCH)) (fun h => by rw [Bd.returns] at h; cases h)
      refine ⟨_, _, k10 _ ?_, hrun, hended, _, _, rfl, ?_, ⟨_, rfl⟩, hW, hsame.mono (by decide) (by decide)⟩
      · show Steps p.tables e below (T10.setTop (mkF m 16 #[.val (.int p1)] [(.ref y_FETCH)])) _
        jvm_step X10.here [X10.here.top, hx, (hb hby dmethod_3_code_16), X10.method', Bd.returns, Value.isRef, FieldType.isReference]
        first | (intro acts; rw [hr _ acts rfl rfl rfl]) | rw [hr _ _ rfl rfl rfl]
        exact Steps.refl _
      · show QK Z p1 h0 n0 _ T10.heap _
        rw [e10]
        exact ⟨y_FETCH, rfl, rfl, rfl, Ey_FETCH, (by rw [lo11]; exact Py_FETCH), (by rw [hi11]; exact Ry_FETCH)⟩
    · have k14 : Go p e below (s₁.setTop (entryFrame m #[(.int p1)] 1)) (s₁.setTop (mkF m 19 #[.val (.int p1)] [(.int (2 : Int32)), (.int p1)])) := fun t kk => k8 t (by
        show Steps p.tables e below (s₁.setTop (mkF m 10 #[.val (.int p1)] [(.int (1 : Int32)), (.int p1)])) _
        refine XS.icmpYes X0.here hx rfl (pc0 := 10) (pc' := 17) rfl (hb hby dmethod_3_code_10) rfl (feq hc10_7).2 (by decide) (by decide) ?_
        show Steps p.tables e below (s₁.setTop (mkF m 17 #[.val (.int p1)] [])) _
        refine XS.iloadN X0.here hx rfl (hb hby dmethod_3_code_17) rfl ?_
        show Steps p.tables e below (s₁.setTop (mkF m 18 #[.val (.int p1)] [(.int p1)])) _
        refine XS.iconst X0.here hx rfl (hb hby dmethod_3_code_18) ?_
        exact kk)
      by_cases hc19_13 : p1 = (2 : Int32)
      · have k15 : Go p e below (s₁.setTop (entryFrame m #[(.int p1)] 1)) (s₁.setTop (mkF m 22 #[.val (.int p1)] [])) := fun t kk => k14 t (by
          show Steps p.tables e below (s₁.setTop (mkF m 19 #[.val (.int p1)] [(.int (2 : Int32)), (.int p1)])) _
          refine XS.icmpNo X0.here hx rfl (hb hby dmethod_3_code_19) rfl (teq hc19_13).2 ?_
          exact kk)
        obtain ⟨y_LIST_OFFSETS, Sy_LIST_OFFSETS, Ey_LIST_OFFSETS, Py_LIST_OFFSETS, Ry_LIST_OFFSETS⟩ := c_LIST_OFFSETS
        obtain ⟨T16, X16, e16, st16⟩ := getS2 X0 hx hZ hown (host := "") (Or.inl (hw _ (List.mem_of_getElem? (i := 27) rfl))) Via.refl e0 Sy_LIST_OFFSETS (g := (mkF m 22 #[.val (.int p1)] [])) rfl (hb hby dmethod_3_code_22)
        have k16 : Go p e below (s₁.setTop (entryFrame m #[(.int p1)] 1)) (T16.setTop (mkF m 25 #[.val (.int p1)] [(.ref y_LIST_OFFSETS)])) := fun t kk => k15 t (st16 t kk)
        have lo17 : own_lo p1 = 1 := by rw [hc19_13]; rfl
        have hi17 : own_hi p1 = 3 := by rw [hc19_13]; rfl
        obtain ⟨fs, hr, hrun, hended, hW, hsame⟩ := X16.leave (v := some (.ref y_LIST_OFFSETS)) (fun h => by rw [Bd.returns] at h; cases h)
        refine ⟨_, _, k16 _ ?_, hrun, hended, _, _, rfl, ?_, ⟨_, rfl⟩, hW, hsame.mono (by decide) (by decide)⟩
        · show Steps p.tables e below (T16.setTop (mkF m 25 #[.val (.int p1)] [(.ref y_LIST_OFFSETS)])) _
          jvm_step X16.here [X16.here.top, hx, (hb hby dmethod_3_code_25), X16.method', Bd.returns, Value.isRef, FieldType.isReference]
          first | (intro acts; rw [hr _ acts rfl rfl rfl]) | rw [hr _ _ rfl rfl rfl]
          exact Steps.refl _
        · show QK Z p1 h0 n0 _ T16.heap _
          rw [e16]
          exact ⟨y_LIST_OFFSETS, rfl, rfl, rfl, Ey_LIST_OFFSETS, (by rw [lo17]; exact Py_LIST_OFFSETS), (by rw [hi17]; exact Ry_LIST_OFFSETS)⟩
      · have k20 : Go p e below (s₁.setTop (entryFrame m #[(.int p1)] 1)) (s₁.setTop (mkF m 28 #[.val (.int p1)] [(.int (3 : Int32)), (.int p1)])) := fun t kk => k14 t (by
          show Steps p.tables e below (s₁.setTop (mkF m 19 #[.val (.int p1)] [(.int (2 : Int32)), (.int p1)])) _
          refine XS.icmpYes X0.here hx rfl (pc0 := 19) (pc' := 26) rfl (hb hby dmethod_3_code_19) rfl (feq hc19_13).2 (by decide) (by decide) ?_
          show Steps p.tables e below (s₁.setTop (mkF m 26 #[.val (.int p1)] [])) _
          refine XS.iloadN X0.here hx rfl (hb hby dmethod_3_code_26) rfl ?_
          show Steps p.tables e below (s₁.setTop (mkF m 27 #[.val (.int p1)] [(.int p1)])) _
          refine XS.iconst X0.here hx rfl (hb hby dmethod_3_code_27) ?_
          exact kk)
        by_cases hc28_19 : p1 = (3 : Int32)
        · have k21 : Go p e below (s₁.setTop (entryFrame m #[(.int p1)] 1)) (s₁.setTop (mkF m 31 #[.val (.int p1)] [])) := fun t kk => k20 t (by
            show Steps p.tables e below (s₁.setTop (mkF m 28 #[.val (.int p1)] [(.int (3 : Int32)), (.int p1)])) _
            refine XS.icmpNo X0.here hx rfl (hb hby dmethod_3_code_28) rfl (teq hc28_19).2 ?_
            exact kk)
          obtain ⟨y_METADATA, Sy_METADATA, Ey_METADATA, Py_METADATA, Ry_METADATA⟩ := c_METADATA
          obtain ⟨T22, X22, e22, st22⟩ := getS2 X0 hx hZ hown (host := "") (Or.inl (hw _ (List.mem_of_getElem? (i := 31) rfl))) Via.refl e0 Sy_METADATA (g := (mkF m 31 #[.val (.int p1)] [])) rfl (hb hby dmethod_3_code_31)
          have k22 : Go p e below (s₁.setTop (entryFrame m #[(.int p1)] 1)) (T22.setTop (mkF m 34 #[.val (.int p1)] [(.ref y_METADATA)])) := fun t kk => k21 t (st22 t kk)
          have lo23 : own_lo p1 = 0 := by rw [hc28_19]; rfl
          have hi23 : own_hi p1 = 5 := by rw [hc28_19]; rfl
          obtain ⟨fs, hr, hrun, hended, hW, hsame⟩ := X22.leave (v := some (.ref y_METADATA)) (fun h => by rw [Bd.returns] at h; cases h)
          refine ⟨_, _, k22 _ ?_, hrun, hended, _, _, rfl, ?_, ⟨_, rfl⟩, hW, hsame.mono (by decide) (by decide)⟩
          · show Steps p.tables e below (T22.setTop (mkF m 34 #[.val (.int p1)] [(.ref y_METADATA)])) _
            jvm_step X22.here [X22.here.top, hx, (hb hby dmethod_3_code_34), X22.method', Bd.returns, Value.isRef, FieldType.isReference]
            first | (intro acts; rw [hr _ acts rfl rfl rfl]) | rw [hr _ _ rfl rfl rfl]
            exact Steps.refl _
          · show QK Z p1 h0 n0 _ T22.heap _
            rw [e22]
            exact ⟨y_METADATA, rfl, rfl, rfl, Ey_METADATA, (by rw [lo23]; exact Py_METADATA), (by rw [hi23]; exact Ry_METADATA)⟩
        · have k26 : Go p e below (s₁.setTop (entryFrame m #[(.int p1)] 1)) (s₁.setTop (mkF m 37 #[.val (.int p1)] [(.int (4 : Int32)), (.int p1)])) := fun t kk => k20 t (by
            show Steps p.tables e below (s₁.setTop (mkF m 28 #[.val (.int p1)] [(.int (3 : Int32)), (.int p1)])) _
            refine XS.icmpYes X0.here hx rfl (pc0 := 28) (pc' := 35) rfl (hb hby dmethod_3_code_28) rfl (feq hc28_19).2 (by decide) (by decide) ?_
            show Steps p.tables e below (s₁.setTop (mkF m 35 #[.val (.int p1)] [])) _
            refine XS.iloadN X0.here hx rfl (hb hby dmethod_3_code_35) rfl ?_
            show Steps p.tables e below (s₁.setTop (mkF m 36 #[.val (.int p1)] [(.int p1)])) _
            refine XS.iconst X0.here hx rfl (hb hby dmethod_3_code_36) ?_
            exact kk)
          by_cases hc37_25 : p1 = (4 : Int32)
          · have k27 : Go p e below (s₁.setTop (entryFrame m #[(.int p1)] 1)) (s₁.setTop (mkF m 40 #[.val (.int p1)] [])) := fun t kk => k26 t (by
              show Steps p.tables e below (s₁.setTop (mkF m 37 #[.val (.int p1)] [(.int (4 : Int32)), (.int p1)])) _
              refine XS.icmpNo X0.here hx rfl (hb hby dmethod_3_code_37) rfl (teq hc37_25).2 ?_
              exact kk)
            obtain ⟨y_OFFSET_COMMIT, Sy_OFFSET_COMMIT, Ey_OFFSET_COMMIT, Py_OFFSET_COMMIT, Ry_OFFSET_COMMIT⟩ := c_OFFSET_COMMIT
            obtain ⟨T28, X28, e28, st28⟩ := getS2 X0 hx hZ hown (host := "") (Or.inl (hw _ (List.mem_of_getElem? (i := 55) rfl))) Via.refl e0 Sy_OFFSET_COMMIT (g := (mkF m 40 #[.val (.int p1)] [])) rfl (hb hby dmethod_3_code_40)
            have k28 : Go p e below (s₁.setTop (entryFrame m #[(.int p1)] 1)) (T28.setTop (mkF m 43 #[.val (.int p1)] [(.ref y_OFFSET_COMMIT)])) := fun t kk => k27 t (st28 t kk)
            have lo29 : own_lo p1 = 2 := by rw [hc37_25]; rfl
            have hi29 : own_hi p1 = 3 := by rw [hc37_25]; rfl
            obtain ⟨fs, hr, hrun, hended, hW, hsame⟩ := X28.leave (v := some (.ref y_OFFSET_COMMIT)) (fun h => by rw [Bd.returns] at h; cases h)
            refine ⟨_, _, k28 _ ?_, hrun, hended, _, _, rfl, ?_, ⟨_, rfl⟩, hW, hsame.mono (by decide) (by decide)⟩
            · show Steps p.tables e below (T28.setTop (mkF m 43 #[.val (.int p1)] [(.ref y_OFFSET_COMMIT)])) _
              jvm_step X28.here [X28.here.top, hx, (hb hby dmethod_3_code_43), X28.method', Bd.returns, Value.isRef, FieldType.isReference]
              first | (intro acts; rw [hr _ acts rfl rfl rfl]) | rw [hr _ _ rfl rfl rfl]
              exact Steps.refl _
            · show QK Z p1 h0 n0 _ T28.heap _
              rw [e28]
              exact ⟨y_OFFSET_COMMIT, rfl, rfl, rfl, Ey_OFFSET_COMMIT, (by rw [lo29]; exact Py_OFFSET_COMMIT), (by rw [hi29]; exact Ry_OFFSET_COMMIT)⟩
          · have k32 : Go p e below (s₁.setTop (entryFrame m #[(.int p1)] 1)) (s₁.setTop (mkF m 46 #[.val (.int p1)] [(.int (5 : Int32)), (.int p1)])) := fun t kk => k26 t (by
              show Steps p.tables e below (s₁.setTop (mkF m 37 #[.val (.int p1)] [(.int (4 : Int32)), (.int p1)])) _
              refine XS.icmpYes X0.here hx rfl (pc0 := 37) (pc' := 44) rfl (hb hby dmethod_3_code_37) rfl (feq hc37_25).2 (by decide) (by decide) ?_
              show Steps p.tables e below (s₁.setTop (mkF m 44 #[.val (.int p1)] [])) _
              refine XS.iloadN X0.here hx rfl (hb hby dmethod_3_code_44) rfl ?_
              show Steps p.tables e below (s₁.setTop (mkF m 45 #[.val (.int p1)] [(.int p1)])) _
              refine XS.iconst X0.here hx rfl (hb hby dmethod_3_code_45) ?_
              exact kk)
            by_cases hc46_31 : p1 = (5 : Int32)
            · have k33 : Go p e below (s₁.setTop (entryFrame m #[(.int p1)] 1)) (s₁.setTop (mkF m 49 #[.val (.int p1)] [])) := fun t kk => k32 t (by
                show Steps p.tables e below (s₁.setTop (mkF m 46 #[.val (.int p1)] [(.int (5 : Int32)), (.int p1)])) _
                refine XS.icmpNo X0.here hx rfl (hb hby dmethod_3_code_46) rfl (teq hc46_31).2 ?_
                exact kk)
              obtain ⟨y_OFFSET_FETCH, Sy_OFFSET_FETCH, Ey_OFFSET_FETCH, Py_OFFSET_FETCH, Ry_OFFSET_FETCH⟩ := c_OFFSET_FETCH
              obtain ⟨T34, X34, e34, st34⟩ := getS2 X0 hx hZ hown (host := "") (Or.inl (hw _ (List.mem_of_getElem? (i := 39) rfl))) Via.refl e0 Sy_OFFSET_FETCH (g := (mkF m 49 #[.val (.int p1)] [])) rfl (hb hby dmethod_3_code_49)
              have k34 : Go p e below (s₁.setTop (entryFrame m #[(.int p1)] 1)) (T34.setTop (mkF m 52 #[.val (.int p1)] [(.ref y_OFFSET_FETCH)])) := fun t kk => k33 t (st34 t kk)
              have lo35 : own_lo p1 = 1 := by rw [hc46_31]; rfl
              have hi35 : own_hi p1 = 3 := by rw [hc46_31]; rfl
              obtain ⟨fs, hr, hrun, hended, hW, hsame⟩ := X34.leave (v := some (.ref y_OFFSET_FETCH)) (fun h => by rw [Bd.returns] at h; cases h)
              refine ⟨_, _, k34 _ ?_, hrun, hended, _, _, rfl, ?_, ⟨_, rfl⟩, hW, hsame.mono (by decide) (by decide)⟩
              · show Steps p.tables e below (T34.setTop (mkF m 52 #[.val (.int p1)] [(.ref y_OFFSET_FETCH)])) _
                jvm_step X34.here [X34.here.top, hx, (hb hby dmethod_3_code_52), X34.method', Bd.returns, Value.isRef, FieldType.isReference]
                first | (intro acts; rw [hr _ acts rfl rfl rfl]) | rw [hr _ _ rfl rfl rfl]
                exact Steps.refl _
              · show QK Z p1 h0 n0 _ T34.heap _
                rw [e34]
                exact ⟨y_OFFSET_FETCH, rfl, rfl, rfl, Ey_OFFSET_FETCH, (by rw [lo35]; exact Py_OFFSET_FETCH), (by rw [hi35]; exact Ry_OFFSET_FETCH)⟩
            · have k38 : Go p e below (s₁.setTop (entryFrame m #[(.int p1)] 1)) (s₁.setTop (mkF m 56 #[.val (.int p1)] [(.int (6 : Int32)), (.int p1)])) := fun t kk => k32 t (by
                show Steps p.tables e below (s₁.setTop (mkF m 46 #[.val (.int p1)] [(.int (5 : Int32)), (.int p1)])) _
                refine XS.icmpYes X0.here hx rfl (pc0 := 46) (pc' := 53) rfl (hb hby dmethod_3_code_46) rfl (feq hc46_31).2 (by decide) (by decide) ?_
                show Steps p.tables e below (s₁.setTop (mkF m 53 #[.val (.int p1)] [])) _
                refine XS.iloadN X0.here hx rfl (hb hby dmethod_3_code_53) rfl ?_
                show Steps p.tables e below (s₁.setTop (mkF m 54 #[.val (.int p1)] [(.int p1)])) _
                refine XS.bipush X0.here hx rfl (hb hby dmethod_3_code_54) ?_
                exact kk)
              by_cases hc56_37 : p1 = (6 : Int32)
              · have k39 : Go p e below (s₁.setTop (entryFrame m #[(.int p1)] 1)) (s₁.setTop (mkF m 59 #[.val (.int p1)] [])) := fun t kk => k38 t (by
                  show Steps p.tables e below (s₁.setTop (mkF m 56 #[.val (.int p1)] [(.int (6 : Int32)), (.int p1)])) _
                  refine XS.icmpNo X0.here hx rfl (hb hby dmethod_3_code_56) rfl (teq hc56_37).2 ?_
                  exact kk)
                obtain ⟨y_FIND_COORDINATOR, Sy_FIND_COORDINATOR, Ey_FIND_COORDINATOR, Py_FIND_COORDINATOR, Ry_FIND_COORDINATOR⟩ := c_FIND_COORDINATOR
                obtain ⟨T40, X40, e40, st40⟩ := getS2 X0 hx hZ hown (host := "") (Or.inl (hw _ (List.mem_of_getElem? (i := 33) rfl))) Via.refl e0 Sy_FIND_COORDINATOR (g := (mkF m 59 #[.val (.int p1)] [])) rfl (hb hby dmethod_3_code_59)
                have k40 : Go p e below (s₁.setTop (entryFrame m #[(.int p1)] 1)) (T40.setTop (mkF m 62 #[.val (.int p1)] [(.ref y_FIND_COORDINATOR)])) := fun t kk => k39 t (st40 t kk)
                have lo41 : own_lo p1 = 0 := by rw [hc56_37]; rfl
                have hi41 : own_hi p1 = 1 := by rw [hc56_37]; rfl
                obtain ⟨fs, hr, hrun, hended, hW, hsame⟩ := X40.leave (v := some (.ref y_FIND_COORDINATOR)) (fun h => by rw [Bd.returns] at h; cases h)
                refine ⟨_, _, k40 _ ?_, hrun, hended, _, _, rfl, ?_, ⟨_, rfl⟩, hW, hsame.mono (by decide) (by decide)⟩
                · show Steps p.tables e below (T40.setTop (mkF m 62 #[.val (.int p1)] [(.ref y_FIND_COORDINATOR)])) _
                  jvm_step X40.here [X40.here.top, hx, (hb hby dmethod_3_code_62), X40.method', Bd.returns, Value.isRef, FieldType.isReference]
                  first | (intro acts; rw [hr _ acts rfl rfl rfl]) | rw [hr _ _ rfl rfl rfl]
                  exact Steps.refl _
                · show QK Z p1 h0 n0 _ T40.heap _
                  rw [e40]
                  exact ⟨y_FIND_COORDINATOR, rfl, rfl, rfl, Ey_FIND_COORDINATOR, (by rw [lo41]; exact Py_FIND_COORDINATOR), (by rw [hi41]; exact Ry_FIND_COORDINATOR)⟩
              · have k44 : Go p e below (s₁.setTop (entryFrame m #[(.int p1)] 1)) (s₁.setTop (mkF m 66 #[.val (.int p1)] [(.int (7 : Int32)), (.int p1)])) := fun t kk => k38 t (by
                  show Steps p.tables e below (s₁.setTop (mkF m 56 #[.val (.int p1)] [(.int (6 : Int32)), (.int p1)])) _
                  refine XS.icmpYes X0.here hx rfl (pc0 := 56) (pc' := 63) rfl (hb hby dmethod_3_code_56) rfl (feq hc56_37).2 (by decide) (by decide) ?_
                  show Steps p.tables e below (s₁.setTop (mkF m 63 #[.val (.int p1)] [])) _
                  refine XS.iloadN X0.here hx rfl (hb hby dmethod_3_code_63) rfl ?_
                  show Steps p.tables e below (s₁.setTop (mkF m 64 #[.val (.int p1)] [(.int p1)])) _
                  refine XS.bipush X0.here hx rfl (hb hby dmethod_3_code_64) ?_
                  exact kk)
                by_cases hc66_43 : p1 = (7 : Int32)
                · have k45 : Go p e below (s₁.setTop (entryFrame m #[(.int p1)] 1)) (s₁.setTop (mkF m 69 #[.val (.int p1)] [])) := fun t kk => k44 t (by
                    show Steps p.tables e below (s₁.setTop (mkF m 66 #[.val (.int p1)] [(.int (7 : Int32)), (.int p1)])) _
                    refine XS.icmpNo X0.here hx rfl (hb hby dmethod_3_code_66) rfl (teq hc66_43).2 ?_
                    exact kk)
                  obtain ⟨y_JOIN_GROUP, Sy_JOIN_GROUP, Ey_JOIN_GROUP, Py_JOIN_GROUP, Ry_JOIN_GROUP⟩ := c_JOIN_GROUP
                  obtain ⟨T46, X46, e46, st46⟩ := getS2 X0 hx hZ hown (host := "") (Or.inl (hw _ (List.mem_of_getElem? (i := 41) rfl))) Via.refl e0 Sy_JOIN_GROUP (g := (mkF m 69 #[.val (.int p1)] [])) rfl (hb hby dmethod_3_code_69)
                  have k46 : Go p e below (s₁.setTop (entryFrame m #[(.int p1)] 1)) (T46.setTop (mkF m 72 #[.val (.int p1)] [(.ref y_JOIN_GROUP)])) := fun t kk => k45 t (st46 t kk)
                  have lo47 : own_lo p1 = 0 := by rw [hc66_43]; rfl
                  have hi47 : own_hi p1 = 2 := by rw [hc66_43]; rfl
                  obtain ⟨fs, hr, hrun, hended, hW, hsame⟩ := X46.leave (v := some (.ref y_JOIN_GROUP)) (fun h => by rw [Bd.returns] at h; cases h)
                  refine ⟨_, _, k46 _ ?_, hrun, hended, _, _, rfl, ?_, ⟨_, rfl⟩, hW, hsame.mono (by decide) (by decide)⟩
                  · show Steps p.tables e below (T46.setTop (mkF m 72 #[.val (.int p1)] [(.ref y_JOIN_GROUP)])) _
                    jvm_step X46.here [X46.here.top, hx, (hb hby dmethod_3_code_72), X46.method', Bd.returns, Value.isRef, FieldType.isReference]
                    first | (intro acts; rw [hr _ acts rfl rfl rfl]) | rw [hr _ _ rfl rfl rfl]
                    exact Steps.refl _
                  · show QK Z p1 h0 n0 _ T46.heap _
                    rw [e46]
                    exact ⟨y_JOIN_GROUP, rfl, rfl, rfl, Ey_JOIN_GROUP, (by rw [lo47]; exact Py_JOIN_GROUP), (by rw [hi47]; exact Ry_JOIN_GROUP)⟩
                · have k50 : Go p e below (s₁.setTop (entryFrame m #[(.int p1)] 1)) (s₁.setTop (mkF m 76 #[.val (.int p1)] [(.int (8 : Int32)), (.int p1)])) := fun t kk => k44 t (by
                    show Steps p.tables e below (s₁.setTop (mkF m 66 #[.val (.int p1)] [(.int (7 : Int32)), (.int p1)])) _
                    refine XS.icmpYes X0.here hx rfl (pc0 := 66) (pc' := 73) rfl (hb hby dmethod_3_code_66) rfl (feq hc66_43).2 (by decide) (by decide) ?_
                    show Steps p.tables e below (s₁.setTop (mkF m 73 #[.val (.int p1)] [])) _
                    refine XS.iloadN X0.here hx rfl (hb hby dmethod_3_code_73) rfl ?_
                    show Steps p.tables e below (s₁.setTop (mkF m 74 #[.val (.int p1)] [(.int p1)])) _
                    refine XS.bipush X0.here hx rfl (hb hby dmethod_3_code_74) ?_
                    exact kk)
                  by_cases hc76_49 : p1 = (8 : Int32)
                  · have k51 : Go p e below (s₁.setTop (entryFrame m #[(.int p1)] 1)) (s₁.setTop (mkF m 79 #[.val (.int p1)] [])) := fun t kk => k50 t (by
                      show Steps p.tables e below (s₁.setTop (mkF m 76 #[.val (.int p1)] [(.int (8 : Int32)), (.int p1)])) _
                      refine XS.icmpNo X0.here hx rfl (hb hby dmethod_3_code_76) rfl (teq hc76_49).2 ?_
                      exact kk)
                    obtain ⟨y_HEARTBEAT, Sy_HEARTBEAT, Ey_HEARTBEAT, Py_HEARTBEAT, Ry_HEARTBEAT⟩ := c_HEARTBEAT
                    obtain ⟨T52, X52, e52, st52⟩ := getS2 X0 hx hZ hown (host := "") (Or.inl (hw _ (List.mem_of_getElem? (i := 35) rfl))) Via.refl e0 Sy_HEARTBEAT (g := (mkF m 79 #[.val (.int p1)] [])) rfl (hb hby dmethod_3_code_79)
                    have k52 : Go p e below (s₁.setTop (entryFrame m #[(.int p1)] 1)) (T52.setTop (mkF m 82 #[.val (.int p1)] [(.ref y_HEARTBEAT)])) := fun t kk => k51 t (st52 t kk)
                    have lo53 : own_lo p1 = 0 := by rw [hc76_49]; rfl
                    have hi53 : own_hi p1 = 1 := by rw [hc76_49]; rfl
                    obtain ⟨fs, hr, hrun, hended, hW, hsame⟩ := X52.leave (v := some (.ref y_HEARTBEAT)) (fun h => by rw [Bd.returns] at h; cases h)
                    refine ⟨_, _, k52 _ ?_, hrun, hended, _, _, rfl, ?_, ⟨_, rfl⟩, hW, hsame.mono (by decide) (by decide)⟩
                    · show Steps p.tables e below (T52.setTop (mkF m 82 #[.val (.int p1)] [(.ref y_HEARTBEAT)])) _
                      jvm_step X52.here [X52.here.top, hx, (hb hby dmethod_3_code_82), X52.method', Bd.returns, Value.isRef, FieldType.isReference]
                      first | (intro acts; rw [hr _ acts rfl rfl rfl]) | rw [hr _ _ rfl rfl rfl]
                      exact Steps.refl _
                    · show QK Z p1 h0 n0 _ T52.heap _
                      rw [e52]
                      exact ⟨y_HEARTBEAT, rfl, rfl, rfl, Ey_HEARTBEAT, (by rw [lo53]; exact Py_HEARTBEAT), (by rw [hi53]; exact Ry_HEARTBEAT)⟩
                  · have k56 : Go p e below (s₁.setTop (entryFrame m #[(.int p1)] 1)) (s₁.setTop (mkF m 86 #[.val (.int p1)] [(.int (9 : Int32)), (.int p1)])) := fun t kk => k50 t (by
                      show Steps p.tables e below (s₁.setTop (mkF m 76 #[.val (.int p1)] [(.int (8 : Int32)), (.int p1)])) _
                      refine XS.icmpYes X0.here hx rfl (pc0 := 76) (pc' := 83) rfl (hb hby dmethod_3_code_76) rfl (feq hc76_49).2 (by decide) (by decide) ?_
                      show Steps p.tables e below (s₁.setTop (mkF m 83 #[.val (.int p1)] [])) _
                      refine XS.iloadN X0.here hx rfl (hb hby dmethod_3_code_83) rfl ?_
                      show Steps p.tables e below (s₁.setTop (mkF m 84 #[.val (.int p1)] [(.int p1)])) _
                      refine XS.bipush X0.here hx rfl (hb hby dmethod_3_code_84) ?_
                      exact kk)
                    by_cases hc86_55 : p1 = (9 : Int32)
                    · have k57 : Go p e below (s₁.setTop (entryFrame m #[(.int p1)] 1)) (s₁.setTop (mkF m 89 #[.val (.int p1)] [])) := fun t kk => k56 t (by
                        show Steps p.tables e below (s₁.setTop (mkF m 86 #[.val (.int p1)] [(.int (9 : Int32)), (.int p1)])) _
                        refine XS.icmpNo X0.here hx rfl (hb hby dmethod_3_code_86) rfl (teq hc86_55).2 ?_
                        exact kk)
                      obtain ⟨y_LEAVE_GROUP, Sy_LEAVE_GROUP, Ey_LEAVE_GROUP, Py_LEAVE_GROUP, Ry_LEAVE_GROUP⟩ := c_LEAVE_GROUP
                      obtain ⟨T58, X58, e58, st58⟩ := getS2 X0 hx hZ hown (host := "") (Or.inl (hw _ (List.mem_of_getElem? (i := 29) rfl))) Via.refl e0 Sy_LEAVE_GROUP (g := (mkF m 89 #[.val (.int p1)] [])) rfl (hb hby dmethod_3_code_89)
                      have k58 : Go p e below (s₁.setTop (entryFrame m #[(.int p1)] 1)) (T58.setTop (mkF m 92 #[.val (.int p1)] [(.ref y_LEAVE_GROUP)])) := fun t kk => k57 t (st58 t kk)
                      have lo59 : own_lo p1 = 0 := by rw [hc86_55]; rfl
                      have hi59 : own_hi p1 = 1 := by rw [hc86_55]; rfl
                      obtain ⟨fs, hr, hrun, hended, hW, hsame⟩ := X58.leave (v := some (.ref y_LEAVE_GROUP)) (fun h => by rw [Bd.returns] at h; cases h)
                      refine ⟨_, _, k58 _ ?_, hrun, hended, _, _, rfl, ?_, ⟨_, rfl⟩, hW, hsame.mono (by decide) (by decide)⟩
                      · show Steps p.tables e below (T58.setTop (mkF m 92 #[.val (.int p1)] [(.ref y_LEAVE_GROUP)])) _
                        jvm_step X58.here [X58.here.top, hx, (hb hby dmethod_3_code_92), X58.method', Bd.returns, Value.isRef, FieldType.isReference]
                        first | (intro acts; rw [hr _ acts rfl rfl rfl]) | rw [hr _ _ rfl rfl rfl]
                        exact Steps.refl _
                      · show QK Z p1 h0 n0 _ T58.heap _
                        rw [e58]
                        exact ⟨y_LEAVE_GROUP, rfl, rfl, rfl, Ey_LEAVE_GROUP, (by rw [lo59]; exact Py_LEAVE_GROUP), (by rw [hi59]; exact Ry_LEAVE_GROUP)⟩
                    · have k62 : Go p e below (s₁.setTop (entryFrame m #[(.int p1)] 1)) (s₁.setTop (mkF m 96 #[.val (.int p1)] [(.int (10 : Int32)), (.int p1)])) := fun t kk => k56 t (by
                        show Steps p.tables e below (s₁.setTop (mkF m 86 #[.val (.int p1)] [(.int (9 : Int32)), (.int p1)])) _
                        refine XS.icmpYes X0.here hx rfl (pc0 := 86) (pc' := 93) rfl (hb hby dmethod_3_code_86) rfl (feq hc86_55).2 (by decide) (by decide) ?_
                        show Steps p.tables e below (s₁.setTop (mkF m 93 #[.val (.int p1)] [])) _
                        refine XS.iloadN X0.here hx rfl (hb hby dmethod_3_code_93) rfl ?_
                        show Steps p.tables e below (s₁.setTop (mkF m 94 #[.val (.int p1)] [(.int p1)])) _
                        refine XS.bipush X0.here hx rfl (hb hby dmethod_3_code_94) ?_
                        exact kk)
                      by_cases hc96_61 : p1 = (10 : Int32)
                      · have k63 : Go p e below (s₁.setTop (entryFrame m #[(.int p1)] 1)) (s₁.setTop (mkF m 99 #[.val (.int p1)] [])) := fun t kk => k62 t (by
                          show Steps p.tables e below (s₁.setTop (mkF m 96 #[.val (.int p1)] [(.int (10 : Int32)), (.int p1)])) _
                          refine XS.icmpNo X0.here hx rfl (hb hby dmethod_3_code_96) rfl (teq hc96_61).2 ?_
                          exact kk)
                        obtain ⟨y_SYNC_GROUP, Sy_SYNC_GROUP, Ey_SYNC_GROUP, Py_SYNC_GROUP, Ry_SYNC_GROUP⟩ := c_SYNC_GROUP
                        obtain ⟨T64, X64, e64, st64⟩ := getS2 X0 hx hZ hown (host := "") (Or.inl (hw _ (List.mem_of_getElem? (i := 49) rfl))) Via.refl e0 Sy_SYNC_GROUP (g := (mkF m 99 #[.val (.int p1)] [])) rfl (hb hby dmethod_3_code_99)
                        have k64 : Go p e below (s₁.setTop (entryFrame m #[(.int p1)] 1)) (T64.setTop (mkF m 102 #[.val (.int p1)] [(.ref y_SYNC_GROUP)])) := fun t kk => k63 t (st64 t kk)
                        have lo65 : own_lo p1 = 0 := by rw [hc96_61]; rfl
                        have hi65 : own_hi p1 = 1 := by rw [hc96_61]; rfl
                        obtain ⟨fs, hr, hrun, hended, hW, hsame⟩ := X64.leave (v := some (.ref y_SYNC_GROUP)) (fun h => by rw [Bd.returns] at h; cases h)
                        refine ⟨_, _, k64 _ ?_, hrun, hended, _, _, rfl, ?_, ⟨_, rfl⟩, hW, hsame.mono (by decide) (by decide)⟩
                        · show Steps p.tables e below (T64.setTop (mkF m 102 #[.val (.int p1)] [(.ref y_SYNC_GROUP)])) _
                          jvm_step X64.here [X64.here.top, hx, (hb hby dmethod_3_code_102), X64.method', Bd.returns, Value.isRef, FieldType.isReference]
                          first | (intro acts; rw [hr _ acts rfl rfl rfl]) | rw [hr _ _ rfl rfl rfl]
                          exact Steps.refl _
                        · show QK Z p1 h0 n0 _ T64.heap _
                          rw [e64]
                          exact ⟨y_SYNC_GROUP, rfl, rfl, rfl, Ey_SYNC_GROUP, (by rw [lo65]; exact Py_SYNC_GROUP), (by rw [hi65]; exact Ry_SYNC_GROUP)⟩
                      · have k68 : Go p e below (s₁.setTop (entryFrame m #[(.int p1)] 1)) (s₁.setTop (mkF m 106 #[.val (.int p1)] [(.int (11 : Int32)), (.int p1)])) := fun t kk => k62 t (by
                          show Steps p.tables e below (s₁.setTop (mkF m 96 #[.val (.int p1)] [(.int (10 : Int32)), (.int p1)])) _
                          refine XS.icmpYes X0.here hx rfl (pc0 := 96) (pc' := 103) rfl (hb hby dmethod_3_code_96) rfl (feq hc96_61).2 (by decide) (by decide) ?_
                          show Steps p.tables e below (s₁.setTop (mkF m 103 #[.val (.int p1)] [])) _
                          refine XS.iloadN X0.here hx rfl (hb hby dmethod_3_code_103) rfl ?_
                          show Steps p.tables e below (s₁.setTop (mkF m 104 #[.val (.int p1)] [(.int p1)])) _
                          refine XS.bipush X0.here hx rfl (hb hby dmethod_3_code_104) ?_
                          exact kk)
                        by_cases hc106_67 : p1 = (11 : Int32)
                        · have k69 : Go p e below (s₁.setTop (entryFrame m #[(.int p1)] 1)) (s₁.setTop (mkF m 109 #[.val (.int p1)] [])) := fun t kk => k68 t (by
                            show Steps p.tables e below (s₁.setTop (mkF m 106 #[.val (.int p1)] [(.int (11 : Int32)), (.int p1)])) _
                            refine XS.icmpNo X0.here hx rfl (hb hby dmethod_3_code_106) rfl (teq hc106_67).2 ?_
                            exact kk)
                          obtain ⟨y_API_VERSIONS, Sy_API_VERSIONS, Ey_API_VERSIONS, Py_API_VERSIONS, Ry_API_VERSIONS⟩ := c_API_VERSIONS
                          obtain ⟨T70, X70, e70, st70⟩ := getS2 X0 hx hZ hown (host := "") (Or.inl (hw _ (List.mem_of_getElem? (i := 47) rfl))) Via.refl e0 Sy_API_VERSIONS (g := (mkF m 109 #[.val (.int p1)] [])) rfl (hb hby dmethod_3_code_109)
                          have k70 : Go p e below (s₁.setTop (entryFrame m #[(.int p1)] 1)) (T70.setTop (mkF m 112 #[.val (.int p1)] [(.ref y_API_VERSIONS)])) := fun t kk => k69 t (st70 t kk)
                          have lo71 : own_lo p1 = 0 := by rw [hc106_67]; rfl
                          have hi71 : own_hi p1 = 2 := by rw [hc106_67]; rfl
                          obtain ⟨fs, hr, hrun, hended, hW, hsame⟩ := X70.leave (v := some (.ref y_API_VERSIONS)) (fun h => by rw [Bd.returns] at h; cases h)
                          refine ⟨_, _, k70 _ ?_, hrun, hended, _, _, rfl, ?_, ⟨_, rfl⟩, hW, hsame.mono (by decide) (by decide)⟩
                          · show Steps p.tables e below (T70.setTop (mkF m 112 #[.val (.int p1)] [(.ref y_API_VERSIONS)])) _
                            jvm_step X70.here [X70.here.top, hx, (hb hby dmethod_3_code_112), X70.method', Bd.returns, Value.isRef, FieldType.isReference]
                            first | (intro acts; rw [hr _ acts rfl rfl rfl]) | rw [hr _ _ rfl rfl rfl]
                            exact Steps.refl _
                          · show QK Z p1 h0 n0 _ T70.heap _
                            rw [e70]
                            exact ⟨y_API_VERSIONS, rfl, rfl, rfl, Ey_API_VERSIONS, (by rw [lo71]; exact Py_API_VERSIONS), (by rw [hi71]; exact Ry_API_VERSIONS)⟩
                        · have k74 : Go p e below (s₁.setTop (entryFrame m #[(.int p1)] 1)) (s₁.setTop (mkF m 116 #[.val (.int p1)] [(.int (12 : Int32)), (.int p1)])) := fun t kk => k68 t (by
                            show Steps p.tables e below (s₁.setTop (mkF m 106 #[.val (.int p1)] [(.int (11 : Int32)), (.int p1)])) _
                            refine XS.icmpYes X0.here hx rfl (pc0 := 106) (pc' := 113) rfl (hb hby dmethod_3_code_106) rfl (feq hc106_67).2 (by decide) (by decide) ?_
                            show Steps p.tables e below (s₁.setTop (mkF m 113 #[.val (.int p1)] [])) _
                            refine XS.iloadN X0.here hx rfl (hb hby dmethod_3_code_113) rfl ?_
                            show Steps p.tables e below (s₁.setTop (mkF m 114 #[.val (.int p1)] [(.int p1)])) _
                            refine XS.bipush X0.here hx rfl (hb hby dmethod_3_code_114) ?_
                            exact kk)
                          by_cases hc116_73 : p1 = (12 : Int32)
                          · have k75 : Go p e below (s₁.setTop (entryFrame m #[(.int p1)] 1)) (s₁.setTop (mkF m 119 #[.val (.int p1)] [])) := fun t kk => k74 t (by
                              show Steps p.tables e below (s₁.setTop (mkF m 116 #[.val (.int p1)] [(.int (12 : Int32)), (.int p1)])) _
                              refine XS.icmpNo X0.here hx rfl (hb hby dmethod_3_code_116) rfl (teq hc116_73).2 ?_
                              exact kk)
                            obtain ⟨y_CREATE_TOPICS, Sy_CREATE_TOPICS, Ey_CREATE_TOPICS, Py_CREATE_TOPICS, Ry_CREATE_TOPICS⟩ := c_CREATE_TOPICS
                            obtain ⟨T76, X76, e76, st76⟩ := getS2 X0 hx hZ hown (host := "") (Or.inl (hw _ (List.mem_of_getElem? (i := 37) rfl))) Via.refl e0 Sy_CREATE_TOPICS (g := (mkF m 119 #[.val (.int p1)] [])) rfl (hb hby dmethod_3_code_119)
                            have k76 : Go p e below (s₁.setTop (entryFrame m #[(.int p1)] 1)) (T76.setTop (mkF m 122 #[.val (.int p1)] [(.ref y_CREATE_TOPICS)])) := fun t kk => k75 t (st76 t kk)
                            have lo77 : own_lo p1 = 0 := by rw [hc116_73]; rfl
                            have hi77 : own_hi p1 = 4 := by rw [hc116_73]; rfl
                            obtain ⟨fs, hr, hrun, hended, hW, hsame⟩ := X76.leave (v := some (.ref y_CREATE_TOPICS)) (fun h => by rw [Bd.returns] at h; cases h)
                            refine ⟨_, _, k76 _ ?_, hrun, hended, _, _, rfl, ?_, ⟨_, rfl⟩, hW, hsame.mono (by decide) (by decide)⟩
                            · show Steps p.tables e below (T76.setTop (mkF m 122 #[.val (.int p1)] [(.ref y_CREATE_TOPICS)])) _
                              jvm_step X76.here [X76.here.top, hx, (hb hby dmethod_3_code_122), X76.method', Bd.returns, Value.isRef, FieldType.isReference]
                              first | (intro acts; rw [hr _ acts rfl rfl rfl]) | rw [hr _ _ rfl rfl rfl]
                              exact Steps.refl _
                            · show QK Z p1 h0 n0 _ T76.heap _
                              rw [e76]
                              exact ⟨y_CREATE_TOPICS, rfl, rfl, rfl, Ey_CREATE_TOPICS, (by rw [lo77]; exact Py_CREATE_TOPICS), (by rw [hi77]; exact Ry_CREATE_TOPICS)⟩
                          · have k80 : Go p e below (s₁.setTop (entryFrame m #[(.int p1)] 1)) (s₁.setTop (mkF m 126 #[.val (.int p1)] [(.int (13 : Int32)), (.int p1)])) := fun t kk => k74 t (by
                              show Steps p.tables e below (s₁.setTop (mkF m 116 #[.val (.int p1)] [(.int (12 : Int32)), (.int p1)])) _
                              refine XS.icmpYes X0.here hx rfl (pc0 := 116) (pc' := 123) rfl (hb hby dmethod_3_code_116) rfl (feq hc116_73).2 (by decide) (by decide) ?_
                              show Steps p.tables e below (s₁.setTop (mkF m 123 #[.val (.int p1)] [])) _
                              refine XS.iloadN X0.here hx rfl (hb hby dmethod_3_code_123) rfl ?_
                              show Steps p.tables e below (s₁.setTop (mkF m 124 #[.val (.int p1)] [(.int p1)])) _
                              refine XS.bipush X0.here hx rfl (hb hby dmethod_3_code_124) ?_
                              exact kk)
                            by_cases hc126_79 : p1 = (13 : Int32)
                            · have k81 : Go p e below (s₁.setTop (entryFrame m #[(.int p1)] 1)) (s₁.setTop (mkF m 129 #[.val (.int p1)] [])) := fun t kk => k80 t (by
                                show Steps p.tables e below (s₁.setTop (mkF m 126 #[.val (.int p1)] [(.int (13 : Int32)), (.int p1)])) _
                                refine XS.icmpNo X0.here hx rfl (hb hby dmethod_3_code_126) rfl (teq hc126_79).2 ?_
                                exact kk)
                              obtain ⟨y_INIT_PRODUCER_ID, Sy_INIT_PRODUCER_ID, Ey_INIT_PRODUCER_ID, Py_INIT_PRODUCER_ID, Ry_INIT_PRODUCER_ID⟩ := c_INIT_PRODUCER_ID
                              obtain ⟨T82, X82, e82, st82⟩ := getS2 X0 hx hZ hown (host := "") (Or.inl (hw _ (List.mem_of_getElem? (i := 25) rfl))) Via.refl e0 Sy_INIT_PRODUCER_ID (g := (mkF m 129 #[.val (.int p1)] [])) rfl (hb hby dmethod_3_code_129)
                              have k82 : Go p e below (s₁.setTop (entryFrame m #[(.int p1)] 1)) (T82.setTop (mkF m 132 #[.val (.int p1)] [(.ref y_INIT_PRODUCER_ID)])) := fun t kk => k81 t (st82 t kk)
                              have lo83 : own_lo p1 = 0 := by rw [hc126_79]; rfl
                              have hi83 : own_hi p1 = 1 := by rw [hc126_79]; rfl
                              obtain ⟨fs, hr, hrun, hended, hW, hsame⟩ := X82.leave (v := some (.ref y_INIT_PRODUCER_ID)) (fun h => by rw [Bd.returns] at h; cases h)
                              refine ⟨_, _, k82 _ ?_, hrun, hended, _, _, rfl, ?_, ⟨_, rfl⟩, hW, hsame.mono (by decide) (by decide)⟩
                              · show Steps p.tables e below (T82.setTop (mkF m 132 #[.val (.int p1)] [(.ref y_INIT_PRODUCER_ID)])) _
                                jvm_step X82.here [X82.here.top, hx, (hb hby dmethod_3_code_132), X82.method', Bd.returns, Value.isRef, FieldType.isReference]
                                first | (intro acts; rw [hr _ acts rfl rfl rfl]) | rw [hr _ _ rfl rfl rfl]
                                exact Steps.refl _
                              · show QK Z p1 h0 n0 _ T82.heap _
                                rw [e82]
                                exact ⟨y_INIT_PRODUCER_ID, rfl, rfl, rfl, Ey_INIT_PRODUCER_ID, (by rw [lo83]; exact Py_INIT_PRODUCER_ID), (by rw [hi83]; exact Ry_INIT_PRODUCER_ID)⟩
                            · have k86 : Go p e below (s₁.setTop (entryFrame m #[(.int p1)] 1)) (s₁.setTop (mkF m 136 #[.val (.int p1)] [(.int (14 : Int32)), (.int p1)])) := fun t kk => k80 t (by
                                show Steps p.tables e below (s₁.setTop (mkF m 126 #[.val (.int p1)] [(.int (13 : Int32)), (.int p1)])) _
                                refine XS.icmpYes X0.here hx rfl (pc0 := 126) (pc' := 133) rfl (hb hby dmethod_3_code_126) rfl (feq hc126_79).2 (by decide) (by decide) ?_
                                show Steps p.tables e below (s₁.setTop (mkF m 133 #[.val (.int p1)] [])) _
                                refine XS.iloadN X0.here hx rfl (hb hby dmethod_3_code_133) rfl ?_
                                show Steps p.tables e below (s₁.setTop (mkF m 134 #[.val (.int p1)] [(.int p1)])) _
                                refine XS.bipush X0.here hx rfl (hb hby dmethod_3_code_134) ?_
                                exact kk)
                              by_cases hc136_85 : p1 = (14 : Int32)
                              · have k87 : Go p e below (s₁.setTop (entryFrame m #[(.int p1)] 1)) (s₁.setTop (mkF m 139 #[.val (.int p1)] [])) := fun t kk => k86 t (by
                                  show Steps p.tables e below (s₁.setTop (mkF m 136 #[.val (.int p1)] [(.int (14 : Int32)), (.int p1)])) _
                                  refine XS.icmpNo X0.here hx rfl (hb hby dmethod_3_code_136) rfl (teq hc136_85).2 ?_
                                  exact kk)
                                obtain ⟨y_OFFSET_FOR_LEADER_EPOCH, Sy_OFFSET_FOR_LEADER_EPOCH, Ey_OFFSET_FOR_LEADER_EPOCH, Py_OFFSET_FOR_LEADER_EPOCH, Ry_OFFSET_FOR_LEADER_EPOCH⟩ := c_OFFSET_FOR_LEADER_EPOCH
                                obtain ⟨T88, X88, e88, st88⟩ := getS2 X0 hx hZ hown (host := "") (Or.inl (hw _ (List.mem_of_getElem? (i := 23) rfl))) Via.refl e0 Sy_OFFSET_FOR_LEADER_EPOCH (g := (mkF m 139 #[.val (.int p1)] [])) rfl (hb hby dmethod_3_code_139)
                                have k88 : Go p e below (s₁.setTop (entryFrame m #[(.int p1)] 1)) (T88.setTop (mkF m 142 #[.val (.int p1)] [(.ref y_OFFSET_FOR_LEADER_EPOCH)])) := fun t kk => k87 t (st88 t kk)
                                have lo89 : own_lo p1 = 3 := by rw [hc136_85]; rfl
                                have hi89 : own_hi p1 = 3 := by rw [hc136_85]; rfl
                                obtain ⟨fs, hr, hrun, hended, hW, hsame⟩ := X88.leave (v := some (.ref y_OFFSET_FOR_LEADER_EPOCH)) (fun h => by rw [Bd.returns] at h; cases h)
                                refine ⟨_, _, k88 _ ?_, hrun, hended, _, _, rfl, ?_, ⟨_, rfl⟩, hW, hsame.mono (by decide) (by decide)⟩
                                · show Steps p.tables e below (T88.setTop (mkF m 142 #[.val (.int p1)] [(.ref y_OFFSET_FOR_LEADER_EPOCH)])) _
                                  jvm_step X88.here [X88.here.top, hx, (hb hby dmethod_3_code_142), X88.method', Bd.returns, Value.isRef, FieldType.isReference]
                                  first | (intro acts; rw [hr _ acts rfl rfl rfl]) | rw [hr _ _ rfl rfl rfl]
                                  exact Steps.refl _
                                · show QK Z p1 h0 n0 _ T88.heap _
                                  rw [e88]
                                  exact ⟨y_OFFSET_FOR_LEADER_EPOCH, rfl, rfl, rfl, Ey_OFFSET_FOR_LEADER_EPOCH, (by rw [lo89]; exact Py_OFFSET_FOR_LEADER_EPOCH), (by rw [hi89]; exact Ry_OFFSET_FOR_LEADER_EPOCH)⟩
                              · have k92 : Go p e below (s₁.setTop (entryFrame m #[(.int p1)] 1)) (s₁.setTop (mkF m 146 #[.val (.int p1)] [(.int (15 : Int32)), (.int p1)])) := fun t kk => k86 t (by
                                  show Steps p.tables e below (s₁.setTop (mkF m 136 #[.val (.int p1)] [(.int (14 : Int32)), (.int p1)])) _
                                  refine XS.icmpYes X0.here hx rfl (pc0 := 136) (pc' := 143) rfl (hb hby dmethod_3_code_136) rfl (feq hc136_85).2 (by decide) (by decide) ?_
                                  show Steps p.tables e below (s₁.setTop (mkF m 143 #[.val (.int p1)] [])) _
                                  refine XS.iloadN X0.here hx rfl (hb hby dmethod_3_code_143) rfl ?_
                                  show Steps p.tables e below (s₁.setTop (mkF m 144 #[.val (.int p1)] [(.int p1)])) _
                                  refine XS.bipush X0.here hx rfl (hb hby dmethod_3_code_144) ?_
                                  exact kk)
                                by_cases hc146_91 : p1 = (15 : Int32)
                                · have k93 : Go p e below (s₁.setTop (entryFrame m #[(.int p1)] 1)) (s₁.setTop (mkF m 149 #[.val (.int p1)] [])) := fun t kk => k92 t (by
                                    show Steps p.tables e below (s₁.setTop (mkF m 146 #[.val (.int p1)] [(.int (15 : Int32)), (.int p1)])) _
                                    refine XS.icmpNo X0.here hx rfl (hb hby dmethod_3_code_146) rfl (teq hc146_91).2 ?_
                                    exact kk)
                                  obtain ⟨y_CREATE_PARTITIONS, Sy_CREATE_PARTITIONS, Ey_CREATE_PARTITIONS, Py_CREATE_PARTITIONS, Ry_CREATE_PARTITIONS⟩ := c_CREATE_PARTITIONS
                                  obtain ⟨T94, X94, e94, st94⟩ := getS2 X0 hx hZ hown (host := "") (Or.inl (hw _ (List.mem_of_getElem? (i := 51) rfl))) Via.refl e0 Sy_CREATE_PARTITIONS (g := (mkF m 149 #[.val (.int p1)] [])) rfl (hb hby dmethod_3_code_149)
                                  have k94 : Go p e below (s₁.setTop (entryFrame m #[(.int p1)] 1)) (T94.setTop (mkF m 152 #[.val (.int p1)] [(.ref y_CREATE_PARTITIONS)])) := fun t kk => k93 t (st94 t kk)
                                  have lo95 : own_lo p1 = 0 := by rw [hc146_91]; rfl
                                  have hi95 : own_hi p1 = 1 := by rw [hc146_91]; rfl
                                  obtain ⟨fs, hr, hrun, hended, hW, hsame⟩ := X94.leave (v := some (.ref y_CREATE_PARTITIONS)) (fun h => by rw [Bd.returns] at h; cases h)
                                  refine ⟨_, _, k94 _ ?_, hrun, hended, _, _, rfl, ?_, ⟨_, rfl⟩, hW, hsame.mono (by decide) (by decide)⟩
                                  · show Steps p.tables e below (T94.setTop (mkF m 152 #[.val (.int p1)] [(.ref y_CREATE_PARTITIONS)])) _
                                    jvm_step X94.here [X94.here.top, hx, (hb hby dmethod_3_code_152), X94.method', Bd.returns, Value.isRef, FieldType.isReference]
                                    first | (intro acts; rw [hr _ acts rfl rfl rfl]) | rw [hr _ _ rfl rfl rfl]
                                    exact Steps.refl _
                                  · show QK Z p1 h0 n0 _ T94.heap _
                                    rw [e94]
                                    exact ⟨y_CREATE_PARTITIONS, rfl, rfl, rfl, Ey_CREATE_PARTITIONS, (by rw [lo95]; exact Py_CREATE_PARTITIONS), (by rw [hi95]; exact Ry_CREATE_PARTITIONS)⟩
                                · have k98 : Go p e below (s₁.setTop (entryFrame m #[(.int p1)] 1)) (s₁.setTop (mkF m 156 #[.val (.int p1)] [(.int (16 : Int32)), (.int p1)])) := fun t kk => k92 t (by
                                    show Steps p.tables e below (s₁.setTop (mkF m 146 #[.val (.int p1)] [(.int (15 : Int32)), (.int p1)])) _
                                    refine XS.icmpYes X0.here hx rfl (pc0 := 146) (pc' := 153) rfl (hb hby dmethod_3_code_146) rfl (feq hc146_91).2 (by decide) (by decide) ?_
                                    show Steps p.tables e below (s₁.setTop (mkF m 153 #[.val (.int p1)] [])) _
                                    refine XS.iloadN X0.here hx rfl (hb hby dmethod_3_code_153) rfl ?_
                                    show Steps p.tables e below (s₁.setTop (mkF m 154 #[.val (.int p1)] [(.int p1)])) _
                                    refine XS.bipush X0.here hx rfl (hb hby dmethod_3_code_154) ?_
                                    exact kk)
                                  by_cases hc156_97 : p1 = (16 : Int32)
                                  · have k99 : Go p e below (s₁.setTop (entryFrame m #[(.int p1)] 1)) (s₁.setTop (mkF m 159 #[.val (.int p1)] [])) := fun t kk => k98 t (by
                                      show Steps p.tables e below (s₁.setTop (mkF m 156 #[.val (.int p1)] [(.int (16 : Int32)), (.int p1)])) _
                                      refine XS.icmpNo X0.here hx rfl (hb hby dmethod_3_code_156) rfl (teq hc156_97).2 ?_
                                      exact kk)
                                    obtain ⟨y_CLUSTER_STATE, Sy_CLUSTER_STATE, Ey_CLUSTER_STATE, Py_CLUSTER_STATE, Ry_CLUSTER_STATE⟩ := c_CLUSTER_STATE
                                    obtain ⟨T100, X100, e100, st100⟩ := getS2 X0 hx hZ hown (host := "") (Or.inl (hw _ (List.mem_of_getElem? (i := 43) rfl))) Via.refl e0 Sy_CLUSTER_STATE (g := (mkF m 159 #[.val (.int p1)] [])) rfl (hb hby dmethod_3_code_159)
                                    have k100 : Go p e below (s₁.setTop (entryFrame m #[(.int p1)] 1)) (T100.setTop (mkF m 162 #[.val (.int p1)] [(.ref y_CLUSTER_STATE)])) := fun t kk => k99 t (st100 t kk)
                                    have lo101 : own_lo p1 = 1 := by rw [hc156_97]; rfl
                                    have hi101 : own_hi p1 = 1 := by rw [hc156_97]; rfl
                                    obtain ⟨fs, hr, hrun, hended, hW, hsame⟩ := X100.leave (v := some (.ref y_CLUSTER_STATE)) (fun h => by rw [Bd.returns] at h; cases h)
                                    refine ⟨_, _, k100 _ ?_, hrun, hended, _, _, rfl, ?_, ⟨_, rfl⟩, hW, hsame.mono (by decide) (by decide)⟩
                                    · show Steps p.tables e below (T100.setTop (mkF m 162 #[.val (.int p1)] [(.ref y_CLUSTER_STATE)])) _
                                      jvm_step X100.here [X100.here.top, hx, (hb hby dmethod_3_code_162), X100.method', Bd.returns, Value.isRef, FieldType.isReference]
                                      first | (intro acts; rw [hr _ acts rfl rfl rfl]) | rw [hr _ _ rfl rfl rfl]
                                      exact Steps.refl _
                                    · show QK Z p1 h0 n0 _ T100.heap _
                                      rw [e100]
                                      exact ⟨y_CLUSTER_STATE, rfl, rfl, rfl, Ey_CLUSTER_STATE, (by rw [lo101]; exact Py_CLUSTER_STATE), (by rw [hi101]; exact Ry_CLUSTER_STATE)⟩
                                  · have k104 : Go p e below (s₁.setTop (entryFrame m #[(.int p1)] 1)) (s₁.setTop (mkF m 166 #[.val (.int p1)] [(.int (17 : Int32)), (.int p1)])) := fun t kk => k98 t (by
                                      show Steps p.tables e below (s₁.setTop (mkF m 156 #[.val (.int p1)] [(.int (16 : Int32)), (.int p1)])) _
                                      refine XS.icmpYes X0.here hx rfl (pc0 := 156) (pc' := 163) rfl (hb hby dmethod_3_code_156) rfl (feq hc156_97).2 (by decide) (by decide) ?_
                                      show Steps p.tables e below (s₁.setTop (mkF m 163 #[.val (.int p1)] [])) _
                                      refine XS.iloadN X0.here hx rfl (hb hby dmethod_3_code_163) rfl ?_
                                      show Steps p.tables e below (s₁.setTop (mkF m 164 #[.val (.int p1)] [(.int p1)])) _
                                      refine XS.bipush X0.here hx rfl (hb hby dmethod_3_code_164) ?_
                                      exact kk)
                                    by_cases hc166_103 : p1 = (17 : Int32)
                                    · have k105 : Go p e below (s₁.setTop (entryFrame m #[(.int p1)] 1)) (s₁.setTop (mkF m 169 #[.val (.int p1)] [])) := fun t kk => k104 t (by
                                        show Steps p.tables e below (s₁.setTop (mkF m 166 #[.val (.int p1)] [(.int (17 : Int32)), (.int p1)])) _
                                        refine XS.icmpNo X0.here hx rfl (hb hby dmethod_3_code_166) rfl (teq hc166_103).2 ?_
                                        exact kk)
                                      obtain ⟨y_UPDATE_ISR, Sy_UPDATE_ISR, Ey_UPDATE_ISR, Py_UPDATE_ISR, Ry_UPDATE_ISR⟩ := c_UPDATE_ISR
                                      obtain ⟨T106, X106, e106, st106⟩ := getS2 X0 hx hZ hown (host := "") (Or.inl (hw _ (List.mem_of_getElem? (i := 57) rfl))) Via.refl e0 Sy_UPDATE_ISR (g := (mkF m 169 #[.val (.int p1)] [])) rfl (hb hby dmethod_3_code_169)
                                      have k106 : Go p e below (s₁.setTop (entryFrame m #[(.int p1)] 1)) (T106.setTop (mkF m 172 #[.val (.int p1)] [(.ref y_UPDATE_ISR)])) := fun t kk => k105 t (st106 t kk)
                                      have lo107 : own_lo p1 = 1 := by rw [hc166_103]; rfl
                                      have hi107 : own_hi p1 = 1 := by rw [hc166_103]; rfl
                                      obtain ⟨fs, hr, hrun, hended, hW, hsame⟩ := X106.leave (v := some (.ref y_UPDATE_ISR)) (fun h => by rw [Bd.returns] at h; cases h)
                                      refine ⟨_, _, k106 _ ?_, hrun, hended, _, _, rfl, ?_, ⟨_, rfl⟩, hW, hsame.mono (by decide) (by decide)⟩
                                      · show Steps p.tables e below (T106.setTop (mkF m 172 #[.val (.int p1)] [(.ref y_UPDATE_ISR)])) _
                                        jvm_step X106.here [X106.here.top, hx, (hb hby dmethod_3_code_172), X106.method', Bd.returns, Value.isRef, FieldType.isReference]
                                        first | (intro acts; rw [hr _ acts rfl rfl rfl]) | rw [hr _ _ rfl rfl rfl]
                                        exact Steps.refl _
                                      · show QK Z p1 h0 n0 _ T106.heap _
                                        rw [e106]
                                        exact ⟨y_UPDATE_ISR, rfl, rfl, rfl, Ey_UPDATE_ISR, (by rw [lo107]; exact Py_UPDATE_ISR), (by rw [hi107]; exact Ry_UPDATE_ISR)⟩
                                    · have k109 : Go p e below (s₁.setTop (entryFrame m #[(.int p1)] 1)) (s₁.setTop (mkF m 173 #[.val (.int p1)] [])) := fun t kk => k104 t (by
                                        show Steps p.tables e below (s₁.setTop (mkF m 166 #[.val (.int p1)] [(.int (17 : Int32)), (.int p1)])) _
                                        refine XS.icmpYes X0.here hx rfl (pc0 := 166) (pc' := 173) rfl (hb hby dmethod_3_code_166) rfl (feq hc166_103).2 (by decide) (by decide) ?_
                                        exact kk)
                                      obtain ⟨y_RESERVE_PRODUCER_IDS, Sy_RESERVE_PRODUCER_IDS, Ey_RESERVE_PRODUCER_IDS, Py_RESERVE_PRODUCER_IDS, Ry_RESERVE_PRODUCER_IDS⟩ := c_RESERVE_PRODUCER_IDS
                                      obtain ⟨T110, X110, e110, st110⟩ := getS2 X0 hx hZ hown (host := "") (Or.inl (hw _ (List.mem_of_getElem? (i := 53) rfl))) Via.refl e0 Sy_RESERVE_PRODUCER_IDS (g := (mkF m 173 #[.val (.int p1)] [])) rfl (hb hby dmethod_3_code_173)
                                      have k110 : Go p e below (s₁.setTop (entryFrame m #[(.int p1)] 1)) (T110.setTop (mkF m 176 #[.val (.int p1)] [(.ref y_RESERVE_PRODUCER_IDS)])) := fun t kk => k109 t (st110 t kk)
                                      obtain ⟨lo111, hi111⟩ := own_lastk (own_k18 hk hc1_1 hc10_7 hc19_13 hc28_19 hc37_25 hc46_31 hc56_37 hc66_43 hc76_49 hc86_55 hc96_61 hc106_67 hc116_73 hc126_79 hc136_85 hc146_91 hc156_97 hc166_103)
                                      obtain ⟨fs, hr, hrun, hended, hW, hsame⟩ := X110.leave (v := some (.ref y_RESERVE_PRODUCER_IDS)) (fun h => by rw [Bd.returns] at h; cases h)
                                      refine ⟨_, _, k110 _ ?_, hrun, hended, _, _, rfl, ?_, ⟨_, rfl⟩, hW, hsame.mono (by decide) (by decide)⟩
                                      · show Steps p.tables e below (T110.setTop (mkF m 176 #[.val (.int p1)] [(.ref y_RESERVE_PRODUCER_IDS)])) _
                                        jvm_step X110.here [X110.here.top, hx, (hb hby dmethod_3_code_176), X110.method', Bd.returns, Value.isRef, FieldType.isReference]
                                        first | (intro acts; rw [hr _ acts rfl rfl rfl]) | rw [hr _ _ rfl rfl rfl]
                                        exact Steps.refl _
                                      · show QK Z p1 h0 n0 _ T110.heap _
                                        rw [e110]
                                        exact ⟨y_RESERVE_PRODUCER_IDS, rfl, rfl, rfl, Ey_RESERVE_PRODUCER_IDS, (by rw [lo111]; exact Py_RESERVE_PRODUCER_IDS), (by rw [hi111]; exact Ry_RESERVE_PRODUCER_IDS)⟩
theorem dmethod_4_code_0 : decode method_4_code 0 = .ok (.iload_n 0, 1) := by decide +kernel
theorem dmethod_4_code_1 : decode method_4_code 1 = .ok (.ifCond .ne 5, 3) := by decide +kernel
theorem dmethod_4_code_4 : decode method_4_code 4 = .ok (.iconst 3, 1) := by decide +kernel
theorem dmethod_4_code_5 : decode method_4_code 5 = .ok (.ireturn, 1) := by decide +kernel
theorem dmethod_4_code_6 : decode method_4_code 6 = .ok (.iload_n 0, 1) := by decide +kernel
theorem dmethod_4_code_7 : decode method_4_code 7 = .ok (.iconst 1, 1) := by decide +kernel
theorem dmethod_4_code_8 : decode method_4_code 8 = .ok (.if_icmp .ne 5, 3) := by decide +kernel
theorem dmethod_4_code_11 : decode method_4_code 11 = .ok (.iconst 4, 1) := by decide +kernel
theorem dmethod_4_code_12 : decode method_4_code 12 = .ok (.ireturn, 1) := by decide +kernel
theorem dmethod_4_code_13 : decode method_4_code 13 = .ok (.iload_n 0, 1) := by decide +kernel
theorem dmethod_4_code_14 : decode method_4_code 14 = .ok (.iconst 2, 1) := by decide +kernel
theorem dmethod_4_code_15 : decode method_4_code 15 = .ok (.if_icmp .ne 5, 3) := by decide +kernel
theorem dmethod_4_code_18 : decode method_4_code 18 = .ok (.iconst 1, 1) := by decide +kernel
theorem dmethod_4_code_19 : decode method_4_code 19 = .ok (.ireturn, 1) := by decide +kernel
theorem dmethod_4_code_20 : decode method_4_code 20 = .ok (.iload_n 0, 1) := by decide +kernel
theorem dmethod_4_code_21 : decode method_4_code 21 = .ok (.iconst 3, 1) := by decide +kernel
theorem dmethod_4_code_22 : decode method_4_code 22 = .ok (.if_icmp .ne 5, 3) := by decide +kernel
theorem dmethod_4_code_25 : decode method_4_code 25 = .ok (.iconst 0, 1) := by decide +kernel
theorem dmethod_4_code_26 : decode method_4_code 26 = .ok (.ireturn, 1) := by decide +kernel
theorem dmethod_4_code_27 : decode method_4_code 27 = .ok (.iload_n 0, 1) := by decide +kernel
theorem dmethod_4_code_28 : decode method_4_code 28 = .ok (.iconst 4, 1) := by decide +kernel
theorem dmethod_4_code_29 : decode method_4_code 29 = .ok (.if_icmp .ne 5, 3) := by decide +kernel
theorem dmethod_4_code_32 : decode method_4_code 32 = .ok (.iconst 2, 1) := by decide +kernel
theorem dmethod_4_code_33 : decode method_4_code 33 = .ok (.ireturn, 1) := by decide +kernel
theorem dmethod_4_code_34 : decode method_4_code 34 = .ok (.iload_n 0, 1) := by decide +kernel
theorem dmethod_4_code_35 : decode method_4_code 35 = .ok (.iconst 5, 1) := by decide +kernel
theorem dmethod_4_code_36 : decode method_4_code 36 = .ok (.if_icmp .ne 5, 3) := by decide +kernel
theorem dmethod_4_code_39 : decode method_4_code 39 = .ok (.iconst 1, 1) := by decide +kernel
theorem dmethod_4_code_40 : decode method_4_code 40 = .ok (.ireturn, 1) := by decide +kernel
theorem dmethod_4_code_41 : decode method_4_code 41 = .ok (.iload_n 0, 1) := by decide +kernel
theorem dmethod_4_code_42 : decode method_4_code 42 = .ok (.bipush 14, 2) := by decide +kernel
theorem dmethod_4_code_44 : decode method_4_code 44 = .ok (.if_icmp .ne 5, 3) := by decide +kernel
theorem dmethod_4_code_47 : decode method_4_code 47 = .ok (.iconst 3, 1) := by decide +kernel
theorem dmethod_4_code_48 : decode method_4_code 48 = .ok (.ireturn, 1) := by decide +kernel
theorem dmethod_4_code_49 : decode method_4_code 49 = .ok (.iload_n 0, 1) := by decide +kernel
theorem dmethod_4_code_50 : decode method_4_code 50 = .ok (.bipush 16, 2) := by decide +kernel
theorem dmethod_4_code_52 : decode method_4_code 52 = .ok (.if_icmp .lt 5, 3) := by decide +kernel
theorem dmethod_4_code_57 : decode method_4_code 57 = .ok (.iconst 0, 1) := by decide +kernel
theorem dmethod_4_code_58 : decode method_4_code 58 = .ok (.ireturn, 1) := by decide +kernel
theorem dmethod_4_code_55 : decode method_4_code 55 = .ok (.iconst 1, 1) := by decide +kernel
theorem dmethod_4_code_56 : decode method_4_code 56 = .ok (.ireturn, 1) := by decide +kernel
theorem ef_rmL (m : MethodId) (x0 : Int32) : entryFrame m #[(.int x0)] 1 = mkF m 0 #[.val (.int x0)] [] := by first | (simp [entryFrame, mkF, argsToLocals, Value.category]; done) | rfl
def QrmL (Z : State) (p1 : Int32) (h0 : Heap) (n0 : Nat) (v : Option Value) (h : Heap) (L : List Loc) : Prop := v = some (.int (own_lo p1)) ∧ L = [] ∧ h = h0
set_option maxRecDepth 65536 in
set_option maxHeartbeats 40000000 in
theorem rmL (l : Launch) (Z : State) (a0 : Array Value) (hw : ∀ d ∈ tables_1, d.before a0 Z = true) (ws : List Jvm.Cond) (p1 : Int32) (h0 : Heap) (n0 : Nat) (Z0 : n0 ≤ h0.size) :
    MetFree l (⟨"com/example/wasserstand/wasserstand/protocol/ApiKeySupportsPinLaw", "lo", "(I)I"⟩ : MethodName) (head1 (Jvm.Cond.code (⟨"com/example/wasserstand/wasserstand/protocol/ApiKeySupportsPinLaw", "lo", "(I)I"⟩ : MethodName) method_4_code 1 (some .int) :: ws) ({ frames := 0, cells := 0, slots := 0, locals := 0 } : Room)) (fun a U => a = #[(.int p1)] ∧ Z.Warmed39 U.vm ∧ U.heap = h0) (fun _ _ _ _ _ => True) (fun _ U o U' => ∃ v L, o = .returned v ∧ QrmL Z p1 h0 n0 v U'.heap L ∧ FrameEnd U o U' L ({ frames := 0, cells := 0, slots := 0, locals := 0 } : Room).cells ({ frames := 0, cells := 0, slots := 0, locals := 0 } : Room).slots) := by
  refine MetFree.of_bodySF (plainFor_of_name pn_0) hisR ?_
  intro p e s m args below meth c s₁ Bd hml0 hP hK
  obtain ⟨rfl, hZ, hh⟩ := hP
  have hx := Bd.exec
  have hby := Bd.bytes
  have hml : c.maxLocals = 1 := hml0
  have hown : s.vm.findClass "com/example/wasserstand/wasserstand/protocol/ApiKeySupportsPinLaw" = some m.cls := findClass_of_methodNamed Bd.named
  have hnm := (name_of_methodNamed Bd.named Bd.method).1
  have X0 : Stand p l e ({ frames := 0, cells := 0, slots := 0, locals := 0 } : Room) s m #[(.int p1)] below meth c s₁ [] 0 0 := Stand.of_body Bd
  have e0 : s₁.heap = h0 := by rw [← hh, Bd.state]; rfl
  have N0 := Fr.nil n0
  have k0 : Go p e below (s₁.setTop (entryFrame m #[(.int p1)] 1)) (s₁.setTop (mkF m 0 #[.val (.int p1)] [])) := fun t k => castTop (ef_rmL m p1) k
  have k2 : Go p e below (s₁.setTop (entryFrame m #[(.int p1)] 1)) (s₁.setTop (mkF m 1 #[.val (.int p1)] [(.int p1)])) := fun t kk => k0 t (by
    show Steps p.tables e below (s₁.setTop (mkF m 0 #[.val (.int p1)] [])) _
    refine XS.iloadN X0.here hx rfl (hb hby dmethod_4_code_0) rfl ?_
    exact kk)
  by_cases hc1_1 : p1 = (0 : Int32)
  · have k3 : Go p e below (s₁.setTop (entryFrame m #[(.int p1)] 1)) (s₁.setTop (mkF m 5 #[.val (.int p1)] [(.int (3 : Int32))])) := fun t kk => k2 t (by
      show Steps p.tables e below (s₁.setTop (mkF m 1 #[.val (.int p1)] [(.int p1)])) _
      refine XS.ifNo X0.here hx rfl (hb hby dmethod_4_code_1) rfl ((if0 _ _).trans (teq hc1_1).2) ?_
      show Steps p.tables e below (s₁.setTop (mkF m 4 #[.val (.int p1)] [])) _
      refine XS.iconst X0.here hx rfl (hb hby dmethod_4_code_4) ?_
      exact kk)
    obtain ⟨fs, hr, hrun, hended, hW, hsame⟩ := X0.leave (v := some (.int (3 : Int32))) (fun h => by rw [Bd.returns] at h; cases h)
    refine ⟨_, _, k3 _ ?_, hrun, hended, _, _, rfl, ?_, ⟨_, rfl⟩, hW, hsame.mono (by decide) (by decide)⟩
    · show Steps p.tables e below (s₁.setTop (mkF m 5 #[.val (.int p1)] [(.int (3 : Int32))])) _
      exact retI X0 hx Bd.returns (hb hby dmethod_4_code_5) hr
    · show QrmL Z p1 h0 n0 _ s₁.heap _
      rw [e0]
      exact ⟨by unfold own_lo; rw [if_pos hc1_1], rfl, rfl⟩
  · have k6 : Go p e below (s₁.setTop (entryFrame m #[(.int p1)] 1)) (s₁.setTop (mkF m 8 #[.val (.int p1)] [(.int (1 : Int32)), (.int p1)])) := fun t kk => k2 t (by
      show Steps p.tables e below (s₁.setTop (mkF m 1 #[.val (.int p1)] [(.int p1)])) _
      refine XS.ifYes X0.here hx rfl (pc0 := 1) (pc' := 6) rfl (hb hby dmethod_4_code_1) rfl ((if0 _ _).trans (feq hc1_1).2) (by decide) (by decide) ?_
      show Steps p.tables e below (s₁.setTop (mkF m 6 #[.val (.int p1)] [])) _
      refine XS.iloadN X0.here hx rfl (hb hby dmethod_4_code_6) rfl ?_
      show Steps p.tables e below (s₁.setTop (mkF m 7 #[.val (.int p1)] [(.int p1)])) _
      refine XS.iconst X0.here hx rfl (hb hby dmethod_4_code_7) ?_
      exact kk)
    by_cases hc8_5 : p1 = (1 : Int32)
    · have k7 : Go p e below (s₁.setTop (entryFrame m #[(.int p1)] 1)) (s₁.setTop (mkF m 12 #[.val (.int p1)] [(.int (4 : Int32))])) := fun t kk => k6 t (by
        show Steps p.tables e below (s₁.setTop (mkF m 8 #[.val (.int p1)] [(.int (1 : Int32)), (.int p1)])) _
        refine XS.icmpNo X0.here hx rfl (hb hby dmethod_4_code_8) rfl (teq hc8_5).2 ?_
        show Steps p.tables e below (s₁.setTop (mkF m 11 #[.val (.int p1)] [])) _
        refine XS.iconst X0.here hx rfl (hb hby dmethod_4_code_11) ?_
        exact kk)
      obtain ⟨fs, hr, hrun, hended, hW, hsame⟩ := X0.leave (v := some (.int (4 : Int32))) (fun h => by rw [Bd.returns] at h; cases h)
      refine ⟨_, _, k7 _ ?_, hrun, hended, _, _, rfl, ?_, ⟨_, rfl⟩, hW, hsame.mono (by decide) (by decide)⟩
      · show Steps p.tables e below (s₁.setTop (mkF m 12 #[.val (.int p1)] [(.int (4 : Int32))])) _
        exact retI X0 hx Bd.returns (hb hby dmethod_4_code_12) hr
      · show QrmL Z p1 h0 n0 _ s₁.heap _
        rw [e0]
        exact ⟨by unfold own_lo; rw [if_neg hc1_1]; rw [if_pos hc8_5], rfl, rfl⟩
    · have k10 : Go p e below (s₁.setTop (entryFrame m #[(.int p1)] 1)) (s₁.setTop (mkF m 15 #[.val (.int p1)] [(.int (2 : Int32)), (.int p1)])) := fun t kk => k6 t (by
        show Steps p.tables e below (s₁.setTop (mkF m 8 #[.val (.int p1)] [(.int (1 : Int32)), (.int p1)])) _
        refine XS.icmpYes X0.here hx rfl (pc0 := 8) (pc' := 13) rfl (hb hby dmethod_4_code_8) rfl (feq hc8_5).2 (by decide) (by decide) ?_
        show Steps p.tables e below (s₁.setTop (mkF m 13 #[.val (.int p1)] [])) _
        refine XS.iloadN X0.here hx rfl (hb hby dmethod_4_code_13) rfl ?_
        show Steps p.tables e below (s₁.setTop (mkF m 14 #[.val (.int p1)] [(.int p1)])) _
        refine XS.iconst X0.here hx rfl (hb hby dmethod_4_code_14) ?_
        exact kk)
      by_cases hc15_9 : p1 = (2 : Int32)
      · have k11 : Go p e below (s₁.setTop (entryFrame m #[(.int p1)] 1)) (s₁.setTop (mkF m 19 #[.val (.int p1)] [(.int (1 : Int32))])) := fun t kk => k10 t (by
          show Steps p.tables e below (s₁.setTop (mkF m 15 #[.val (.int p1)] [(.int (2 : Int32)), (.int p1)])) _
          refine XS.icmpNo X0.here hx rfl (hb hby dmethod_4_code_15) rfl (teq hc15_9).2 ?_
          show Steps p.tables e below (s₁.setTop (mkF m 18 #[.val (.int p1)] [])) _
          refine XS.iconst X0.here hx rfl (hb hby dmethod_4_code_18) ?_
          exact kk)
        obtain ⟨fs, hr, hrun, hended, hW, hsame⟩ := X0.leave (v := some (.int (1 : Int32))) (fun h => by rw [Bd.returns] at h; cases h)
        refine ⟨_, _, k11 _ ?_, hrun, hended, _, _, rfl, ?_, ⟨_, rfl⟩, hW, hsame.mono (by decide) (by decide)⟩
        · show Steps p.tables e below (s₁.setTop (mkF m 19 #[.val (.int p1)] [(.int (1 : Int32))])) _
          exact retI X0 hx Bd.returns (hb hby dmethod_4_code_19) hr
        · show QrmL Z p1 h0 n0 _ s₁.heap _
          rw [e0]
          exact ⟨by unfold own_lo; rw [if_neg hc1_1]; rw [if_neg hc8_5]; rw [if_pos hc15_9], rfl, rfl⟩
      · have k14 : Go p e below (s₁.setTop (entryFrame m #[(.int p1)] 1)) (s₁.setTop (mkF m 22 #[.val (.int p1)] [(.int (3 : Int32)), (.int p1)])) := fun t kk => k10 t (by
          show Steps p.tables e below (s₁.setTop (mkF m 15 #[.val (.int p1)] [(.int (2 : Int32)), (.int p1)])) _
          refine XS.icmpYes X0.here hx rfl (pc0 := 15) (pc' := 20) rfl (hb hby dmethod_4_code_15) rfl (feq hc15_9).2 (by decide) (by decide) ?_
          show Steps p.tables e below (s₁.setTop (mkF m 20 #[.val (.int p1)] [])) _
          refine XS.iloadN X0.here hx rfl (hb hby dmethod_4_code_20) rfl ?_
          show Steps p.tables e below (s₁.setTop (mkF m 21 #[.val (.int p1)] [(.int p1)])) _
          refine XS.iconst X0.here hx rfl (hb hby dmethod_4_code_21) ?_
          exact kk)
        by_cases hc22_13 : p1 = (3 : Int32)
        · have k15 : Go p e below (s₁.setTop (entryFrame m #[(.int p1)] 1)) (s₁.setTop (mkF m 26 #[.val (.int p1)] [(.int (0 : Int32))])) := fun t kk => k14 t (by
            show Steps p.tables e below (s₁.setTop (mkF m 22 #[.val (.int p1)] [(.int (3 : Int32)), (.int p1)])) _
            refine XS.icmpNo X0.here hx rfl (hb hby dmethod_4_code_22) rfl (teq hc22_13).2 ?_
            show Steps p.tables e below (s₁.setTop (mkF m 25 #[.val (.int p1)] [])) _
            refine XS.iconst X0.here hx rfl (hb hby dmethod_4_code_25) ?_
            exact kk)
          obtain ⟨fs, hr, hrun, hended, hW, hsame⟩ := X0.leave (v := some (.int (0 : Int32))) (fun h => by rw [Bd.returns] at h; cases h)
          refine ⟨_, _, k15 _ ?_, hrun, hended, _, _, rfl, ?_, ⟨_, rfl⟩, hW, hsame.mono (by decide) (by decide)⟩
          · show Steps p.tables e below (s₁.setTop (mkF m 26 #[.val (.int p1)] [(.int (0 : Int32))])) _
            exact retI X0 hx Bd.returns (hb hby dmethod_4_code_26) hr
          · show QrmL Z p1 h0 n0 _ s₁.heap _
            rw [e0]
            exact ⟨by unfold own_lo; rw [if_neg hc1_1]; rw [if_neg hc8_5]; rw [if_neg hc15_9]; rw [if_pos hc22_13], rfl, rfl⟩
        · have k18 : Go p e below (s₁.setTop (entryFrame m #[(.int p1)] 1)) (s₁.setTop (mkF m 29 #[.val (.int p1)] [(.int (4 : Int32)), (.int p1)])) := fun t kk => k14 t (by
            show Steps p.tables e below (s₁.setTop (mkF m 22 #[.val (.int p1)] [(.int (3 : Int32)), (.int p1)])) _
            refine XS.icmpYes X0.here hx rfl (pc0 := 22) (pc' := 27) rfl (hb hby dmethod_4_code_22) rfl (feq hc22_13).2 (by decide) (by decide) ?_
            show Steps p.tables e below (s₁.setTop (mkF m 27 #[.val (.int p1)] [])) _
            refine XS.iloadN X0.here hx rfl (hb hby dmethod_4_code_27) rfl ?_
            show Steps p.tables e below (s₁.setTop (mkF m 28 #[.val (.int p1)] [(.int p1)])) _
            refine XS.iconst X0.here hx rfl (hb hby dmethod_4_code_28) ?_
            exact kk)
          by_cases hc29_17 : p1 = (4 : Int32)
          · have k19 : Go p e below (s₁.setTop (entryFrame m #[(.int p1)] 1)) (s₁.setTop (mkF m 33 #[.val (.int p1)] [(.int (2 : Int32))])) := fun t kk => k18 t (by
              show Steps p.tables e below (s₁.setTop (mkF m 29 #[.val (.int p1)] [(.int (4 : Int32)), (.int p1)])) _
              refine XS.icmpNo X0.here hx rfl (hb hby dmethod_4_code_29) rfl (teq hc29_17).2 ?_
              show Steps p.tables e below (s₁.setTop (mkF m 32 #[.val (.int p1)] [])) _
              refine XS.iconst X0.here hx rfl (hb hby dmethod_4_code_32) ?_
              exact kk)
            obtain ⟨fs, hr, hrun, hended, hW, hsame⟩ := X0.leave (v := some (.int (2 : Int32))) (fun h => by rw [Bd.returns] at h; cases h)
            refine ⟨_, _, k19 _ ?_, hrun, hended, _, _, rfl, ?_, ⟨_, rfl⟩, hW, hsame.mono (by decide) (by decide)⟩
            · show Steps p.tables e below (s₁.setTop (mkF m 33 #[.val (.int p1)] [(.int (2 : Int32))])) _
              exact retI X0 hx Bd.returns (hb hby dmethod_4_code_33) hr
            · show QrmL Z p1 h0 n0 _ s₁.heap _
              rw [e0]
              exact ⟨by unfold own_lo; rw [if_neg hc1_1]; rw [if_neg hc8_5]; rw [if_neg hc15_9]; rw [if_neg hc22_13]; rw [if_pos hc29_17], rfl, rfl⟩
          · have k22 : Go p e below (s₁.setTop (entryFrame m #[(.int p1)] 1)) (s₁.setTop (mkF m 36 #[.val (.int p1)] [(.int (5 : Int32)), (.int p1)])) := fun t kk => k18 t (by
              show Steps p.tables e below (s₁.setTop (mkF m 29 #[.val (.int p1)] [(.int (4 : Int32)), (.int p1)])) _
              refine XS.icmpYes X0.here hx rfl (pc0 := 29) (pc' := 34) rfl (hb hby dmethod_4_code_29) rfl (feq hc29_17).2 (by decide) (by decide) ?_
              show Steps p.tables e below (s₁.setTop (mkF m 34 #[.val (.int p1)] [])) _
              refine XS.iloadN X0.here hx rfl (hb hby dmethod_4_code_34) rfl ?_
              show Steps p.tables e below (s₁.setTop (mkF m 35 #[.val (.int p1)] [(.int p1)])) _
              refine XS.iconst X0.here hx rfl (hb hby dmethod_4_code_35) ?_
              exact kk)
            by_cases hc36_21 : p1 = (5 : Int32)
            · have k23 : Go p e below (s₁.setTop (entryFrame m #[(.int p1)] 1)) (s₁.setTop (mkF m 40 #[.val (.int p1)] [(.int (1 : Int32))])) := fun t kk => k22 t (by
                show Steps p.tables e below (s₁.setTop (mkF m 36 #[.val (.int p1)] [(.int (5 : Int32)), (.int p1)])) _
                refine XS.icmpNo X0.here hx rfl (hb hby dmethod_4_code_36) rfl (teq hc36_21).2 ?_
                show Steps p.tables e below (s₁.setTop (mkF m 39 #[.val (.int p1)] [])) _
                refine XS.iconst X0.here hx rfl (hb hby dmethod_4_code_39) ?_
                exact kk)
              obtain ⟨fs, hr, hrun, hended, hW, hsame⟩ := X0.leave (v := some (.int (1 : Int32))) (fun h => by rw [Bd.returns] at h; cases h)
              refine ⟨_, _, k23 _ ?_, hrun, hended, _, _, rfl, ?_, ⟨_, rfl⟩, hW, hsame.mono (by decide) (by decide)⟩
              · show Steps p.tables e below (s₁.setTop (mkF m 40 #[.val (.int p1)] [(.int (1 : Int32))])) _
                exact retI X0 hx Bd.returns (hb hby dmethod_4_code_40) hr
              · show QrmL Z p1 h0 n0 _ s₁.heap _
                rw [e0]
                exact ⟨by unfold own_lo; rw [if_neg hc1_1]; rw [if_neg hc8_5]; rw [if_neg hc15_9]; rw [if_neg hc22_13]; rw [if_neg hc29_17]; rw [if_pos hc36_21], rfl, rfl⟩
            · have k26 : Go p e below (s₁.setTop (entryFrame m #[(.int p1)] 1)) (s₁.setTop (mkF m 44 #[.val (.int p1)] [(.int (14 : Int32)), (.int p1)])) := fun t kk => k22 t (by
                show Steps p.tables e below (s₁.setTop (mkF m 36 #[.val (.int p1)] [(.int (5 : Int32)), (.int p1)])) _
                refine XS.icmpYes X0.here hx rfl (pc0 := 36) (pc' := 41) rfl (hb hby dmethod_4_code_36) rfl (feq hc36_21).2 (by decide) (by decide) ?_
                show Steps p.tables e below (s₁.setTop (mkF m 41 #[.val (.int p1)] [])) _
                refine XS.iloadN X0.here hx rfl (hb hby dmethod_4_code_41) rfl ?_
                show Steps p.tables e below (s₁.setTop (mkF m 42 #[.val (.int p1)] [(.int p1)])) _
                refine XS.bipush X0.here hx rfl (hb hby dmethod_4_code_42) ?_
                exact kk)
              by_cases hc44_25 : p1 = (14 : Int32)
              · have k27 : Go p e below (s₁.setTop (entryFrame m #[(.int p1)] 1)) (s₁.setTop (mkF m 48 #[.val (.int p1)] [(.int (3 : Int32))])) := fun t kk => k26 t (by
                  show Steps p.tables e below (s₁.setTop (mkF m 44 #[.val (.int p1)] [(.int (14 : Int32)), (.int p1)])) _
                  refine XS.icmpNo X0.here hx rfl (hb hby dmethod_4_code_44) rfl (teq hc44_25).2 ?_
                  show Steps p.tables e below (s₁.setTop (mkF m 47 #[.val (.int p1)] [])) _
                  refine XS.iconst X0.here hx rfl (hb hby dmethod_4_code_47) ?_
                  exact kk)
                obtain ⟨fs, hr, hrun, hended, hW, hsame⟩ := X0.leave (v := some (.int (3 : Int32))) (fun h => by rw [Bd.returns] at h; cases h)
                refine ⟨_, _, k27 _ ?_, hrun, hended, _, _, rfl, ?_, ⟨_, rfl⟩, hW, hsame.mono (by decide) (by decide)⟩
                · show Steps p.tables e below (s₁.setTop (mkF m 48 #[.val (.int p1)] [(.int (3 : Int32))])) _
                  exact retI X0 hx Bd.returns (hb hby dmethod_4_code_48) hr
                · show QrmL Z p1 h0 n0 _ s₁.heap _
                  rw [e0]
                  exact ⟨by unfold own_lo; rw [if_neg hc1_1]; rw [if_neg hc8_5]; rw [if_neg hc15_9]; rw [if_neg hc22_13]; rw [if_neg hc29_17]; rw [if_neg hc36_21]; rw [if_pos hc44_25], rfl, rfl⟩
              · have k30 : Go p e below (s₁.setTop (entryFrame m #[(.int p1)] 1)) (s₁.setTop (mkF m 52 #[.val (.int p1)] [(.int (16 : Int32)), (.int p1)])) := fun t kk => k26 t (by
                  show Steps p.tables e below (s₁.setTop (mkF m 44 #[.val (.int p1)] [(.int (14 : Int32)), (.int p1)])) _
                  refine XS.icmpYes X0.here hx rfl (pc0 := 44) (pc' := 49) rfl (hb hby dmethod_4_code_44) rfl (feq hc44_25).2 (by decide) (by decide) ?_
                  show Steps p.tables e below (s₁.setTop (mkF m 49 #[.val (.int p1)] [])) _
                  refine XS.iloadN X0.here hx rfl (hb hby dmethod_4_code_49) rfl ?_
                  show Steps p.tables e below (s₁.setTop (mkF m 50 #[.val (.int p1)] [(.int p1)])) _
                  refine XS.bipush X0.here hx rfl (hb hby dmethod_4_code_50) ?_
                  exact kk)
                by_cases hc52_29 : p1 < (16 : Int32)
                · have k31 : Go p e below (s₁.setTop (entryFrame m #[(.int p1)] 1)) (s₁.setTop (mkF m 58 #[.val (.int p1)] [(.int (0 : Int32))])) := fun t kk => k30 t (by
                    show Steps p.tables e below (s₁.setTop (mkF m 52 #[.val (.int p1)] [(.int (16 : Int32)), (.int p1)])) _
                    refine XS.icmpYes X0.here hx rfl (pc0 := 52) (pc' := 57) rfl (hb hby dmethod_4_code_52) rfl (tlt hc52_29).1 (by decide) (by decide) ?_
                    show Steps p.tables e below (s₁.setTop (mkF m 57 #[.val (.int p1)] [])) _
                    refine XS.iconst X0.here hx rfl (hb hby dmethod_4_code_57) ?_
                    exact kk)
                  obtain ⟨fs, hr, hrun, hended, hW, hsame⟩ := X0.leave (v := some (.int (0 : Int32))) (fun h => by rw [Bd.returns] at h; cases h)
                  refine ⟨_, _, k31 _ ?_, hrun, hended, _, _, rfl, ?_, ⟨_, rfl⟩, hW, hsame.mono (by decide) (by decide)⟩
                  · show Steps p.tables e below (s₁.setTop (mkF m 58 #[.val (.int p1)] [(.int (0 : Int32))])) _
                    exact retI X0 hx Bd.returns (hb hby dmethod_4_code_58) hr
                  · show QrmL Z p1 h0 n0 _ s₁.heap _
                    rw [e0]
                    exact ⟨by unfold own_lo; rw [if_neg hc1_1]; rw [if_neg hc8_5]; rw [if_neg hc15_9]; rw [if_neg hc22_13]; rw [if_neg hc29_17]; rw [if_neg hc36_21]; rw [if_neg hc44_25]; rw [if_pos hc52_29], rfl, rfl⟩
                · have k33 : Go p e below (s₁.setTop (entryFrame m #[(.int p1)] 1)) (s₁.setTop (mkF m 56 #[.val (.int p1)] [(.int (1 : Int32))])) := fun t kk => k30 t (by
                    show Steps p.tables e below (s₁.setTop (mkF m 52 #[.val (.int p1)] [(.int (16 : Int32)), (.int p1)])) _
                    refine XS.icmpNo X0.here hx rfl (hb hby dmethod_4_code_52) rfl (flt hc52_29).1 ?_
                    show Steps p.tables e below (s₁.setTop (mkF m 55 #[.val (.int p1)] [])) _
                    refine XS.iconst X0.here hx rfl (hb hby dmethod_4_code_55) ?_
                    exact kk)
                  obtain ⟨fs, hr, hrun, hended, hW, hsame⟩ := X0.leave (v := some (.int (1 : Int32))) (fun h => by rw [Bd.returns] at h; cases h)
                  refine ⟨_, _, k33 _ ?_, hrun, hended, _, _, rfl, ?_, ⟨_, rfl⟩, hW, hsame.mono (by decide) (by decide)⟩
                  · show Steps p.tables e below (s₁.setTop (mkF m 56 #[.val (.int p1)] [(.int (1 : Int32))])) _
                    exact retI X0 hx Bd.returns (hb hby dmethod_4_code_56) hr
                  · show QrmL Z p1 h0 n0 _ s₁.heap _
                    rw [e0]
                    exact ⟨by unfold own_lo; rw [if_neg hc1_1]; rw [if_neg hc8_5]; rw [if_neg hc15_9]; rw [if_neg hc22_13]; rw [if_neg hc29_17]; rw [if_neg hc36_21]; rw [if_neg hc44_25]; rw [if_neg hc52_29], rfl, rfl⟩
theorem dmethod_5_code_0 : decode method_5_code 0 = .ok (.iload_n 0, 1) := by decide +kernel
theorem dmethod_5_code_1 : decode method_5_code 1 = .ok (.ifCond .ne 6, 3) := by decide +kernel
theorem dmethod_5_code_4 : decode method_5_code 4 = .ok (.bipush 7, 2) := by decide +kernel
theorem dmethod_5_code_6 : decode method_5_code 6 = .ok (.ireturn, 1) := by decide +kernel
theorem dmethod_5_code_7 : decode method_5_code 7 = .ok (.iload_n 0, 1) := by decide +kernel
theorem dmethod_5_code_8 : decode method_5_code 8 = .ok (.iconst 1, 1) := by decide +kernel
theorem dmethod_5_code_9 : decode method_5_code 9 = .ok (.if_icmp .ne 6, 3) := by decide +kernel
theorem dmethod_5_code_12 : decode method_5_code 12 = .ok (.bipush 11, 2) := by decide +kernel
theorem dmethod_5_code_14 : decode method_5_code 14 = .ok (.ireturn, 1) := by decide +kernel
theorem dmethod_5_code_15 : decode method_5_code 15 = .ok (.iload_n 0, 1) := by decide +kernel
theorem dmethod_5_code_16 : decode method_5_code 16 = .ok (.iconst 2, 1) := by decide +kernel
theorem dmethod_5_code_17 : decode method_5_code 17 = .ok (.if_icmp .ne 5, 3) := by decide +kernel
theorem dmethod_5_code_20 : decode method_5_code 20 = .ok (.iconst 3, 1) := by decide +kernel
theorem dmethod_5_code_21 : decode method_5_code 21 = .ok (.ireturn, 1) := by decide +kernel
theorem dmethod_5_code_22 : decode method_5_code 22 = .ok (.iload_n 0, 1) := by decide +kernel
theorem dmethod_5_code_23 : decode method_5_code 23 = .ok (.iconst 3, 1) := by decide +kernel
theorem dmethod_5_code_24 : decode method_5_code 24 = .ok (.if_icmp .ne 5, 3) := by decide +kernel
theorem dmethod_5_code_27 : decode method_5_code 27 = .ok (.iconst 5, 1) := by decide +kernel
theorem dmethod_5_code_28 : decode method_5_code 28 = .ok (.ireturn, 1) := by decide +kernel
theorem dmethod_5_code_29 : decode method_5_code 29 = .ok (.iload_n 0, 1) := by decide +kernel
theorem dmethod_5_code_30 : decode method_5_code 30 = .ok (.iconst 4, 1) := by decide +kernel
theorem dmethod_5_code_31 : decode method_5_code 31 = .ok (.if_icmp .ne 5, 3) := by decide +kernel
theorem dmethod_5_code_34 : decode method_5_code 34 = .ok (.iconst 3, 1) := by decide +kernel
theorem dmethod_5_code_35 : decode method_5_code 35 = .ok (.ireturn, 1) := by decide +kernel
theorem dmethod_5_code_36 : decode method_5_code 36 = .ok (.iload_n 0, 1) := by decide +kernel
theorem dmethod_5_code_37 : decode method_5_code 37 = .ok (.iconst 5, 1) := by decide +kernel
theorem dmethod_5_code_38 : decode method_5_code 38 = .ok (.if_icmp .ne 5, 3) := by decide +kernel
theorem dmethod_5_code_41 : decode method_5_code 41 = .ok (.iconst 3, 1) := by decide +kernel
theorem dmethod_5_code_42 : decode method_5_code 42 = .ok (.ireturn, 1) := by decide +kernel
theorem dmethod_5_code_43 : decode method_5_code 43 = .ok (.iload_n 0, 1) := by decide +kernel
theorem dmethod_5_code_44 : decode method_5_code 44 = .ok (.bipush 7, 2) := by decide +kernel
theorem dmethod_5_code_46 : decode method_5_code 46 = .ok (.if_icmp .ne 5, 3) := by decide +kernel
theorem dmethod_5_code_49 : decode method_5_code 49 = .ok (.iconst 2, 1) := by decide +kernel
theorem dmethod_5_code_50 : decode method_5_code 50 = .ok (.ireturn, 1) := by decide +kernel
theorem dmethod_5_code_51 : decode method_5_code 51 = .ok (.iload_n 0, 1) := by decide +kernel
theorem dmethod_5_code_52 : decode method_5_code 52 = .ok (.bipush 11, 2) := by decide +kernel
theorem dmethod_5_code_54 : decode method_5_code 54 = .ok (.if_icmp .ne 5, 3) := by decide +kernel
theorem dmethod_5_code_57 : decode method_5_code 57 = .ok (.iconst 2, 1) := by decide +kernel
theorem dmethod_5_code_58 : decode method_5_code 58 = .ok (.ireturn, 1) := by decide +kernel
theorem dmethod_5_code_59 : decode method_5_code 59 = .ok (.iload_n 0, 1) := by decide +kernel
theorem dmethod_5_code_60 : decode method_5_code 60 = .ok (.bipush 12, 2) := by decide +kernel
theorem dmethod_5_code_62 : decode method_5_code 62 = .ok (.if_icmp .ne 5, 3) := by decide +kernel
theorem dmethod_5_code_65 : decode method_5_code 65 = .ok (.iconst 4, 1) := by decide +kernel
theorem dmethod_5_code_66 : decode method_5_code 66 = .ok (.ireturn, 1) := by decide +kernel
theorem dmethod_5_code_67 : decode method_5_code 67 = .ok (.iload_n 0, 1) := by decide +kernel
theorem dmethod_5_code_68 : decode method_5_code 68 = .ok (.bipush 14, 2) := by decide +kernel
theorem dmethod_5_code_70 : decode method_5_code 70 = .ok (.if_icmp .ne 5, 3) := by decide +kernel
theorem dmethod_5_code_73 : decode method_5_code 73 = .ok (.iconst 3, 1) := by decide +kernel
theorem dmethod_5_code_74 : decode method_5_code 74 = .ok (.ireturn, 1) := by decide +kernel
theorem dmethod_5_code_75 : decode method_5_code 75 = .ok (.iconst 1, 1) := by decide +kernel
theorem dmethod_5_code_76 : decode method_5_code 76 = .ok (.ireturn, 1) := by decide +kernel
theorem ef_rmH (m : MethodId) (x0 : Int32) : entryFrame m #[(.int x0)] 1 = mkF m 0 #[.val (.int x0)] [] := by first | (simp [entryFrame, mkF, argsToLocals, Value.category]; done) | rfl
def QrmH (Z : State) (p1 : Int32) (h0 : Heap) (n0 : Nat) (v : Option Value) (h : Heap) (L : List Loc) : Prop := v = some (.int (own_hi p1)) ∧ L = [] ∧ h = h0
set_option maxRecDepth 65536 in
set_option maxHeartbeats 40000000 in
theorem rmH (l : Launch) (Z : State) (a0 : Array Value) (hw : ∀ d ∈ tables_1, d.before a0 Z = true) (ws : List Jvm.Cond) (p1 : Int32) (h0 : Heap) (n0 : Nat) (Z0 : n0 ≤ h0.size) :
    MetFree l (⟨"com/example/wasserstand/wasserstand/protocol/ApiKeySupportsPinLaw", "hi", "(I)I"⟩ : MethodName) (head1 (Jvm.Cond.code (⟨"com/example/wasserstand/wasserstand/protocol/ApiKeySupportsPinLaw", "hi", "(I)I"⟩ : MethodName) method_5_code 1 (some .int) :: ws) ({ frames := 0, cells := 0, slots := 0, locals := 0 } : Room)) (fun a U => a = #[(.int p1)] ∧ Z.Warmed39 U.vm ∧ U.heap = h0) (fun _ _ _ _ _ => True) (fun _ U o U' => ∃ v L, o = .returned v ∧ QrmH Z p1 h0 n0 v U'.heap L ∧ FrameEnd U o U' L ({ frames := 0, cells := 0, slots := 0, locals := 0 } : Room).cells ({ frames := 0, cells := 0, slots := 0, locals := 0 } : Room).slots) := by
  refine MetFree.of_bodySF (plainFor_of_name pn_0) hisR ?_
  intro p e s m args below meth c s₁ Bd hml0 hP hK
  obtain ⟨rfl, hZ, hh⟩ := hP
  have hx := Bd.exec
  have hby := Bd.bytes
  have hml : c.maxLocals = 1 := hml0
  have hown : s.vm.findClass "com/example/wasserstand/wasserstand/protocol/ApiKeySupportsPinLaw" = some m.cls := findClass_of_methodNamed Bd.named
  have hnm := (name_of_methodNamed Bd.named Bd.method).1
  have X0 : Stand p l e ({ frames := 0, cells := 0, slots := 0, locals := 0 } : Room) s m #[(.int p1)] below meth c s₁ [] 0 0 := Stand.of_body Bd
  have e0 : s₁.heap = h0 := by rw [← hh, Bd.state]; rfl
  have N0 := Fr.nil n0
  have k0 : Go p e below (s₁.setTop (entryFrame m #[(.int p1)] 1)) (s₁.setTop (mkF m 0 #[.val (.int p1)] [])) := fun t k => castTop (ef_rmH m p1) k
  have k2 : Go p e below (s₁.setTop (entryFrame m #[(.int p1)] 1)) (s₁.setTop (mkF m 1 #[.val (.int p1)] [(.int p1)])) := fun t kk => k0 t (by
    show Steps p.tables e below (s₁.setTop (mkF m 0 #[.val (.int p1)] [])) _
    refine XS.iloadN X0.here hx rfl (hb hby dmethod_5_code_0) rfl ?_
    exact kk)
  by_cases hc1_1 : p1 = (0 : Int32)
  · have k3 : Go p e below (s₁.setTop (entryFrame m #[(.int p1)] 1)) (s₁.setTop (mkF m 6 #[.val (.int p1)] [(.int (7 : Int32))])) := fun t kk => k2 t (by
      show Steps p.tables e below (s₁.setTop (mkF m 1 #[.val (.int p1)] [(.int p1)])) _
      refine XS.ifNo X0.here hx rfl (hb hby dmethod_5_code_1) rfl ((if0 _ _).trans (teq hc1_1).2) ?_
      show Steps p.tables e below (s₁.setTop (mkF m 4 #[.val (.int p1)] [])) _
      refine XS.bipush X0.here hx rfl (hb hby dmethod_5_code_4) ?_
      exact kk)
    obtain ⟨fs, hr, hrun, hended, hW, hsame⟩ := X0.leave (v := some (.int (7 : Int32))) (fun h => by rw [Bd.returns] at h; cases h)
    refine ⟨_, _, k3 _ ?_, hrun, hended, _, _, rfl, ?_, ⟨_, rfl⟩, hW, hsame.mono (by decide) (by decide)⟩
    · show Steps p.tables e below (s₁.setTop (mkF m 6 #[.val (.int p1)] [(.int (7 : Int32))])) _
      exact retI X0 hx Bd.returns (hb hby dmethod_5_code_6) hr
    · show QrmH Z p1 h0 n0 _ s₁.heap _
      rw [e0]
      exact ⟨by unfold own_hi; rw [if_pos hc1_1], rfl, rfl⟩
  · have k6 : Go p e below (s₁.setTop (entryFrame m #[(.int p1)] 1)) (s₁.setTop (mkF m 9 #[.val (.int p1)] [(.int (1 : Int32)), (.int p1)])) := fun t kk => k2 t (by
      show Steps p.tables e below (s₁.setTop (mkF m 1 #[.val (.int p1)] [(.int p1)])) _
      refine XS.ifYes X0.here hx rfl (pc0 := 1) (pc' := 7) rfl (hb hby dmethod_5_code_1) rfl ((if0 _ _).trans (feq hc1_1).2) (by decide) (by decide) ?_
      show Steps p.tables e below (s₁.setTop (mkF m 7 #[.val (.int p1)] [])) _
      refine XS.iloadN X0.here hx rfl (hb hby dmethod_5_code_7) rfl ?_
      show Steps p.tables e below (s₁.setTop (mkF m 8 #[.val (.int p1)] [(.int p1)])) _
      refine XS.iconst X0.here hx rfl (hb hby dmethod_5_code_8) ?_
      exact kk)
    by_cases hc9_5 : p1 = (1 : Int32)
    · have k7 : Go p e below (s₁.setTop (entryFrame m #[(.int p1)] 1)) (s₁.setTop (mkF m 14 #[.val (.int p1)] [(.int (11 : Int32))])) := fun t kk => k6 t (by
        show Steps p.tables e below (s₁.setTop (mkF m 9 #[.val (.int p1)] [(.int (1 : Int32)), (.int p1)])) _
        refine XS.icmpNo X0.here hx rfl (hb hby dmethod_5_code_9) rfl (teq hc9_5).2 ?_
        show Steps p.tables e below (s₁.setTop (mkF m 12 #[.val (.int p1)] [])) _
        refine XS.bipush X0.here hx rfl (hb hby dmethod_5_code_12) ?_
        exact kk)
      obtain ⟨fs, hr, hrun, hended, hW, hsame⟩ := X0.leave (v := some (.int (11 : Int32))) (fun h => by rw [Bd.returns] at h; cases h)
      refine ⟨_, _, k7 _ ?_, hrun, hended, _, _, rfl, ?_, ⟨_, rfl⟩, hW, hsame.mono (by decide) (by decide)⟩
      · show Steps p.tables e below (s₁.setTop (mkF m 14 #[.val (.int p1)] [(.int (11 : Int32))])) _
        exact retI X0 hx Bd.returns (hb hby dmethod_5_code_14) hr
      · show QrmH Z p1 h0 n0 _ s₁.heap _
        rw [e0]
        exact ⟨by unfold own_hi; rw [if_neg hc1_1]; rw [if_pos hc9_5], rfl, rfl⟩
    · have k10 : Go p e below (s₁.setTop (entryFrame m #[(.int p1)] 1)) (s₁.setTop (mkF m 17 #[.val (.int p1)] [(.int (2 : Int32)), (.int p1)])) := fun t kk => k6 t (by
        show Steps p.tables e below (s₁.setTop (mkF m 9 #[.val (.int p1)] [(.int (1 : Int32)), (.int p1)])) _
        refine XS.icmpYes X0.here hx rfl (pc0 := 9) (pc' := 15) rfl (hb hby dmethod_5_code_9) rfl (feq hc9_5).2 (by decide) (by decide) ?_
        show Steps p.tables e below (s₁.setTop (mkF m 15 #[.val (.int p1)] [])) _
        refine XS.iloadN X0.here hx rfl (hb hby dmethod_5_code_15) rfl ?_
        show Steps p.tables e below (s₁.setTop (mkF m 16 #[.val (.int p1)] [(.int p1)])) _
        refine XS.iconst X0.here hx rfl (hb hby dmethod_5_code_16) ?_
        exact kk)
      by_cases hc17_9 : p1 = (2 : Int32)
      · have k11 : Go p e below (s₁.setTop (entryFrame m #[(.int p1)] 1)) (s₁.setTop (mkF m 21 #[.val (.int p1)] [(.int (3 : Int32))])) := fun t kk => k10 t (by
          show Steps p.tables e below (s₁.setTop (mkF m 17 #[.val (.int p1)] [(.int (2 : Int32)), (.int p1)])) _
          refine XS.icmpNo X0.here hx rfl (hb hby dmethod_5_code_17) rfl (teq hc17_9).2 ?_
          show Steps p.tables e below (s₁.setTop (mkF m 20 #[.val (.int p1)] [])) _
          refine XS.iconst X0.here hx rfl (hb hby dmethod_5_code_20) ?_
          exact kk)
        obtain ⟨fs, hr, hrun, hended, hW, hsame⟩ := X0.leave (v := some (.int (3 : Int32))) (fun h => by rw [Bd.returns] at h; cases h)
        refine ⟨_, _, k11 _ ?_, hrun, hended, _, _, rfl, ?_, ⟨_, rfl⟩, hW, hsame.mono (by decide) (by decide)⟩
        · show Steps p.tables e below (s₁.setTop (mkF m 21 #[.val (.int p1)] [(.int (3 : Int32))])) _
          exact retI X0 hx Bd.returns (hb hby dmethod_5_code_21) hr
        · show QrmH Z p1 h0 n0 _ s₁.heap _
          rw [e0]
          exact ⟨by unfold own_hi; rw [if_neg hc1_1]; rw [if_neg hc9_5]; rw [if_pos hc17_9], rfl, rfl⟩
      · have k14 : Go p e below (s₁.setTop (entryFrame m #[(.int p1)] 1)) (s₁.setTop (mkF m 24 #[.val (.int p1)] [(.int (3 : Int32)), (.int p1)])) := fun t kk => k10 t (by
          show Steps p.tables e below (s₁.setTop (mkF m 17 #[.val (.int p1)] [(.int (2 : Int32)), (.int p1)])) _
          refine XS.icmpYes X0.here hx rfl (pc0 := 17) (pc' := 22) rfl (hb hby dmethod_5_code_17) rfl (feq hc17_9).2 (by decide) (by decide) ?_
          show Steps p.tables e below (s₁.setTop (mkF m 22 #[.val (.int p1)] [])) _
          refine XS.iloadN X0.here hx rfl (hb hby dmethod_5_code_22) rfl ?_
          show Steps p.tables e below (s₁.setTop (mkF m 23 #[.val (.int p1)] [(.int p1)])) _
          refine XS.iconst X0.here hx rfl (hb hby dmethod_5_code_23) ?_
          exact kk)
        by_cases hc24_13 : p1 = (3 : Int32)
        · have k15 : Go p e below (s₁.setTop (entryFrame m #[(.int p1)] 1)) (s₁.setTop (mkF m 28 #[.val (.int p1)] [(.int (5 : Int32))])) := fun t kk => k14 t (by
            show Steps p.tables e below (s₁.setTop (mkF m 24 #[.val (.int p1)] [(.int (3 : Int32)), (.int p1)])) _
            refine XS.icmpNo X0.here hx rfl (hb hby dmethod_5_code_24) rfl (teq hc24_13).2 ?_
            show Steps p.tables e below (s₁.setTop (mkF m 27 #[.val (.int p1)] [])) _
            refine XS.iconst X0.here hx rfl (hb hby dmethod_5_code_27) ?_
            exact kk)
          obtain ⟨fs, hr, hrun, hended, hW, hsame⟩ := X0.leave (v := some (.int (5 : Int32))) (fun h => by rw [Bd.returns] at h; cases h)
          refine ⟨_, _, k15 _ ?_, hrun, hended, _, _, rfl, ?_, ⟨_, rfl⟩, hW, hsame.mono (by decide) (by decide)⟩
          · show Steps p.tables e below (s₁.setTop (mkF m 28 #[.val (.int p1)] [(.int (5 : Int32))])) _
            exact retI X0 hx Bd.returns (hb hby dmethod_5_code_28) hr
          · show QrmH Z p1 h0 n0 _ s₁.heap _
            rw [e0]
            exact ⟨by unfold own_hi; rw [if_neg hc1_1]; rw [if_neg hc9_5]; rw [if_neg hc17_9]; rw [if_pos hc24_13], rfl, rfl⟩
        · have k18 : Go p e below (s₁.setTop (entryFrame m #[(.int p1)] 1)) (s₁.setTop (mkF m 31 #[.val (.int p1)] [(.int (4 : Int32)), (.int p1)])) := fun t kk => k14 t (by
            show Steps p.tables e below (s₁.setTop (mkF m 24 #[.val (.int p1)] [(.int (3 : Int32)), (.int p1)])) _
            refine XS.icmpYes X0.here hx rfl (pc0 := 24) (pc' := 29) rfl (hb hby dmethod_5_code_24) rfl (feq hc24_13).2 (by decide) (by decide) ?_
            show Steps p.tables e below (s₁.setTop (mkF m 29 #[.val (.int p1)] [])) _
            refine XS.iloadN X0.here hx rfl (hb hby dmethod_5_code_29) rfl ?_
            show Steps p.tables e below (s₁.setTop (mkF m 30 #[.val (.int p1)] [(.int p1)])) _
            refine XS.iconst X0.here hx rfl (hb hby dmethod_5_code_30) ?_
            exact kk)
          by_cases hc31_17 : p1 = (4 : Int32)
          · have k19 : Go p e below (s₁.setTop (entryFrame m #[(.int p1)] 1)) (s₁.setTop (mkF m 35 #[.val (.int p1)] [(.int (3 : Int32))])) := fun t kk => k18 t (by
              show Steps p.tables e below (s₁.setTop (mkF m 31 #[.val (.int p1)] [(.int (4 : Int32)), (.int p1)])) _
              refine XS.icmpNo X0.here hx rfl (hb hby dmethod_5_code_31) rfl (teq hc31_17).2 ?_
              show Steps p.tables e below (s₁.setTop (mkF m 34 #[.val (.int p1)] [])) _
              refine XS.iconst X0.here hx rfl (hb hby dmethod_5_code_34) ?_
              exact kk)
            obtain ⟨fs, hr, hrun, hended, hW, hsame⟩ := X0.leave (v := some (.int (3 : Int32))) (fun h => by rw [Bd.returns] at h; cases h)
            refine ⟨_, _, k19 _ ?_, hrun, hended, _, _, rfl, ?_, ⟨_, rfl⟩, hW, hsame.mono (by decide) (by decide)⟩
            · show Steps p.tables e below (s₁.setTop (mkF m 35 #[.val (.int p1)] [(.int (3 : Int32))])) _
              exact retI X0 hx Bd.returns (hb hby dmethod_5_code_35) hr
            · show QrmH Z p1 h0 n0 _ s₁.heap _
              rw [e0]
              exact ⟨by unfold own_hi; rw [if_neg hc1_1]; rw [if_neg hc9_5]; rw [if_neg hc17_9]; rw [if_neg hc24_13]; rw [if_pos hc31_17], rfl, rfl⟩
          · have k22 : Go p e below (s₁.setTop (entryFrame m #[(.int p1)] 1)) (s₁.setTop (mkF m 38 #[.val (.int p1)] [(.int (5 : Int32)), (.int p1)])) := fun t kk => k18 t (by
              show Steps p.tables e below (s₁.setTop (mkF m 31 #[.val (.int p1)] [(.int (4 : Int32)), (.int p1)])) _
              refine XS.icmpYes X0.here hx rfl (pc0 := 31) (pc' := 36) rfl (hb hby dmethod_5_code_31) rfl (feq hc31_17).2 (by decide) (by decide) ?_
              show Steps p.tables e below (s₁.setTop (mkF m 36 #[.val (.int p1)] [])) _
              refine XS.iloadN X0.here hx rfl (hb hby dmethod_5_code_36) rfl ?_
              show Steps p.tables e below (s₁.setTop (mkF m 37 #[.val (.int p1)] [(.int p1)])) _
              refine XS.iconst X0.here hx rfl (hb hby dmethod_5_code_37) ?_
              exact kk)
            by_cases hc38_21 : p1 = (5 : Int32)
            · have k23 : Go p e below (s₁.setTop (entryFrame m #[(.int p1)] 1)) (s₁.setTop (mkF m 42 #[.val (.int p1)] [(.int (3 : Int32))])) := fun t kk => k22 t (by
                show Steps p.tables e below (s₁.setTop (mkF m 38 #[.val (.int p1)] [(.int (5 : Int32)), (.int p1)])) _
                refine XS.icmpNo X0.here hx rfl (hb hby dmethod_5_code_38) rfl (teq hc38_21).2 ?_
                show Steps p.tables e below (s₁.setTop (mkF m 41 #[.val (.int p1)] [])) _
                refine XS.iconst X0.here hx rfl (hb hby dmethod_5_code_41) ?_
                exact kk)
              obtain ⟨fs, hr, hrun, hended, hW, hsame⟩ := X0.leave (v := some (.int (3 : Int32))) (fun h => by rw [Bd.returns] at h; cases h)
              refine ⟨_, _, k23 _ ?_, hrun, hended, _, _, rfl, ?_, ⟨_, rfl⟩, hW, hsame.mono (by decide) (by decide)⟩
              · show Steps p.tables e below (s₁.setTop (mkF m 42 #[.val (.int p1)] [(.int (3 : Int32))])) _
                exact retI X0 hx Bd.returns (hb hby dmethod_5_code_42) hr
              · show QrmH Z p1 h0 n0 _ s₁.heap _
                rw [e0]
                exact ⟨by unfold own_hi; rw [if_neg hc1_1]; rw [if_neg hc9_5]; rw [if_neg hc17_9]; rw [if_neg hc24_13]; rw [if_neg hc31_17]; rw [if_pos hc38_21], rfl, rfl⟩
            · have k26 : Go p e below (s₁.setTop (entryFrame m #[(.int p1)] 1)) (s₁.setTop (mkF m 46 #[.val (.int p1)] [(.int (7 : Int32)), (.int p1)])) := fun t kk => k22 t (by
                show Steps p.tables e below (s₁.setTop (mkF m 38 #[.val (.int p1)] [(.int (5 : Int32)), (.int p1)])) _
                refine XS.icmpYes X0.here hx rfl (pc0 := 38) (pc' := 43) rfl (hb hby dmethod_5_code_38) rfl (feq hc38_21).2 (by decide) (by decide) ?_
                show Steps p.tables e below (s₁.setTop (mkF m 43 #[.val (.int p1)] [])) _
                refine XS.iloadN X0.here hx rfl (hb hby dmethod_5_code_43) rfl ?_
                show Steps p.tables e below (s₁.setTop (mkF m 44 #[.val (.int p1)] [(.int p1)])) _
                refine XS.bipush X0.here hx rfl (hb hby dmethod_5_code_44) ?_
                exact kk)
              by_cases hc46_25 : p1 = (7 : Int32)
              · have k27 : Go p e below (s₁.setTop (entryFrame m #[(.int p1)] 1)) (s₁.setTop (mkF m 50 #[.val (.int p1)] [(.int (2 : Int32))])) := fun t kk => k26 t (by
                  show Steps p.tables e below (s₁.setTop (mkF m 46 #[.val (.int p1)] [(.int (7 : Int32)), (.int p1)])) _
                  refine XS.icmpNo X0.here hx rfl (hb hby dmethod_5_code_46) rfl (teq hc46_25).2 ?_
                  show Steps p.tables e below (s₁.setTop (mkF m 49 #[.val (.int p1)] [])) _
                  refine XS.iconst X0.here hx rfl (hb hby dmethod_5_code_49) ?_
                  exact kk)
                obtain ⟨fs, hr, hrun, hended, hW, hsame⟩ := X0.leave (v := some (.int (2 : Int32))) (fun h => by rw [Bd.returns] at h; cases h)
                refine ⟨_, _, k27 _ ?_, hrun, hended, _, _, rfl, ?_, ⟨_, rfl⟩, hW, hsame.mono (by decide) (by decide)⟩
                · show Steps p.tables e below (s₁.setTop (mkF m 50 #[.val (.int p1)] [(.int (2 : Int32))])) _
                  exact retI X0 hx Bd.returns (hb hby dmethod_5_code_50) hr
                · show QrmH Z p1 h0 n0 _ s₁.heap _
                  rw [e0]
                  exact ⟨by unfold own_hi; rw [if_neg hc1_1]; rw [if_neg hc9_5]; rw [if_neg hc17_9]; rw [if_neg hc24_13]; rw [if_neg hc31_17]; rw [if_neg hc38_21]; rw [if_pos hc46_25], rfl, rfl⟩
              · have k30 : Go p e below (s₁.setTop (entryFrame m #[(.int p1)] 1)) (s₁.setTop (mkF m 54 #[.val (.int p1)] [(.int (11 : Int32)), (.int p1)])) := fun t kk => k26 t (by
                  show Steps p.tables e below (s₁.setTop (mkF m 46 #[.val (.int p1)] [(.int (7 : Int32)), (.int p1)])) _
                  refine XS.icmpYes X0.here hx rfl (pc0 := 46) (pc' := 51) rfl (hb hby dmethod_5_code_46) rfl (feq hc46_25).2 (by decide) (by decide) ?_
                  show Steps p.tables e below (s₁.setTop (mkF m 51 #[.val (.int p1)] [])) _
                  refine XS.iloadN X0.here hx rfl (hb hby dmethod_5_code_51) rfl ?_
                  show Steps p.tables e below (s₁.setTop (mkF m 52 #[.val (.int p1)] [(.int p1)])) _
                  refine XS.bipush X0.here hx rfl (hb hby dmethod_5_code_52) ?_
                  exact kk)
                by_cases hc54_29 : p1 = (11 : Int32)
                · have k31 : Go p e below (s₁.setTop (entryFrame m #[(.int p1)] 1)) (s₁.setTop (mkF m 58 #[.val (.int p1)] [(.int (2 : Int32))])) := fun t kk => k30 t (by
                    show Steps p.tables e below (s₁.setTop (mkF m 54 #[.val (.int p1)] [(.int (11 : Int32)), (.int p1)])) _
                    refine XS.icmpNo X0.here hx rfl (hb hby dmethod_5_code_54) rfl (teq hc54_29).2 ?_
                    show Steps p.tables e below (s₁.setTop (mkF m 57 #[.val (.int p1)] [])) _
                    refine XS.iconst X0.here hx rfl (hb hby dmethod_5_code_57) ?_
                    exact kk)
                  obtain ⟨fs, hr, hrun, hended, hW, hsame⟩ := X0.leave (v := some (.int (2 : Int32))) (fun h => by rw [Bd.returns] at h; cases h)
                  refine ⟨_, _, k31 _ ?_, hrun, hended, _, _, rfl, ?_, ⟨_, rfl⟩, hW, hsame.mono (by decide) (by decide)⟩
                  · show Steps p.tables e below (s₁.setTop (mkF m 58 #[.val (.int p1)] [(.int (2 : Int32))])) _
                    exact retI X0 hx Bd.returns (hb hby dmethod_5_code_58) hr
                  · show QrmH Z p1 h0 n0 _ s₁.heap _
                    rw [e0]
                    exact ⟨by unfold own_hi; rw [if_neg hc1_1]; rw [if_neg hc9_5]; rw [if_neg hc17_9]; rw [if_neg hc24_13]; rw [if_neg hc31_17]; rw [if_neg hc38_21]; rw [if_neg hc46_25]; rw [if_pos hc54_29], rfl, rfl⟩
                · have k34 : Go p e below (s₁.setTop (entryFrame m #[(.int p1)] 1)) (s₁.setTop (mkF m 62 #[.val (.int p1)] [(.int (12 : Int32)), (.int p1)])) := fun t kk => k30 t (by
                    show Steps p.tables e below (s₁.setTop (mkF m 54 #[.val (.int p1)] [(.int (11 : Int32)), (.int p1)])) _
                    refine XS.icmpYes X0.here hx rfl (pc0 := 54) (pc' := 59) rfl (hb hby dmethod_5_code_54) rfl (feq hc54_29).2 (by decide) (by decide) ?_
                    show Steps p.tables e below (s₁.setTop (mkF m 59 #[.val (.int p1)] [])) _
                    refine XS.iloadN X0.here hx rfl (hb hby dmethod_5_code_59) rfl ?_
                    show Steps p.tables e below (s₁.setTop (mkF m 60 #[.val (.int p1)] [(.int p1)])) _
                    refine XS.bipush X0.here hx rfl (hb hby dmethod_5_code_60) ?_
                    exact kk)
                  by_cases hc62_33 : p1 = (12 : Int32)
                  · have k35 : Go p e below (s₁.setTop (entryFrame m #[(.int p1)] 1)) (s₁.setTop (mkF m 66 #[.val (.int p1)] [(.int (4 : Int32))])) := fun t kk => k34 t (by
                      show Steps p.tables e below (s₁.setTop (mkF m 62 #[.val (.int p1)] [(.int (12 : Int32)), (.int p1)])) _
                      refine XS.icmpNo X0.here hx rfl (hb hby dmethod_5_code_62) rfl (teq hc62_33).2 ?_
                      show Steps p.tables e below (s₁.setTop (mkF m 65 #[.val (.int p1)] [])) _
                      refine XS.iconst X0.here hx rfl (hb hby dmethod_5_code_65) ?_
                      exact kk)
                    obtain ⟨fs, hr, hrun, hended, hW, hsame⟩ := X0.leave (v := some (.int (4 : Int32))) (fun h => by rw [Bd.returns] at h; cases h)
                    refine ⟨_, _, k35 _ ?_, hrun, hended, _, _, rfl, ?_, ⟨_, rfl⟩, hW, hsame.mono (by decide) (by decide)⟩
                    · show Steps p.tables e below (s₁.setTop (mkF m 66 #[.val (.int p1)] [(.int (4 : Int32))])) _
                      exact retI X0 hx Bd.returns (hb hby dmethod_5_code_66) hr
                    · show QrmH Z p1 h0 n0 _ s₁.heap _
                      rw [e0]
                      exact ⟨by unfold own_hi; rw [if_neg hc1_1]; rw [if_neg hc9_5]; rw [if_neg hc17_9]; rw [if_neg hc24_13]; rw [if_neg hc31_17]; rw [if_neg hc38_21]; rw [if_neg hc46_25]; rw [if_neg hc54_29]; rw [if_pos hc62_33], rfl, rfl⟩
                  · have k38 : Go p e below (s₁.setTop (entryFrame m #[(.int p1)] 1)) (s₁.setTop (mkF m 70 #[.val (.int p1)] [(.int (14 : Int32)), (.int p1)])) := fun t kk => k34 t (by
                      show Steps p.tables e below (s₁.setTop (mkF m 62 #[.val (.int p1)] [(.int (12 : Int32)), (.int p1)])) _
                      refine XS.icmpYes X0.here hx rfl (pc0 := 62) (pc' := 67) rfl (hb hby dmethod_5_code_62) rfl (feq hc62_33).2 (by decide) (by decide) ?_
                      show Steps p.tables e below (s₁.setTop (mkF m 67 #[.val (.int p1)] [])) _
                      refine XS.iloadN X0.here hx rfl (hb hby dmethod_5_code_67) rfl ?_
                      show Steps p.tables e below (s₁.setTop (mkF m 68 #[.val (.int p1)] [(.int p1)])) _
                      refine XS.bipush X0.here hx rfl (hb hby dmethod_5_code_68) ?_
                      exact kk)
                    by_cases hc70_37 : p1 = (14 : Int32)
                    · have k39 : Go p e below (s₁.setTop (entryFrame m #[(.int p1)] 1)) (s₁.setTop (mkF m 74 #[.val (.int p1)] [(.int (3 : Int32))])) := fun t kk => k38 t (by
                        show Steps p.tables e below (s₁.setTop (mkF m 70 #[.val (.int p1)] [(.int (14 : Int32)), (.int p1)])) _
                        refine XS.icmpNo X0.here hx rfl (hb hby dmethod_5_code_70) rfl (teq hc70_37).2 ?_
                        show Steps p.tables e below (s₁.setTop (mkF m 73 #[.val (.int p1)] [])) _
                        refine XS.iconst X0.here hx rfl (hb hby dmethod_5_code_73) ?_
                        exact kk)
                      obtain ⟨fs, hr, hrun, hended, hW, hsame⟩ := X0.leave (v := some (.int (3 : Int32))) (fun h => by rw [Bd.returns] at h; cases h)
                      refine ⟨_, _, k39 _ ?_, hrun, hended, _, _, rfl, ?_, ⟨_, rfl⟩, hW, hsame.mono (by decide) (by decide)⟩
                      · show Steps p.tables e below (s₁.setTop (mkF m 74 #[.val (.int p1)] [(.int (3 : Int32))])) _
                        exact retI X0 hx Bd.returns (hb hby dmethod_5_code_74) hr
                      · show QrmH Z p1 h0 n0 _ s₁.heap _
                        rw [e0]
                        exact ⟨by unfold own_hi; rw [if_neg hc1_1]; rw [if_neg hc9_5]; rw [if_neg hc17_9]; rw [if_neg hc24_13]; rw [if_neg hc31_17]; rw [if_neg hc38_21]; rw [if_neg hc46_25]; rw [if_neg hc54_29]; rw [if_neg hc62_33]; rw [if_pos hc70_37], rfl, rfl⟩
                    · have k41 : Go p e below (s₁.setTop (entryFrame m #[(.int p1)] 1)) (s₁.setTop (mkF m 76 #[.val (.int p1)] [(.int (1 : Int32))])) := fun t kk => k38 t (by
                        show Steps p.tables e below (s₁.setTop (mkF m 70 #[.val (.int p1)] [(.int (14 : Int32)), (.int p1)])) _
                        refine XS.icmpYes X0.here hx rfl (pc0 := 70) (pc' := 75) rfl (hb hby dmethod_5_code_70) rfl (feq hc70_37).2 (by decide) (by decide) ?_
                        show Steps p.tables e below (s₁.setTop (mkF m 75 #[.val (.int p1)] [])) _
                        refine XS.iconst X0.here hx rfl (hb hby dmethod_5_code_75) ?_
                        exact kk)
                      obtain ⟨fs, hr, hrun, hended, hW, hsame⟩ := X0.leave (v := some (.int (1 : Int32))) (fun h => by rw [Bd.returns] at h; cases h)
                      refine ⟨_, _, k41 _ ?_, hrun, hended, _, _, rfl, ?_, ⟨_, rfl⟩, hW, hsame.mono (by decide) (by decide)⟩
                      · show Steps p.tables e below (s₁.setTop (mkF m 76 #[.val (.int p1)] [(.int (1 : Int32))])) _
                        exact retI X0 hx Bd.returns (hb hby dmethod_5_code_76) hr
                      · show QrmH Z p1 h0 n0 _ s₁.heap _
                        rw [e0]
                        exact ⟨by unfold own_hi; rw [if_neg hc1_1]; rw [if_neg hc9_5]; rw [if_neg hc17_9]; rw [if_neg hc24_13]; rw [if_neg hc31_17]; rw [if_neg hc38_21]; rw [if_neg hc46_25]; rw [if_neg hc54_29]; rw [if_neg hc62_33]; rw [if_neg hc70_37], rfl, rfl⟩
theorem dprog_189_method_10_code_0 : decode prog_189_method_10_code 0 = .ok (.iload_n 1, 1) := by decide +kernel
theorem dprog_189_method_10_code_1 : decode prog_189_method_10_code 1 = .ok (.aload_n 0, 1) := by decide +kernel
theorem dprog_189_method_10_code_2 : decode prog_189_method_10_code 2 = .ok (.getfield 84, 3) := by decide +kernel
theorem dprog_189_method_10_code_5 : decode prog_189_method_10_code 5 = .ok (.if_icmp .lt 15, 3) := by decide +kernel
theorem dprog_189_method_10_code_20 : decode prog_189_method_10_code 20 = .ok (.iconst 0, 1) := by decide +kernel
theorem dprog_189_method_10_code_8 : decode prog_189_method_10_code 8 = .ok (.iload_n 1, 1) := by decide +kernel
theorem dprog_189_method_10_code_9 : decode prog_189_method_10_code 9 = .ok (.aload_n 0, 1) := by decide +kernel
theorem dprog_189_method_10_code_10 : decode prog_189_method_10_code 10 = .ok (.getfield 87, 3) := by decide +kernel
theorem dprog_189_method_10_code_13 : decode prog_189_method_10_code 13 = .ok (.if_icmp .gt 7, 3) := by decide +kernel
theorem dprog_189_method_10_code_16 : decode prog_189_method_10_code 16 = .ok (.iconst 1, 1) := by decide +kernel
theorem dprog_189_method_10_code_17 : decode prog_189_method_10_code 17 = .ok (.goto 4, 3) := by decide +kernel
theorem dprog_189_method_10_code_21 : decode prog_189_method_10_code 21 = .ok (.ireturn, 1) := by decide +kernel
theorem ef_rmS (m : MethodId) (x0 : Addr) (x1 : Int32) : entryFrame m #[(.ref x0), (.int x1)] 2 = mkF m 0 #[.val (.ref x0), .val (.int x1)] [] := by first | (simp [entryFrame, mkF, argsToLocals, Value.category]; done) | rfl
def QS (Z : State) (a1 : Addr) (p2 : Int32) (lo : Int32) (hi : Int32) (h0 : Heap) (n0 : Nat) (v : Option Value) (h : Heap) (L : List Loc) : Prop := v = some (.int (own_sup p2 lo hi)) ∧ L = [] ∧ h = h0
theorem pn_1 : plainName "com/example/wasserstand/wasserstand/protocol/ApiKey" = true := by first | (simp [plainName, overriddenIn]; done) | decide +kernel
set_option maxRecDepth 65536 in
set_option maxHeartbeats 40000000 in
theorem rmS (l : Launch) (Z : State) (a0 : Array Value) (hw : ∀ d ∈ tables_1, d.before a0 Z = true) (ws : List Jvm.Cond) (a1 : Addr) (p2 : Int32) (lo : Int32) (hi : Int32) (h0 : Heap) (n0 : Nat) (Z0 : n0 ≤ h0.size) (F1 : Fld Z h0 a1 "com/example/wasserstand/wasserstand/protocol/ApiKey" "minVersion" "S" (.int lo)) (F2 : Fld Z h0 a1 "com/example/wasserstand/wasserstand/protocol/ApiKey" "maxVersion" "S" (.int hi)) :
    MetFree l (⟨"com/example/wasserstand/wasserstand/protocol/ApiKey", "supports", "(S)Z"⟩ : MethodName) (head1 (Jvm.Cond.code (⟨"com/example/wasserstand/wasserstand/protocol/ApiKey", "supports", "(S)Z"⟩ : MethodName) prog_189_method_10_code 2 (some .boolean) :: ws) ({ frames := 0, cells := 0, slots := 0, locals := 0 } : Room)) (fun a U => a = #[(.ref a1), (.int p2)] ∧ Z.Warmed39 U.vm ∧ U.heap = h0) (fun _ _ _ _ _ => True) (fun _ U o U' => ∃ v L, o = .returned v ∧ QS Z a1 p2 lo hi h0 n0 v U'.heap L ∧ FrameEnd U o U' L ({ frames := 0, cells := 0, slots := 0, locals := 0 } : Room).cells ({ frames := 0, cells := 0, slots := 0, locals := 0 } : Room).slots) := by
  refine MetFree.of_bodySF (plainFor_of_name pn_1) hisR ?_
  intro p e s m args below meth c s₁ Bd hml0 hP hK
  obtain ⟨rfl, hZ, hh⟩ := hP
  have hx := Bd.exec
  have hby := Bd.bytes
  have hml : c.maxLocals = 2 := hml0
  have hown : s.vm.findClass "com/example/wasserstand/wasserstand/protocol/ApiKey" = some m.cls := findClass_of_methodNamed Bd.named
  have hnm := (name_of_methodNamed Bd.named Bd.method).1
  have X0 : Stand p l e ({ frames := 0, cells := 0, slots := 0, locals := 0 } : Room) s m #[(.ref a1), (.int p2)] below meth c s₁ [] 0 0 := Stand.of_body Bd
  have e0 : s₁.heap = h0 := by rw [← hh, Bd.state]; rfl
  have N0 := Fr.nil n0
  have k0 : Go p e below (s₁.setTop (entryFrame m #[(.ref a1), (.int p2)] 2)) (s₁.setTop (mkF m 0 #[.val (.ref a1), .val (.int p2)] [])) := fun t k => castTop (ef_rmS m a1 p2) k
  obtain ⟨T1, X1, e1, v1, hj1, k1⟩ : ∃ T' : State, Stand p l e ({ frames := 0, cells := 0, slots := 0, locals := 0 } : Room) s m #[(.ref a1), (.int p2)] below meth c T' [] 0 0 ∧ T'.heap = h0 ∧ ∃ v1 : Int32, (v1 = own_sup p2 lo hi) ∧ Go p e below (s₁.setTop (entryFrame m #[(.ref a1), (.int p2)] 2)) (T'.setTop (mkF m 21 #[.val (.ref a1), .val (.int p2)] [(.int v1)])) := by
    have k2 : Go p e below (s₁.setTop (entryFrame m #[(.ref a1), (.int p2)] 2)) (s₁.setTop (mkF m 2 #[.val (.ref a1), .val (.int p2)] [(.ref a1), (.int p2)])) := fun t kk => k0 t (by
      show Steps p.tables e below (s₁.setTop (mkF m 0 #[.val (.ref a1), .val (.int p2)] [])) _
      refine XS.iloadN X0.here hx rfl (hb hby dprog_189_method_10_code_0) rfl ?_
      show Steps p.tables e below (s₁.setTop (mkF m 1 #[.val (.ref a1), .val (.int p2)] [(.int p2)])) _
      refine XS.aloadN X0.here hx rfl (hb hby dprog_189_method_10_code_1) rfl rfl ?_
      exact kk)
    obtain ⟨T3, X3, e3, st3⟩ := getF X0 hx hZ hown (host := "") (Or.inl (hw _ (List.mem_of_getElem? (i := 19) rfl))) Via.refl e0 F1 (g := (mkF m 2 #[.val (.ref a1), .val (.int p2)] [(.ref a1), (.int p2)])) rfl rfl (hb hby dprog_189_method_10_code_2)
    have k3 : Go p e below (s₁.setTop (entryFrame m #[(.ref a1), (.int p2)] 2)) (T3.setTop (mkF m 5 #[.val (.ref a1), .val (.int p2)] [(.int lo), (.int p2)])) := fun t kk => k2 t (st3 t kk)
    by_cases hc5_4 : p2 < lo
    · have k5 : Go p e below (s₁.setTop (entryFrame m #[(.ref a1), (.int p2)] 2)) (T3.setTop (mkF m 21 #[.val (.ref a1), .val (.int p2)] [(.int (0 : Int32))])) := fun t kk => k3 t (by
        show Steps p.tables e below (T3.setTop (mkF m 5 #[.val (.ref a1), .val (.int p2)] [(.int lo), (.int p2)])) _
        refine XS.icmpYes X3.here hx rfl (pc0 := 5) (pc' := 20) rfl (hb hby dprog_189_method_10_code_5) rfl (tlt hc5_4).1 (by decide) (by decide) ?_
        show Steps p.tables e below (T3.setTop (mkF m 20 #[.val (.ref a1), .val (.int p2)] [])) _
        refine XS.iconst X3.here hx rfl (hb hby dprog_189_method_10_code_20) ?_
        exact kk)
      exact ⟨T3, X3, e3, (0 : Int32), by unfold own_sup; rw [if_pos hc5_4], k5⟩
    · have k6 : Go p e below (s₁.setTop (entryFrame m #[(.ref a1), (.int p2)] 2)) (T3.setTop (mkF m 10 #[.val (.ref a1), .val (.int p2)] [(.ref a1), (.int p2)])) := fun t kk => k3 t (by
        show Steps p.tables e below (T3.setTop (mkF m 5 #[.val (.ref a1), .val (.int p2)] [(.int lo), (.int p2)])) _
        refine XS.icmpNo X3.here hx rfl (hb hby dprog_189_method_10_code_5) rfl (flt hc5_4).1 ?_
        show Steps p.tables e below (T3.setTop (mkF m 8 #[.val (.ref a1), .val (.int p2)] [])) _
        refine XS.iloadN X3.here hx rfl (hb hby dprog_189_method_10_code_8) rfl ?_
        show Steps p.tables e below (T3.setTop (mkF m 9 #[.val (.ref a1), .val (.int p2)] [(.int p2)])) _
        refine XS.aloadN X3.here hx rfl (hb hby dprog_189_method_10_code_9) rfl rfl ?_
        exact kk)
      obtain ⟨T7, X7, e7, st7⟩ := getF X3 hx hZ hown (host := "") (Or.inl (hw _ (List.mem_of_getElem? (i := 21) rfl))) Via.refl e3 F2 (g := (mkF m 10 #[.val (.ref a1), .val (.int p2)] [(.ref a1), (.int p2)])) rfl rfl (hb hby dprog_189_method_10_code_10)
      have k7 : Go p e below (s₁.setTop (entryFrame m #[(.ref a1), (.int p2)] 2)) (T7.setTop (mkF m 13 #[.val (.ref a1), .val (.int p2)] [(.int hi), (.int p2)])) := fun t kk => k6 t (st7 t kk)
      by_cases hc13_8 : hi < p2
      · have k9 : Go p e below (s₁.setTop (entryFrame m #[(.ref a1), (.int p2)] 2)) (T7.setTop (mkF m 21 #[.val (.ref a1), .val (.int p2)] [(.int (0 : Int32))])) := fun t kk => k7 t (by
          show Steps p.tables e below (T7.setTop (mkF m 13 #[.val (.ref a1), .val (.int p2)] [(.int hi), (.int p2)])) _
          refine XS.icmpYes X7.here hx rfl (pc0 := 13) (pc' := 20) rfl (hb hby dprog_189_method_10_code_13) rfl (tlt hc13_8).2.2.1 (by decide) (by decide) ?_
          show Steps p.tables e below (T7.setTop (mkF m 20 #[.val (.ref a1), .val (.int p2)] [])) _
          refine XS.iconst X7.here hx rfl (hb hby dprog_189_method_10_code_20) ?_
          exact kk)
        exact ⟨T7, X7, e7, (0 : Int32), by unfold own_sup; rw [if_neg hc5_4]; rw [if_pos hc13_8], k9⟩
      · have k10 : Go p e below (s₁.setTop (entryFrame m #[(.ref a1), (.int p2)] 2)) (T7.setTop (mkF m 21 #[.val (.ref a1), .val (.int p2)] [(.int (1 : Int32))])) := fun t kk => k7 t (by
          show Steps p.tables e below (T7.setTop (mkF m 13 #[.val (.ref a1), .val (.int p2)] [(.int hi), (.int p2)])) _
          refine XS.icmpNo X7.here hx rfl (hb hby dprog_189_method_10_code_13) rfl (flt hc13_8).2.2.1 ?_
          show Steps p.tables e below (T7.setTop (mkF m 16 #[.val (.ref a1), .val (.int p2)] [])) _
          refine XS.iconst X7.here hx rfl (hb hby dprog_189_method_10_code_16) ?_
          show Steps p.tables e below (T7.setTop (mkF m 17 #[.val (.ref a1), .val (.int p2)] [(.int (1 : Int32))])) _
          refine XS.goto X7.here hx rfl (pc0 := 17) (pc' := 21) rfl (hb hby dprog_189_method_10_code_17) (by decide) (by decide) ?_
          exact kk)
        exact ⟨T7, X7, e7, (1 : Int32), by unfold own_sup; rw [if_neg hc5_4]; rw [if_neg hc13_8], k10⟩
  subst hj1
  obtain ⟨fs, hr, hrun, hended, hW, hsame⟩ := X1.leave (v := some (.int (nar .boolean (own_sup p2 lo hi)))) (fun h => by rw [Bd.returns] at h; cases h)
  refine ⟨_, _, k1 _ ?_, hrun, hended, _, _, rfl, ?_, ⟨_, rfl⟩, hW, hsame.mono (by decide) (by decide)⟩
  · show Steps p.tables e below (T1.setTop (mkF m 21 #[.val (.ref a1), .val (.int p2)] [(.int (own_sup p2 lo hi))])) _
    exact retN X1 hx (t := .boolean) Bd.returns (by simp) (hb hby dprog_189_method_10_code_21) hr
  · show QS Z a1 p2 lo hi h0 n0 _ T1.heap _
    rw [e1]
    exact ⟨by rw [own_sup01], rfl, rfl⟩
theorem own_kk (x : Int32) : 0 ≤ ((x &&& (2147483647 : Int32)) % (19 : Int32)).toInt := by
  have h0 : (x &&& (2147483647 : Int32)).toInt = x.toInt % (2 ^ 31 : Nat) := c_mask x 2147483647 31 (by decide) (by decide)
  have h := (c_irem (x &&& 2147483647) 19 19 rfl).1 (by rw [h0]; omega)
  rw [h]; omega
theorem pd_0 : parseMethodDescriptor "(I)Lcom/example/wasserstand/wasserstand/protocol/ApiKey;" = some ⟨[.int], some (.object "com/example/wasserstand/wasserstand/protocol/ApiKey")⟩ := by decide +kernel
theorem pd_1 : parseMethodDescriptor "(I)I" = some ⟨[.int], some .int⟩ := by decide +kernel
theorem pd_2 : parseMethodDescriptor "(S)Z" = some ⟨[.short], some .boolean⟩ := by decide +kernel
theorem ef_rm0 (m : MethodId) (x0 : Int32) (x1 : Int32) : entryFrame m #[(.int x0), (.int x1)] maxLocals = mkF m 0 #[.val (.int x0), .val (.int x1), .unset, .unset, .unset, .unset, .unset, .unset] [] := by first | (simp [entryFrame, mkF, argsToLocals, Value.category, maxLocals]; done) | rfl
def Q0 (Z : State) (p1 : Int32) (p2 : Int32) (h0 : Heap) (n0 : Nat) (v : Option Value) (h : Heap) (L : List Loc) : Prop := v = some (.int 1) ∧ Fr n0 L
set_option maxRecDepth 65536 in
set_option maxHeartbeats 40000000 in
theorem rm0 (l : Launch) (Z : State) (a0 : Array Value) (hw : ∀ d ∈ tables_1, d.before a0 Z = true) (ws : List Jvm.Cond) (p1 : Int32) (p2 : Int32) (h0 : Heap) (n0 : Nat) (Z0 : n0 ≤ h0.size) (c_PRODUCE : own_C Z h0 "PRODUCE" 3 7) (c_FETCH : own_C Z h0 "FETCH" 4 11) (c_LIST_OFFSETS : own_C Z h0 "LIST_OFFSETS" 1 3) (c_METADATA : own_C Z h0 "METADATA" 0 5) (c_OFFSET_COMMIT : own_C Z h0 "OFFSET_COMMIT" 2 3) (c_OFFSET_FETCH : own_C Z h0 "OFFSET_FETCH" 1 3) (c_FIND_COORDINATOR : own_C Z h0 "FIND_COORDINATOR" 0 1) (c_JOIN_GROUP : own_C Z h0 "JOIN_GROUP" 0 2) (c_HEARTBEAT : own_C Z h0 "HEARTBEAT" 0 1) (c_LEAVE_GROUP : own_C Z h0 "LEAVE_GROUP" 0 1) (c_SYNC_GROUP : own_C Z h0 "SYNC_GROUP" 0 1) (c_API_VERSIONS : own_C Z h0 "API_VERSIONS" 0 2) (c_CREATE_TOPICS : own_C Z h0 "CREATE_TOPICS" 0 4) (c_INIT_PRODUCER_ID : own_C Z h0 "INIT_PRODUCER_ID" 0 1) (c_OFFSET_FOR_LEADER_EPOCH : own_C Z h0 "OFFSET_FOR_LEADER_EPOCH" 3 3) (c_CREATE_PARTITIONS : own_C Z h0 "CREATE_PARTITIONS" 0 1) (c_CLUSTER_STATE : own_C Z h0 "CLUSTER_STATE" 1 1) (c_UPDATE_ISR : own_C Z h0 "UPDATE_ISR" 1 1) (c_RESERVE_PRODUCER_IDS : own_C Z h0 "RESERVE_PRODUCER_IDS" 1 1) :
    MetFree l x (head1 (Jvm.Cond.code x code maxLocals ret :: ws) room_1) (fun a U => a = #[(.int p1), (.int p2)] ∧ Z.Warmed39 U.vm ∧ U.heap = h0) (fun _ _ _ _ _ => True) (fun _ U o U' => ∃ v L, o = .returned v ∧ Q0 Z p1 p2 h0 n0 v U'.heap L ∧ FrameEnd U o U' L room_1.cells room_1.slots) := by
  refine MetFree.of_bodySF (plainFor_of_name pn_0) hisR ?_
  intro p e s m args below meth c s₁ Bd hml0 hP hK
  obtain ⟨rfl, hZ, hh⟩ := hP
  have hx := Bd.exec
  have hby := Bd.bytes
  have hml : c.maxLocals = 8 := hml0
  have hown : s.vm.findClass "com/example/wasserstand/wasserstand/protocol/ApiKeySupportsPinLaw" = some m.cls := findClass_of_methodNamed Bd.named
  have hnm := (name_of_methodNamed Bd.named Bd.method).1
  have X0 : Stand p l e room_1 s m #[(.int p1), (.int p2)] below meth c s₁ [] 0 0 := Stand.of_body Bd
  have e0 : s₁.heap = h0 := by rw [← hh, Bd.state]; rfl
  have N0 := Fr.nil n0
  have k0 : Go p e below (s₁.setTop (entryFrame m #[(.int p1), (.int p2)] maxLocals)) (s₁.setTop (mkF m 0 #[.val (.int p1), .val (.int p2), .unset, .unset, .unset, .unset, .unset, .unset] [])) := fun t k => castTop (ef_rm0 m p1 p2) k
  have hk := own_kk p1
  have k1 : Go p e below (s₁.setTop (entryFrame m #[(.int p1), (.int p2)] maxLocals)) (s₁.setTop (mkF m 8 #[.val (.int p1), .val (.int p2), .val (.int ((p1 &&& (2147483647 : Int32)) % (19 : Int32))), .unset, .unset, .unset, .unset, .unset] [])) := fun t kk => k0 t (by
    show Steps p.tables e below (s₁.setTop (mkF m 0 #[.val (.int p1), .val (.int p2), .unset, .unset, .unset, .unset, .unset, .unset] [])) _
    refine XS.iloadN X0.here hx rfl (hb hby at_0) rfl ?_
    show Steps p.tables e below (s₁.setTop (mkF m 1 #[.val (.int p1), .val (.int p2), .unset, .unset, .unset, .unset, .unset, .unset] [(.int p1)])) _
    refine X0.ldcInt hx hown (mvT hZ (hw _ (List.mem_of_getElem? (i := 0) rfl))) (g := (mkF m 1 #[.val (.int p1), .val (.int p2), .unset, .unset, .unset, .unset, .unset, .unset] [(.int p1)])) rfl (hb hby at_1) _ ?_
    show Steps p.tables e below (s₁.setTop (mkF m 3 #[.val (.int p1), .val (.int p2), .unset, .unset, .unset, .unset, .unset, .unset] [(.int (2147483647 : Int32)), (.int p1)])) _
    refine XS.iand X0.here hx rfl (hb hby at_3) rfl ?_
    show Steps p.tables e below (s₁.setTop (mkF m 4 #[.val (.int p1), .val (.int p2), .unset, .unset, .unset, .unset, .unset, .unset] [(.int (p1 &&& (2147483647 : Int32)))])) _
    refine XS.bipush X0.here hx rfl (hb hby at_4) ?_
    show Steps p.tables e below (s₁.setTop (mkF m 6 #[.val (.int p1), .val (.int p2), .unset, .unset, .unset, .unset, .unset, .unset] [(.int (19 : Int32)), (.int (p1 &&& (2147483647 : Int32)))])) _
    refine iremM X0 hx rfl (hb hby at_6) rfl (by decide) ?_
    show Steps p.tables e below (s₁.setTop (mkF m 7 #[.val (.int p1), .val (.int p2), .unset, .unset, .unset, .unset, .unset, .unset] [(.int ((p1 &&& (2147483647 : Int32)) % (19 : Int32)))])) _
    refine XS.istoreN X0.here hx rfl (hb hby at_7) rfl (l' := #[.val (.int p1), .val (.int p2), .val (.int ((p1 &&& (2147483647 : Int32)) % (19 : Int32))), .unset, .unset, .unset, .unset, .unset]) rfl ?_
    exact kk)
  obtain ⟨vk, h_vk⟩ : ∃ z : Int32, z = ((p1 &&& (2147483647 : Int32)) % (19 : Int32)) := ⟨_, rfl⟩
  rw [← h_vk] at k1 hk
  have k2 : Go p e below (s₁.setTop (entryFrame m #[(.int p1), (.int p2)] maxLocals)) (s₁.setTop (mkF m 11 #[.val (.int p1), .val (.int p2), .val (.int vk), .val (.int (p2.toInt16.toInt32)), .unset, .unset, .unset, .unset] [])) := fun t kk => k1 t (by
    show Steps p.tables e below (s₁.setTop (mkF m 8 #[.val (.int p1), .val (.int p2), .val (.int vk), .unset, .unset, .unset, .unset, .unset] [])) _
    refine XS.iloadN X0.here hx rfl (hb hby at_8) rfl ?_
    show Steps p.tables e below (s₁.setTop (mkF m 9 #[.val (.int p1), .val (.int p2), .val (.int vk), .unset, .unset, .unset, .unset, .unset] [(.int p2)])) _
    refine XS.i2s X0.here hx rfl (hb hby at_9) rfl ?_
    show Steps p.tables e below (s₁.setTop (mkF m 10 #[.val (.int p1), .val (.int p2), .val (.int vk), .unset, .unset, .unset, .unset, .unset] [(.int (p2.toInt16.toInt32))])) _
    refine XS.istoreN X0.here hx rfl (hb hby at_10) rfl (l' := #[.val (.int p1), .val (.int p2), .val (.int vk), .val (.int (p2.toInt16.toInt32)), .unset, .unset, .unset, .unset]) rfl ?_
    exact kk)
  obtain ⟨vv, h_vv⟩ : ∃ z : Int32, z = (p2.toInt16.toInt32) := ⟨_, rfl⟩
  rw [← h_vv] at k2
  have k3 : Go p e below (s₁.setTop (entryFrame m #[(.int p1), (.int p2)] maxLocals)) (s₁.setTop (mkF m 12 #[.val (.int p1), .val (.int p2), .val (.int vk), .val (.int vv), .unset, .unset, .unset, .unset] [(.int vk)])) := fun t kk => k2 t (by
    show Steps p.tables e below (s₁.setTop (mkF m 11 #[.val (.int p1), .val (.int p2), .val (.int vk), .val (.int vv), .unset, .unset, .unset, .unset] [])) _
    refine XS.iloadN X0.here hx rfl (hb hby at_11) rfl ?_
    exact kk)
  obtain ⟨_, _, ⟨T4, L4, kx4, nx4⟩, -, X4, ⟨Lc4, hQ4, l4, y4, z4⟩, st4⟩ := Jvm.LawKit.callS X0 hx (y := (⟨"com/example/wasserstand/wasserstand/protocol/ApiKeySupportsPinLaw", "key", "(I)Lcom/example/wasserstand/wasserstand/protocol/ApiKey;"⟩ : MethodName)) hown (mvT hZ (hw _ (List.mem_of_getElem? (i := 1) rfl))) (mvT hZ (hw _ (List.mem_of_getElem? (i := 2) rfl))) (mvT hZ (hw _ (List.mem_of_getElem? (i := 3) rfl))) (mvT hZ (hw _ (List.mem_of_getElem? (i := 4) rfl))) (by decide) (backOf (W := 0) (rmK l Z a0 hw [] vk h0 n0 Z0 hk c_PRODUCE c_FETCH c_LIST_OFFSETS c_METADATA c_OFFSET_COMMIT c_OFFSET_FETCH c_FIND_COORDINATOR c_JOIN_GROUP c_HEARTBEAT c_LEAVE_GROUP c_SYNC_GROUP c_API_VERSIONS c_CREATE_TOPICS c_INIT_PRODUCER_ID c_OFFSET_FOR_LEADER_EPOCH c_CREATE_PARTITIONS c_CLUSTER_STATE c_UPDATE_ISR c_RESERVE_PRODUCER_IDS) hZ (hw _ (List.mem_of_getElem? (i := 4) rfl)) (hw _ (List.mem_of_getElem? (i := 3) rfl)) (by decide) (by decide)) (g := (mkF m 12 #[.val (.int p1), .val (.int p2), .val (.int vk), .val (.int vv), .unset, .unset, .unset, .unset] [(.int vk)])) rfl (by rw [hml]; rfl) (argsL := [(.int vk)]) (rest := []) (lenOf pd_0 rfl) rfl (by show 2 * 0 + _ ≤ _; exact Nat.le_of_eq rfl) (hb hby at_12) (fun _ _ => ⟨rfl, e0, (by decide : 0 + 0 ≤ _), (by decide : 0 + 0 ≤ _)⟩)
  dsimp only [Pt.U, Pt.locs, Pt.cells, Pt.slots] at X4 l4 y4 z4 st4 hQ4
  subst l4 y4 z4
  obtain ⟨b4, rfl, rfl, e4, x4_e, x4_lo, x4_hi⟩ := hQ4
  try rw [List.append_nil] at X4
  have k4 : Go p e below (s₁.setTop (entryFrame m #[(.int p1), (.int p2)] maxLocals)) (T4.setTop (mkF m 15 #[.val (.int p1), .val (.int p2), .val (.int vk), .val (.int vv), .unset, .unset, .unset, .unset] [(.ref b4)])) := fun t kk => k3 t (st4 t kk)
  have k5 : Go p e below (s₁.setTop (entryFrame m #[(.int p1), (.int p2)] maxLocals)) (T4.setTop (mkF m 18 #[.val (.int p1), .val (.int p2), .val (.int vk), .val (.int vv), .val (.ref b4), .unset, .unset, .unset] [(.int vk)])) := fun t kk => k4 t (by
    show Steps p.tables e below (T4.setTop (mkF m 15 #[.val (.int p1), .val (.int p2), .val (.int vk), .val (.int vv), .unset, .unset, .unset, .unset] [(.ref b4)])) _
    refine XS.astore X4.here hx rfl (hb hby at_15) rfl rfl (l' := #[.val (.int p1), .val (.int p2), .val (.int vk), .val (.int vv), .val (.ref b4), .unset, .unset, .unset]) rfl ?_
    show Steps p.tables e below (T4.setTop (mkF m 17 #[.val (.int p1), .val (.int p2), .val (.int vk), .val (.int vv), .val (.ref b4), .unset, .unset, .unset] [])) _
    refine XS.iloadN X4.here hx rfl (hb hby at_17) rfl ?_
    exact kk)
  obtain ⟨_, _, ⟨T6, L6, kx6, nx6⟩, -, X6, ⟨Lc6, hQ6, l6, y6, z6⟩, st6⟩ := Jvm.LawKit.callS X4 hx (y := (⟨"com/example/wasserstand/wasserstand/protocol/ApiKeySupportsPinLaw", "lo", "(I)I"⟩ : MethodName)) hown (mvT hZ (hw _ (List.mem_of_getElem? (i := 8) rfl))) (mvT hZ (hw _ (List.mem_of_getElem? (i := 9) rfl))) (mvT hZ (hw _ (List.mem_of_getElem? (i := 3) rfl))) (mvT hZ (hw _ (List.mem_of_getElem? (i := 10) rfl))) (by decide) (backOf (W := 0) (rmL l Z a0 hw [] vk h0 n0 Z0 ) hZ (hw _ (List.mem_of_getElem? (i := 10) rfl)) (hw _ (List.mem_of_getElem? (i := 3) rfl)) (by decide) (by decide)) (g := (mkF m 18 #[.val (.int p1), .val (.int p2), .val (.int vk), .val (.int vv), .val (.ref b4), .unset, .unset, .unset] [(.int vk)])) rfl (by rw [hml]; rfl) (argsL := [(.int vk)]) (rest := []) (lenOf pd_1 rfl) rfl (by show 2 * 0 + _ ≤ _; exact Nat.le_of_eq rfl) (hb hby at_18) (fun _ _ => ⟨rfl, e4, (by decide : 0 + 0 ≤ _), (by decide : 0 + 0 ≤ _)⟩)
  dsimp only [Pt.U, Pt.locs, Pt.cells, Pt.slots] at X6 l6 y6 z6 st6 hQ6
  subst l6 y6 z6
  obtain ⟨rfl, rfl, e6⟩ := hQ6
  try rw [List.append_nil] at X6
  have k6 : Go p e below (s₁.setTop (entryFrame m #[(.int p1), (.int p2)] maxLocals)) (T6.setTop (mkF m 21 #[.val (.int p1), .val (.int p2), .val (.int vk), .val (.int vv), .val (.ref b4), .unset, .unset, .unset] [(.int (own_lo vk))])) := fun t kk => k5 t (st6 t kk)
  have k7 : Go p e below (s₁.setTop (entryFrame m #[(.int p1), (.int p2)] maxLocals)) (T6.setTop (mkF m 24 #[.val (.int p1), .val (.int p2), .val (.int vk), .val (.int vv), .val (.ref b4), .val (.int (own_lo vk)), .unset, .unset] [(.int vk)])) := fun t kk => k6 t (by
    show Steps p.tables e below (T6.setTop (mkF m 21 #[.val (.int p1), .val (.int p2), .val (.int vk), .val (.int vv), .val (.ref b4), .unset, .unset, .unset] [(.int (own_lo vk))])) _
    refine XS.istore X6.here hx rfl (hb hby at_21) rfl (l' := #[.val (.int p1), .val (.int p2), .val (.int vk), .val (.int vv), .val (.ref b4), .val (.int (own_lo vk)), .unset, .unset]) rfl ?_
    show Steps p.tables e below (T6.setTop (mkF m 23 #[.val (.int p1), .val (.int p2), .val (.int vk), .val (.int vv), .val (.ref b4), .val (.int (own_lo vk)), .unset, .unset] [])) _
    refine XS.iloadN X6.here hx rfl (hb hby at_23) rfl ?_
    exact kk)
  obtain ⟨_, _, ⟨T8, L8, kx8, nx8⟩, -, X8, ⟨Lc8, hQ8, l8, y8, z8⟩, st8⟩ := Jvm.LawKit.callS X6 hx (y := (⟨"com/example/wasserstand/wasserstand/protocol/ApiKeySupportsPinLaw", "hi", "(I)I"⟩ : MethodName)) hown (mvT hZ (hw _ (List.mem_of_getElem? (i := 11) rfl))) (mvT hZ (hw _ (List.mem_of_getElem? (i := 12) rfl))) (mvT hZ (hw _ (List.mem_of_getElem? (i := 3) rfl))) (mvT hZ (hw _ (List.mem_of_getElem? (i := 13) rfl))) (by decide) (backOf (W := 0) (rmH l Z a0 hw [] vk h0 n0 Z0 ) hZ (hw _ (List.mem_of_getElem? (i := 13) rfl)) (hw _ (List.mem_of_getElem? (i := 3) rfl)) (by decide) (by decide)) (g := (mkF m 24 #[.val (.int p1), .val (.int p2), .val (.int vk), .val (.int vv), .val (.ref b4), .val (.int (own_lo vk)), .unset, .unset] [(.int vk)])) rfl (by rw [hml]; rfl) (argsL := [(.int vk)]) (rest := []) (lenOf pd_1 rfl) rfl (by show 2 * 0 + _ ≤ _; exact Nat.le_of_eq rfl) (hb hby at_24) (fun _ _ => ⟨rfl, e6, (by decide : 0 + 0 ≤ _), (by decide : 0 + 0 ≤ _)⟩)
  dsimp only [Pt.U, Pt.locs, Pt.cells, Pt.slots] at X8 l8 y8 z8 st8 hQ8
  subst l8 y8 z8
  obtain ⟨rfl, rfl, e8⟩ := hQ8
  try rw [List.append_nil] at X8
  have k8 : Go p e below (s₁.setTop (entryFrame m #[(.int p1), (.int p2)] maxLocals)) (T8.setTop (mkF m 27 #[.val (.int p1), .val (.int p2), .val (.int vk), .val (.int vv), .val (.ref b4), .val (.int (own_lo vk)), .unset, .unset] [(.int (own_hi vk))])) := fun t kk => k7 t (st8 t kk)
  have k9 : Go p e below (s₁.setTop (entryFrame m #[(.int p1), (.int p2)] maxLocals)) (T8.setTop (mkF m 32 #[.val (.int p1), .val (.int p2), .val (.int vk), .val (.int vv), .val (.ref b4), .val (.int (own_lo vk)), .val (.int (own_hi vk)), .unset] [(.int vv), (.int (own_lo vk))])) := fun t kk => k8 t (by
    show Steps p.tables e below (T8.setTop (mkF m 27 #[.val (.int p1), .val (.int p2), .val (.int vk), .val (.int vv), .val (.ref b4), .val (.int (own_lo vk)), .unset, .unset] [(.int (own_hi vk))])) _
    refine XS.istore X8.here hx rfl (hb hby at_27) rfl (l' := #[.val (.int p1), .val (.int p2), .val (.int vk), .val (.int vv), .val (.ref b4), .val (.int (own_lo vk)), .val (.int (own_hi vk)), .unset]) rfl ?_
    show Steps p.tables e below (T8.setTop (mkF m 29 #[.val (.int p1), .val (.int p2), .val (.int vk), .val (.int vv), .val (.ref b4), .val (.int (own_lo vk)), .val (.int (own_hi vk)), .unset] [])) _
    refine XS.iload X8.here hx rfl (hb hby at_29) rfl ?_
    show Steps p.tables e below (T8.setTop (mkF m 31 #[.val (.int p1), .val (.int p2), .val (.int vk), .val (.int vv), .val (.ref b4), .val (.int (own_lo vk)), .val (.int (own_hi vk)), .unset] [(.int (own_lo vk))])) _
    refine XS.iloadN X8.here hx rfl (hb hby at_31) rfl ?_
    exact kk)
  obtain ⟨ve, hj10, k10⟩ : ∃ ve : Int32, (ve = own_sup vv (own_lo vk) (own_hi vk)) ∧ Go p e below (s₁.setTop (entryFrame m #[(.int p1), (.int p2)] maxLocals)) (T8.setTop (mkF m 46 #[.val (.int p1), .val (.int p2), .val (.int vk), .val (.int vv), .val (.ref b4), .val (.int (own_lo vk)), .val (.int (own_hi vk)), .unset] [(.int ve)])) := by
    by_cases hc32_11 : vv < (own_lo vk)
    · have k12 : Go p e below (s₁.setTop (entryFrame m #[(.int p1), (.int p2)] maxLocals)) (T8.setTop (mkF m 46 #[.val (.int p1), .val (.int p2), .val (.int vk), .val (.int vv), .val (.ref b4), .val (.int (own_lo vk)), .val (.int (own_hi vk)), .unset] [(.int (0 : Int32))])) := fun t kk => k9 t (by
        show Steps p.tables e below (T8.setTop (mkF m 32 #[.val (.int p1), .val (.int p2), .val (.int vk), .val (.int vv), .val (.ref b4), .val (.int (own_lo vk)), .val (.int (own_hi vk)), .unset] [(.int vv), (.int (own_lo vk))])) _
        refine XS.icmpYes X8.here hx rfl (pc0 := 32) (pc' := 45) rfl (hb hby at_32) rfl (tlt hc32_11).2.2.1 (by decide) (by decide) ?_
        show Steps p.tables e below (T8.setTop (mkF m 45 #[.val (.int p1), .val (.int p2), .val (.int vk), .val (.int vv), .val (.ref b4), .val (.int (own_lo vk)), .val (.int (own_hi vk)), .unset] [])) _
        refine XS.iconst X8.here hx rfl (hb hby at_45) ?_
        exact kk)
      exact ⟨(0 : Int32), by unfold own_sup; rw [if_pos hc32_11], k12⟩
    · have k14 : Go p e below (s₁.setTop (entryFrame m #[(.int p1), (.int p2)] maxLocals)) (T8.setTop (mkF m 38 #[.val (.int p1), .val (.int p2), .val (.int vk), .val (.int vv), .val (.ref b4), .val (.int (own_lo vk)), .val (.int (own_hi vk)), .unset] [(.int (own_hi vk)), (.int vv)])) := fun t kk => k9 t (by
        show Steps p.tables e below (T8.setTop (mkF m 32 #[.val (.int p1), .val (.int p2), .val (.int vk), .val (.int vv), .val (.ref b4), .val (.int (own_lo vk)), .val (.int (own_hi vk)), .unset] [(.int vv), (.int (own_lo vk))])) _
        refine XS.icmpNo X8.here hx rfl (hb hby at_32) rfl (flt hc32_11).2.2.1 ?_
        show Steps p.tables e below (T8.setTop (mkF m 35 #[.val (.int p1), .val (.int p2), .val (.int vk), .val (.int vv), .val (.ref b4), .val (.int (own_lo vk)), .val (.int (own_hi vk)), .unset] [])) _
        refine XS.iloadN X8.here hx rfl (hb hby at_35) rfl ?_
        show Steps p.tables e below (T8.setTop (mkF m 36 #[.val (.int p1), .val (.int p2), .val (.int vk), .val (.int vv), .val (.ref b4), .val (.int (own_lo vk)), .val (.int (own_hi vk)), .unset] [(.int vv)])) _
        refine XS.iload X8.here hx rfl (hb hby at_36) rfl ?_
        exact kk)
      by_cases hc38_13 : (own_hi vk) < vv
      · have k15 : Go p e below (s₁.setTop (entryFrame m #[(.int p1), (.int p2)] maxLocals)) (T8.setTop (mkF m 46 #[.val (.int p1), .val (.int p2), .val (.int vk), .val (.int vv), .val (.ref b4), .val (.int (own_lo vk)), .val (.int (own_hi vk)), .unset] [(.int (0 : Int32))])) := fun t kk => k14 t (by
          show Steps p.tables e below (T8.setTop (mkF m 38 #[.val (.int p1), .val (.int p2), .val (.int vk), .val (.int vv), .val (.ref b4), .val (.int (own_lo vk)), .val (.int (own_hi vk)), .unset] [(.int (own_hi vk)), (.int vv)])) _
          refine XS.icmpYes X8.here hx rfl (pc0 := 38) (pc' := 45) rfl (hb hby at_38) rfl (tlt hc38_13).2.2.1 (by decide) (by decide) ?_
          show Steps p.tables e below (T8.setTop (mkF m 45 #[.val (.int p1), .val (.int p2), .val (.int vk), .val (.int vv), .val (.ref b4), .val (.int (own_lo vk)), .val (.int (own_hi vk)), .unset] [])) _
          refine XS.iconst X8.here hx rfl (hb hby at_45) ?_
          exact kk)
        exact ⟨(0 : Int32), by unfold own_sup; rw [if_neg hc32_11]; rw [if_pos hc38_13], k15⟩
      · have k16 : Go p e below (s₁.setTop (entryFrame m #[(.int p1), (.int p2)] maxLocals)) (T8.setTop (mkF m 46 #[.val (.int p1), .val (.int p2), .val (.int vk), .val (.int vv), .val (.ref b4), .val (.int (own_lo vk)), .val (.int (own_hi vk)), .unset] [(.int (1 : Int32))])) := fun t kk => k14 t (by
          show Steps p.tables e below (T8.setTop (mkF m 38 #[.val (.int p1), .val (.int p2), .val (.int vk), .val (.int vv), .val (.ref b4), .val (.int (own_lo vk)), .val (.int (own_hi vk)), .unset] [(.int (own_hi vk)), (.int vv)])) _
          refine XS.icmpNo X8.here hx rfl (hb hby at_38) rfl (flt hc38_13).2.2.1 ?_
          show Steps p.tables e below (T8.setTop (mkF m 41 #[.val (.int p1), .val (.int p2), .val (.int vk), .val (.int vv), .val (.ref b4), .val (.int (own_lo vk)), .val (.int (own_hi vk)), .unset] [])) _
          refine XS.iconst X8.here hx rfl (hb hby at_41) ?_
          show Steps p.tables e below (T8.setTop (mkF m 42 #[.val (.int p1), .val (.int p2), .val (.int vk), .val (.int vv), .val (.ref b4), .val (.int (own_lo vk)), .val (.int (own_hi vk)), .unset] [(.int (1 : Int32))])) _
          refine XS.goto X8.here hx rfl (pc0 := 42) (pc' := 46) rfl (hb hby at_42) (by decide) (by decide) ?_
          exact kk)
        exact ⟨(1 : Int32), by unfold own_sup; rw [if_neg hc32_11]; rw [if_neg hc38_13], k16⟩
  have k17 : Go p e below (s₁.setTop (entryFrame m #[(.int p1), (.int p2)] maxLocals)) (T8.setTop (mkF m 51 #[.val (.int p1), .val (.int p2), .val (.int vk), .val (.int vv), .val (.ref b4), .val (.int (own_lo vk)), .val (.int (own_hi vk)), .val (.int ve)] [(.int vv), (.ref b4)])) := fun t kk => k10 t (by
    show Steps p.tables e below (T8.setTop (mkF m 46 #[.val (.int p1), .val (.int p2), .val (.int vk), .val (.int vv), .val (.ref b4), .val (.int (own_lo vk)), .val (.int (own_hi vk)), .unset] [(.int ve)])) _
    refine XS.istore X8.here hx rfl (hb hby at_46) rfl (l' := #[.val (.int p1), .val (.int p2), .val (.int vk), .val (.int vv), .val (.ref b4), .val (.int (own_lo vk)), .val (.int (own_hi vk)), .val (.int ve)]) rfl ?_
    show Steps p.tables e below (T8.setTop (mkF m 48 #[.val (.int p1), .val (.int p2), .val (.int vk), .val (.int vv), .val (.ref b4), .val (.int (own_lo vk)), .val (.int (own_hi vk)), .val (.int ve)] [])) _
    refine XS.aload X8.here hx rfl (hb hby at_48) rfl rfl ?_
    show Steps p.tables e below (T8.setTop (mkF m 50 #[.val (.int p1), .val (.int p2), .val (.int vk), .val (.int vv), .val (.ref b4), .val (.int (own_lo vk)), .val (.int (own_hi vk)), .val (.int ve)] [(.ref b4)])) _
    refine XS.iloadN X8.here hx rfl (hb hby at_50) rfl ?_
    exact kk)
  obtain ⟨cq18, kq18, q18a, q18b, q18c⟩ := isOf hZ e8 x4_e
  obtain ⟨_, _, ⟨T18, L18, kx18, nx18⟩, -, X18, ⟨Lc18, hQ18, l18, y18, z18⟩, st18⟩ := X8.virtualBack hx (y := (⟨"com/example/wasserstand/wasserstand/protocol/ApiKey", "supports", "(S)Z"⟩ : MethodName)) (z := (⟨"com/example/wasserstand/wasserstand/protocol/ApiKey", "supports", "(S)Z"⟩ : MethodName)) hown (mvT hZ (hw _ (List.mem_of_getElem? (i := 14) rfl))) (mvT hZ (hw _ (List.mem_of_getElem? (i := 15) rfl))) (notFace_of_selects (args := #[]) (mvT hZ (hw _ (List.mem_of_getElem? (i := 17) rfl)))) (mvT hZ (hw _ (List.mem_of_getElem? (i := 17) rfl))) (mvT hZ (hw _ (List.mem_of_getElem? (i := 16) rfl))) (by decide) (backOf (W := 0) (rmS l Z a0 hw [] b4 vv (own_lo vk) (own_hi vk) h0 n0 Z0 x4_lo x4_hi) hZ (hw _ (List.mem_of_getElem? (i := 18) rfl)) (hw _ (List.mem_of_getElem? (i := 6) rfl)) (by decide) (by decide)) q18a q18c (g := (mkF m 51 #[.val (.int p1), .val (.int p2), .val (.int vk), .val (.int vv), .val (.ref b4), .val (.int (own_lo vk)), .val (.int (own_hi vk)), .val (.int ve)] [(.int vv), (.ref b4)])) rfl (by rw [hml]; rfl) (Steps.refl _) (argsL := [(.int vv)]) (rest := []) (lenOf pd_2 rfl) rfl (by show 2 * 0 + _ ≤ _; exact Nat.le_of_eq rfl) (hb hby at_51) (fun _ _ => ⟨rfl, e8, (by decide : 0 + 0 ≤ _), (by decide : 0 + 0 ≤ _)⟩)
  dsimp only [Pt.U, Pt.locs, Pt.cells, Pt.slots] at X18 l18 y18 z18 st18 hQ18
  subst l18 y18 z18
  obtain ⟨rfl, rfl, e18⟩ := hQ18
  try rw [List.append_nil] at X18
  have k18 : Go p e below (s₁.setTop (entryFrame m #[(.int p1), (.int p2)] maxLocals)) (T18.setTop (mkF m 54 #[.val (.int p1), .val (.int p2), .val (.int vk), .val (.int vv), .val (.ref b4), .val (.int (own_lo vk)), .val (.int (own_hi vk)), .val (.int ve)] [(.int (own_sup vv (own_lo vk) (own_hi vk)))])) := fun t kk => k17 t (st18.trans kk)
  have hd : (own_sup vv (own_lo vk) (own_hi vk)) = ve := hj10.symm
  have k19 : Go p e below (s₁.setTop (entryFrame m #[(.int p1), (.int p2)] maxLocals)) (T18.setTop (mkF m 64 #[.val (.int p1), .val (.int p2), .val (.int vk), .val (.int vv), .val (.ref b4), .val (.int (own_lo vk)), .val (.int (own_hi vk)), .val (.int ve)] [(.int (1 : Int32))])) := fun t kk => k18 t (by
    show Steps p.tables e below (T18.setTop (mkF m 54 #[.val (.int p1), .val (.int p2), .val (.int vk), .val (.int vv), .val (.ref b4), .val (.int (own_lo vk)), .val (.int (own_hi vk)), .val (.int ve)] [(.int (own_sup vv (own_lo vk) (own_hi vk)))])) _
    refine XS.iload X18.here hx rfl (hb hby at_54) rfl ?_
    show Steps p.tables e below (T18.setTop (mkF m 56 #[.val (.int p1), .val (.int p2), .val (.int vk), .val (.int vv), .val (.ref b4), .val (.int (own_lo vk)), .val (.int (own_hi vk)), .val (.int ve)] [(.int ve), (.int (own_sup vv (own_lo vk) (own_hi vk)))])) _
    refine XS.icmpNo X18.here hx rfl (hb hby at_56) rfl (teq hd).2 ?_
    show Steps p.tables e below (T18.setTop (mkF m 59 #[.val (.int p1), .val (.int p2), .val (.int vk), .val (.int vv), .val (.ref b4), .val (.int (own_lo vk)), .val (.int (own_hi vk)), .val (.int ve)] [])) _
    refine XS.iconst X18.here hx rfl (hb hby at_59) ?_
    show Steps p.tables e below (T18.setTop (mkF m 60 #[.val (.int p1), .val (.int p2), .val (.int vk), .val (.int vv), .val (.ref b4), .val (.int (own_lo vk)), .val (.int (own_hi vk)), .val (.int ve)] [(.int (1 : Int32))])) _
    refine XS.goto X18.here hx rfl (pc0 := 60) (pc' := 64) rfl (hb hby at_60) (by decide) (by decide) ?_
    exact kk)
  obtain ⟨fs, hr, hrun, hended, hW, hsame⟩ := X18.leave (v := some (.int (1 : Int32))) (fun h => by rw [Bd.returns] at h; cases h)
  refine ⟨_, _, k19 _ ?_, hrun, hended, _, _, rfl, ?_, ⟨_, rfl⟩, hW, hsame.mono (by decide) (by decide)⟩
  · show Steps p.tables e below (T18.setTop (mkF m 64 #[.val (.int p1), .val (.int p2), .val (.int vk), .val (.int vv), .val (.ref b4), .val (.int (own_lo vk)), .val (.int (own_hi vk)), .val (.int ve)] [(.int (1 : Int32))])) _
    exact retN X18 hx (t := .boolean) Bd.returns (by simp) (hb hby at_64) hr
  · show Q0 Z p1 p2 h0 n0 _ T18.heap _
    rw [e18]
    exact ⟨rfl, N0⟩
set_option maxRecDepth 65536 in
set_option maxHeartbeats 40000000 in
theorem comes_1 {Post : Tables → Env → Array Value → State → Outcome → State → Prop} (hpost : ∀ tb e args s v u, (limb_1_1.after args s (.returned v) u = true ∧ limb_1_2.after args s (.returned v) u = true ∧ True) → FrameEnd s (.returned v) u (Jvm.fieldLocs frame_1_writes args s ++ Jvm.arrayLocs frame_1_arrays args s ++ Jvm.staticLocs frame_1_statics s) 0 0 → Post tb e args s (.returned v) u) :
    ArmFor flags0 classFile x code maxLocals ret World_1 tables_1 room_1 Calls_1 rest_1 Pre_1 Post := by
  intro l hfl _ _ p e ha hc hk s m args below hf hA hF happ hP
  obtain ⟨hcalls, hrest, hpre⟩ := hP
  obtain ⟨-, -, -, hnamed, -, -, -, hat⟩ := (Spec.applies_iff hf).mp happ
  obtain ⟨hg, hn⟩ := and_e (Cond.before_iff.mp (show (Jvm.Cond.and given_1 narrow_1).before args s = true from hpre))
  obtain ⟨g1, g2⟩ := and_e hg
  obtain ⟨g3, g4⟩ := and_e g2
  obtain ⟨w0, w1, rfl⟩ : ∃ w0 w1 : Value, args = #[w0, w1] := by
    have hs : args.size = 2 := by simpa [Cond.value, given_1] using g1
    obtain ⟨L⟩ := args
    match L, hs with
    | [w0, w1], _ => exact ⟨w0, w1, rfl⟩
  have hw := fun d (hd : d ∈ tables_1) => atoms_spec (ws := Jvm.Cond.code x code maxLocals ret :: tables_1) hat d (List.mem_cons_of_mem _ hd)
  have hfit : Fit s := fun {y c} hc i hi => by
    obtain ⟨ha, rfl⟩ := Array.getElem?_eq_some_iff.mp hc
    have q := List.all_eq_true.mp ((Array.all_eq_true_iff_forall_mem.mp hF) _ (Array.getElem_mem ha)) i (List.mem_range.mpr hi)
    simpa [Array.getElem?_eq_getElem hi] using q
  obtain ⟨i0, ei0⟩ := is_v g3
  obtain rfl : w0 = (.int i0) := Option.some.inj ei0
  obtain ⟨i1, ei1⟩ := is_v g4
  obtain rfl : w1 = (.int i1) := Option.some.inj ei1
  obtain ⟨m1, m2⟩ := and_e hn
  obtain ⟨m3, m4⟩ := and_e m2
  obtain ⟨m5, m6⟩ := and_e m4
  obtain ⟨m7, m8⟩ := and_e m6
  obtain ⟨m9, m10⟩ := and_e m8
  obtain ⟨m11, m12⟩ := and_e m10
  obtain ⟨m13, m14⟩ := and_e m12
  obtain ⟨m15, m16⟩ := and_e m14
  obtain ⟨m17, m18⟩ := and_e m16
  obtain ⟨m19, m20⟩ := and_e m18
  obtain ⟨m21, m22⟩ := and_e m20
  obtain ⟨m23, m24⟩ := and_e m22
  obtain ⟨m25, m26⟩ := and_e m24
  obtain ⟨m27, m28⟩ := and_e m26
  obtain ⟨m29, m30⟩ := and_e m28
  obtain ⟨m31, m32⟩ := and_e m30
  obtain ⟨m33, m34⟩ := and_e m32
  obtain ⟨m35, m36⟩ := and_e m34
  obtain ⟨m37, m38⟩ := and_e m36
  obtain ⟨m39, m40⟩ := and_e m38
  obtain ⟨m41, m42⟩ := and_e m40
  obtain ⟨m43, m44⟩ := and_e m42
  obtain ⟨m45, m46⟩ := and_e m44
  obtain ⟨m47, m48⟩ := and_e m46
  obtain ⟨m49, m50⟩ := and_e m48
  obtain ⟨m51, m52⟩ := and_e m50
  obtain ⟨m53, m54⟩ := and_e m52
  obtain ⟨m55, m56⟩ := and_e m54
  obtain ⟨m57, m58⟩ := and_e m56
  obtain ⟨m59, m60⟩ := and_e m58
  obtain ⟨m61, m62⟩ := and_e m60
  obtain ⟨m63, m64⟩ := and_e m62
  obtain ⟨m65, m66⟩ := and_e m64
  obtain ⟨m67, m68⟩ := and_e m66
  obtain ⟨m69, m70⟩ := and_e m68
  obtain ⟨m71, m72⟩ := and_e m70
  obtain ⟨m73, m74⟩ := and_e m72
  obtain ⟨m75, m76⟩ := and_e m74
  obtain ⟨m77, m78⟩ := and_e m76
  obtain ⟨m79, m80⟩ := and_e m78
  obtain ⟨m81, m82⟩ := and_e m80
  obtain ⟨m83, m84⟩ := and_e m82
  obtain ⟨m85, m86⟩ := and_e m84
  obtain ⟨m87, m88⟩ := and_e m86
  obtain ⟨m89, m90⟩ := and_e m88
  obtain ⟨m91, m92⟩ := and_e m90
  obtain ⟨m93, m94⟩ := and_e m92
  obtain ⟨m95, m96⟩ := and_e m94
  obtain ⟨m97, m98⟩ := and_e m96
  obtain ⟨m99, m100⟩ := and_e m98
  obtain ⟨m101, m102⟩ := and_e m100
  obtain ⟨m103, m104⟩ := and_e m102
  obtain ⟨m105, m106⟩ := and_e m104
  obtain ⟨m107, m108⟩ := and_e m106
  obtain ⟨m109, m110⟩ := and_e m108
  obtain ⟨m111, m112⟩ := and_e m110
  obtain ⟨a_PRODUCE, va_PRODUCE⟩ := exa_v m1
  have Sa_PRODUCE := Sta.start va_PRODUCE (Or.inr ⟨(hw _ (List.mem_of_getElem? (i := 6) rfl)), (hw _ (List.mem_of_getElem? (i := 7) rfl))⟩)
  have Ea_PRODUCE := Exa.start va_PRODUCE m1
  obtain ⟨a_OFFSET_FOR_LEADER_EPOCH, va_OFFSET_FOR_LEADER_EPOCH⟩ := exa_v m7
  have Sa_OFFSET_FOR_LEADER_EPOCH := Sta.start va_OFFSET_FOR_LEADER_EPOCH (Or.inr ⟨(hw _ (List.mem_of_getElem? (i := 6) rfl)), (hw _ (List.mem_of_getElem? (i := 24) rfl))⟩)
  have Ea_OFFSET_FOR_LEADER_EPOCH := Exa.start va_OFFSET_FOR_LEADER_EPOCH m7
  obtain ⟨a_INIT_PRODUCER_ID, va_INIT_PRODUCER_ID⟩ := exa_v m11
  have Sa_INIT_PRODUCER_ID := Sta.start va_INIT_PRODUCER_ID (Or.inr ⟨(hw _ (List.mem_of_getElem? (i := 6) rfl)), (hw _ (List.mem_of_getElem? (i := 26) rfl))⟩)
  have Ea_INIT_PRODUCER_ID := Exa.start va_INIT_PRODUCER_ID m11
  obtain ⟨a_LIST_OFFSETS, va_LIST_OFFSETS⟩ := exa_v m17
  have Sa_LIST_OFFSETS := Sta.start va_LIST_OFFSETS (Or.inr ⟨(hw _ (List.mem_of_getElem? (i := 6) rfl)), (hw _ (List.mem_of_getElem? (i := 28) rfl))⟩)
  have Ea_LIST_OFFSETS := Exa.start va_LIST_OFFSETS m17
  obtain ⟨a_LEAVE_GROUP, va_LEAVE_GROUP⟩ := exa_v m21
  have Sa_LEAVE_GROUP := Sta.start va_LEAVE_GROUP (Or.inr ⟨(hw _ (List.mem_of_getElem? (i := 6) rfl)), (hw _ (List.mem_of_getElem? (i := 30) rfl))⟩)
  have Ea_LEAVE_GROUP := Exa.start va_LEAVE_GROUP m21
  obtain ⟨a_METADATA, va_METADATA⟩ := exa_v m27
  have Sa_METADATA := Sta.start va_METADATA (Or.inr ⟨(hw _ (List.mem_of_getElem? (i := 6) rfl)), (hw _ (List.mem_of_getElem? (i := 32) rfl))⟩)
  have Ea_METADATA := Exa.start va_METADATA m27
  obtain ⟨a_FIND_COORDINATOR, va_FIND_COORDINATOR⟩ := exa_v m33
  have Sa_FIND_COORDINATOR := Sta.start va_FIND_COORDINATOR (Or.inr ⟨(hw _ (List.mem_of_getElem? (i := 6) rfl)), (hw _ (List.mem_of_getElem? (i := 34) rfl))⟩)
  have Ea_FIND_COORDINATOR := Exa.start va_FIND_COORDINATOR m33
  obtain ⟨a_HEARTBEAT, va_HEARTBEAT⟩ := exa_v m39
  have Sa_HEARTBEAT := Sta.start va_HEARTBEAT (Or.inr ⟨(hw _ (List.mem_of_getElem? (i := 6) rfl)), (hw _ (List.mem_of_getElem? (i := 36) rfl))⟩)
  have Ea_HEARTBEAT := Exa.start va_HEARTBEAT m39
  obtain ⟨a_CREATE_TOPICS, va_CREATE_TOPICS⟩ := exa_v m43
  have Sa_CREATE_TOPICS := Sta.start va_CREATE_TOPICS (Or.inr ⟨(hw _ (List.mem_of_getElem? (i := 6) rfl)), (hw _ (List.mem_of_getElem? (i := 38) rfl))⟩)
  have Ea_CREATE_TOPICS := Exa.start va_CREATE_TOPICS m43
  obtain ⟨a_OFFSET_FETCH, va_OFFSET_FETCH⟩ := exa_v m49
  have Sa_OFFSET_FETCH := Sta.start va_OFFSET_FETCH (Or.inr ⟨(hw _ (List.mem_of_getElem? (i := 6) rfl)), (hw _ (List.mem_of_getElem? (i := 40) rfl))⟩)
  have Ea_OFFSET_FETCH := Exa.start va_OFFSET_FETCH m49
  obtain ⟨a_JOIN_GROUP, va_JOIN_GROUP⟩ := exa_v m55
  have Sa_JOIN_GROUP := Sta.start va_JOIN_GROUP (Or.inr ⟨(hw _ (List.mem_of_getElem? (i := 6) rfl)), (hw _ (List.mem_of_getElem? (i := 42) rfl))⟩)
  have Ea_JOIN_GROUP := Exa.start va_JOIN_GROUP m55
  obtain ⟨a_CLUSTER_STATE, va_CLUSTER_STATE⟩ := exa_v m61
  have Sa_CLUSTER_STATE := Sta.start va_CLUSTER_STATE (Or.inr ⟨(hw _ (List.mem_of_getElem? (i := 6) rfl)), (hw _ (List.mem_of_getElem? (i := 44) rfl))⟩)
  have Ea_CLUSTER_STATE := Exa.start va_CLUSTER_STATE m61
  obtain ⟨a_FETCH, va_FETCH⟩ := exa_v m67
  have Sa_FETCH := Sta.start va_FETCH (Or.inr ⟨(hw _ (List.mem_of_getElem? (i := 6) rfl)), (hw _ (List.mem_of_getElem? (i := 46) rfl))⟩)
  have Ea_FETCH := Exa.start va_FETCH m67
  obtain ⟨a_API_VERSIONS, va_API_VERSIONS⟩ := exa_v m73
  have Sa_API_VERSIONS := Sta.start va_API_VERSIONS (Or.inr ⟨(hw _ (List.mem_of_getElem? (i := 6) rfl)), (hw _ (List.mem_of_getElem? (i := 48) rfl))⟩)
  have Ea_API_VERSIONS := Exa.start va_API_VERSIONS m73
  obtain ⟨a_SYNC_GROUP, va_SYNC_GROUP⟩ := exa_v m83
  have Sa_SYNC_GROUP := Sta.start va_SYNC_GROUP (Or.inr ⟨(hw _ (List.mem_of_getElem? (i := 6) rfl)), (hw _ (List.mem_of_getElem? (i := 50) rfl))⟩)
  have Ea_SYNC_GROUP := Exa.start va_SYNC_GROUP m83
  obtain ⟨a_CREATE_PARTITIONS, va_CREATE_PARTITIONS⟩ := exa_v m89
  have Sa_CREATE_PARTITIONS := Sta.start va_CREATE_PARTITIONS (Or.inr ⟨(hw _ (List.mem_of_getElem? (i := 6) rfl)), (hw _ (List.mem_of_getElem? (i := 52) rfl))⟩)
  have Ea_CREATE_PARTITIONS := Exa.start va_CREATE_PARTITIONS m89
  obtain ⟨a_RESERVE_PRODUCER_IDS, va_RESERVE_PRODUCER_IDS⟩ := exa_v m95
  have Sa_RESERVE_PRODUCER_IDS := Sta.start va_RESERVE_PRODUCER_IDS (Or.inr ⟨(hw _ (List.mem_of_getElem? (i := 6) rfl)), (hw _ (List.mem_of_getElem? (i := 54) rfl))⟩)
  have Ea_RESERVE_PRODUCER_IDS := Exa.start va_RESERVE_PRODUCER_IDS m95
  obtain ⟨a_OFFSET_COMMIT, va_OFFSET_COMMIT⟩ := exa_v m101
  have Sa_OFFSET_COMMIT := Sta.start va_OFFSET_COMMIT (Or.inr ⟨(hw _ (List.mem_of_getElem? (i := 6) rfl)), (hw _ (List.mem_of_getElem? (i := 56) rfl))⟩)
  have Ea_OFFSET_COMMIT := Exa.start va_OFFSET_COMMIT m101
  obtain ⟨a_UPDATE_ISR, va_UPDATE_ISR⟩ := exa_v m107
  have Sa_UPDATE_ISR := Sta.start va_UPDATE_ISR (Or.inr ⟨(hw _ (List.mem_of_getElem? (i := 6) rfl)), (hw _ (List.mem_of_getElem? (i := 58) rfl))⟩)
  have Ea_UPDATE_ISR := Exa.start va_UPDATE_ISR m107
  have eFa_PRODUCE_minVersion := own_eqI m3
  rw [fld_at va_PRODUCE] at eFa_PRODUCE_minVersion
  have Fa_PRODUCE_minVersion := Fld.start eFa_PRODUCE_minVersion
  have eFa_PRODUCE_maxVersion := own_eqI m5
  rw [fld_at va_PRODUCE] at eFa_PRODUCE_maxVersion
  have Fa_PRODUCE_maxVersion := Fld.start eFa_PRODUCE_maxVersion
  have eFa_OFFSET_FOR_LEADER_EPOCH_minVersion := own_eqI m9
  rw [fld_at va_OFFSET_FOR_LEADER_EPOCH] at eFa_OFFSET_FOR_LEADER_EPOCH_minVersion
  have Fa_OFFSET_FOR_LEADER_EPOCH_minVersion := Fld.start eFa_OFFSET_FOR_LEADER_EPOCH_minVersion
  have eFa_INIT_PRODUCER_ID_minVersion := own_eqI m13
  rw [fld_at va_INIT_PRODUCER_ID] at eFa_INIT_PRODUCER_ID_minVersion
  have Fa_INIT_PRODUCER_ID_minVersion := Fld.start eFa_INIT_PRODUCER_ID_minVersion
  have eFa_INIT_PRODUCER_ID_maxVersion := own_eqI m15
  rw [fld_at va_INIT_PRODUCER_ID] at eFa_INIT_PRODUCER_ID_maxVersion
  have Fa_INIT_PRODUCER_ID_maxVersion := Fld.start eFa_INIT_PRODUCER_ID_maxVersion
  have eFa_LIST_OFFSETS_minVersion := own_eqI m19
  rw [fld_at va_LIST_OFFSETS] at eFa_LIST_OFFSETS_minVersion
  have Fa_LIST_OFFSETS_minVersion := Fld.start eFa_LIST_OFFSETS_minVersion
  have eFa_LEAVE_GROUP_minVersion := own_eqI m23
  rw [fld_at va_LEAVE_GROUP] at eFa_LEAVE_GROUP_minVersion
  have Fa_LEAVE_GROUP_minVersion := Fld.start eFa_LEAVE_GROUP_minVersion
  have eFa_LEAVE_GROUP_maxVersion := own_eqI m25
  rw [fld_at va_LEAVE_GROUP] at eFa_LEAVE_GROUP_maxVersion
  have Fa_LEAVE_GROUP_maxVersion := Fld.start eFa_LEAVE_GROUP_maxVersion
  have eFa_METADATA_minVersion := own_eqI m29
  rw [fld_at va_METADATA] at eFa_METADATA_minVersion
  have Fa_METADATA_minVersion := Fld.start eFa_METADATA_minVersion
  have eFa_METADATA_maxVersion := own_eqI m31
  rw [fld_at va_METADATA] at eFa_METADATA_maxVersion
  have Fa_METADATA_maxVersion := Fld.start eFa_METADATA_maxVersion
  have eFa_FIND_COORDINATOR_minVersion := own_eqI m35
  rw [fld_at va_FIND_COORDINATOR] at eFa_FIND_COORDINATOR_minVersion
  have Fa_FIND_COORDINATOR_minVersion := Fld.start eFa_FIND_COORDINATOR_minVersion
  have eFa_FIND_COORDINATOR_maxVersion := own_eqI m37
  rw [fld_at va_FIND_COORDINATOR] at eFa_FIND_COORDINATOR_maxVersion
  have Fa_FIND_COORDINATOR_maxVersion := Fld.start eFa_FIND_COORDINATOR_maxVersion
  have eFa_HEARTBEAT_minVersion := own_eqI m41
  rw [fld_at va_HEARTBEAT] at eFa_HEARTBEAT_minVersion
  have Fa_HEARTBEAT_minVersion := Fld.start eFa_HEARTBEAT_minVersion
  have eFa_CREATE_TOPICS_minVersion := own_eqI m45
  rw [fld_at va_CREATE_TOPICS] at eFa_CREATE_TOPICS_minVersion
  have Fa_CREATE_TOPICS_minVersion := Fld.start eFa_CREATE_TOPICS_minVersion
  have eFa_CREATE_TOPICS_maxVersion := own_eqI m47
  rw [fld_at va_CREATE_TOPICS] at eFa_CREATE_TOPICS_maxVersion
  have Fa_CREATE_TOPICS_maxVersion := Fld.start eFa_CREATE_TOPICS_maxVersion
  have eFa_OFFSET_FETCH_minVersion := own_eqI m51
  rw [fld_at va_OFFSET_FETCH] at eFa_OFFSET_FETCH_minVersion
  have Fa_OFFSET_FETCH_minVersion := Fld.start eFa_OFFSET_FETCH_minVersion
  have eFa_OFFSET_FETCH_maxVersion := own_eqI m53
  rw [fld_at va_OFFSET_FETCH] at eFa_OFFSET_FETCH_maxVersion
  have Fa_OFFSET_FETCH_maxVersion := Fld.start eFa_OFFSET_FETCH_maxVersion
  have eFa_JOIN_GROUP_minVersion := own_eqI m57
  rw [fld_at va_JOIN_GROUP] at eFa_JOIN_GROUP_minVersion
  have Fa_JOIN_GROUP_minVersion := Fld.start eFa_JOIN_GROUP_minVersion
  have eFa_HEARTBEAT_maxVersion := own_eqI m59
  rw [fld_at va_HEARTBEAT] at eFa_HEARTBEAT_maxVersion
  have Fa_HEARTBEAT_maxVersion := Fld.start eFa_HEARTBEAT_maxVersion
  have eFa_CLUSTER_STATE_minVersion := own_eqI m63
  rw [fld_at va_CLUSTER_STATE] at eFa_CLUSTER_STATE_minVersion
  have Fa_CLUSTER_STATE_minVersion := Fld.start eFa_CLUSTER_STATE_minVersion
  have eFa_CLUSTER_STATE_maxVersion := own_eqI m65
  rw [fld_at va_CLUSTER_STATE] at eFa_CLUSTER_STATE_maxVersion
  have Fa_CLUSTER_STATE_maxVersion := Fld.start eFa_CLUSTER_STATE_maxVersion
  have eFa_FETCH_minVersion := own_eqI m69
  rw [fld_at va_FETCH] at eFa_FETCH_minVersion
  have Fa_FETCH_minVersion := Fld.start eFa_FETCH_minVersion
  have eFa_LIST_OFFSETS_maxVersion := own_eqI m71
  rw [fld_at va_LIST_OFFSETS] at eFa_LIST_OFFSETS_maxVersion
  have Fa_LIST_OFFSETS_maxVersion := Fld.start eFa_LIST_OFFSETS_maxVersion
  have eFa_API_VERSIONS_minVersion := own_eqI m75
  rw [fld_at va_API_VERSIONS] at eFa_API_VERSIONS_minVersion
  have Fa_API_VERSIONS_minVersion := Fld.start eFa_API_VERSIONS_minVersion
  have eFa_API_VERSIONS_maxVersion := own_eqI m77
  rw [fld_at va_API_VERSIONS] at eFa_API_VERSIONS_maxVersion
  have Fa_API_VERSIONS_maxVersion := Fld.start eFa_API_VERSIONS_maxVersion
  have eFa_OFFSET_FOR_LEADER_EPOCH_maxVersion := own_eqI m79
  rw [fld_at va_OFFSET_FOR_LEADER_EPOCH] at eFa_OFFSET_FOR_LEADER_EPOCH_maxVersion
  have Fa_OFFSET_FOR_LEADER_EPOCH_maxVersion := Fld.start eFa_OFFSET_FOR_LEADER_EPOCH_maxVersion
  have eFa_FETCH_maxVersion := own_eqI m81
  rw [fld_at va_FETCH] at eFa_FETCH_maxVersion
  have Fa_FETCH_maxVersion := Fld.start eFa_FETCH_maxVersion
  have eFa_SYNC_GROUP_minVersion := own_eqI m85
  rw [fld_at va_SYNC_GROUP] at eFa_SYNC_GROUP_minVersion
  have Fa_SYNC_GROUP_minVersion := Fld.start eFa_SYNC_GROUP_minVersion
  have eFa_SYNC_GROUP_maxVersion := own_eqI m87
  rw [fld_at va_SYNC_GROUP] at eFa_SYNC_GROUP_maxVersion
  have Fa_SYNC_GROUP_maxVersion := Fld.start eFa_SYNC_GROUP_maxVersion
  have eFa_CREATE_PARTITIONS_minVersion := own_eqI m91
  rw [fld_at va_CREATE_PARTITIONS] at eFa_CREATE_PARTITIONS_minVersion
  have Fa_CREATE_PARTITIONS_minVersion := Fld.start eFa_CREATE_PARTITIONS_minVersion
  have eFa_CREATE_PARTITIONS_maxVersion := own_eqI m93
  rw [fld_at va_CREATE_PARTITIONS] at eFa_CREATE_PARTITIONS_maxVersion
  have Fa_CREATE_PARTITIONS_maxVersion := Fld.start eFa_CREATE_PARTITIONS_maxVersion
  have eFa_RESERVE_PRODUCER_IDS_minVersion := own_eqI m97
  rw [fld_at va_RESERVE_PRODUCER_IDS] at eFa_RESERVE_PRODUCER_IDS_minVersion
  have Fa_RESERVE_PRODUCER_IDS_minVersion := Fld.start eFa_RESERVE_PRODUCER_IDS_minVersion
  have eFa_JOIN_GROUP_maxVersion := own_eqI m99
  rw [fld_at va_JOIN_GROUP] at eFa_JOIN_GROUP_maxVersion
  have Fa_JOIN_GROUP_maxVersion := Fld.start eFa_JOIN_GROUP_maxVersion
  have eFa_OFFSET_COMMIT_minVersion := own_eqI m103
  rw [fld_at va_OFFSET_COMMIT] at eFa_OFFSET_COMMIT_minVersion
  have Fa_OFFSET_COMMIT_minVersion := Fld.start eFa_OFFSET_COMMIT_minVersion
  have eFa_OFFSET_COMMIT_maxVersion := own_eqI m105
  rw [fld_at va_OFFSET_COMMIT] at eFa_OFFSET_COMMIT_maxVersion
  have Fa_OFFSET_COMMIT_maxVersion := Fld.start eFa_OFFSET_COMMIT_maxVersion
  have eFa_UPDATE_ISR_minVersion := own_eqI m109
  rw [fld_at va_UPDATE_ISR] at eFa_UPDATE_ISR_minVersion
  have Fa_UPDATE_ISR_minVersion := Fld.start eFa_UPDATE_ISR_minVersion
  have eFa_RESERVE_PRODUCER_IDS_maxVersion := own_eqI m111
  rw [fld_at va_RESERVE_PRODUCER_IDS] at eFa_RESERVE_PRODUCER_IDS_maxVersion
  have Fa_RESERVE_PRODUCER_IDS_maxVersion := Fld.start eFa_RESERVE_PRODUCER_IDS_maxVersion
  have eFa_UPDATE_ISR_maxVersion := own_eqI m112
  rw [fld_at va_UPDATE_ISR] at eFa_UPDATE_ISR_maxVersion
  have Fa_UPDATE_ISR_maxVersion := Fld.start eFa_UPDATE_ISR_maxVersion
  obtain ⟨n, o, h1, h2, h3, _, L, rfl, ⟨rfl, N⟩, hq⟩ := rm0 l s _ hw tables_1 i0 i1  s.heap s.heap.size (Nat.le_refl _) ⟨a_PRODUCE, Sa_PRODUCE, Ea_PRODUCE, Fa_PRODUCE_minVersion, Fa_PRODUCE_maxVersion⟩ ⟨a_FETCH, Sa_FETCH, Ea_FETCH, Fa_FETCH_minVersion, Fa_FETCH_maxVersion⟩ ⟨a_LIST_OFFSETS, Sa_LIST_OFFSETS, Ea_LIST_OFFSETS, Fa_LIST_OFFSETS_minVersion, Fa_LIST_OFFSETS_maxVersion⟩ ⟨a_METADATA, Sa_METADATA, Ea_METADATA, Fa_METADATA_minVersion, Fa_METADATA_maxVersion⟩ ⟨a_OFFSET_COMMIT, Sa_OFFSET_COMMIT, Ea_OFFSET_COMMIT, Fa_OFFSET_COMMIT_minVersion, Fa_OFFSET_COMMIT_maxVersion⟩ ⟨a_OFFSET_FETCH, Sa_OFFSET_FETCH, Ea_OFFSET_FETCH, Fa_OFFSET_FETCH_minVersion, Fa_OFFSET_FETCH_maxVersion⟩ ⟨a_FIND_COORDINATOR, Sa_FIND_COORDINATOR, Ea_FIND_COORDINATOR, Fa_FIND_COORDINATOR_minVersion, Fa_FIND_COORDINATOR_maxVersion⟩ ⟨a_JOIN_GROUP, Sa_JOIN_GROUP, Ea_JOIN_GROUP, Fa_JOIN_GROUP_minVersion, Fa_JOIN_GROUP_maxVersion⟩ ⟨a_HEARTBEAT, Sa_HEARTBEAT, Ea_HEARTBEAT, Fa_HEARTBEAT_minVersion, Fa_HEARTBEAT_maxVersion⟩ ⟨a_LEAVE_GROUP, Sa_LEAVE_GROUP, Ea_LEAVE_GROUP, Fa_LEAVE_GROUP_minVersion, Fa_LEAVE_GROUP_maxVersion⟩ ⟨a_SYNC_GROUP, Sa_SYNC_GROUP, Ea_SYNC_GROUP, Fa_SYNC_GROUP_minVersion, Fa_SYNC_GROUP_maxVersion⟩ ⟨a_API_VERSIONS, Sa_API_VERSIONS, Ea_API_VERSIONS, Fa_API_VERSIONS_minVersion, Fa_API_VERSIONS_maxVersion⟩ ⟨a_CREATE_TOPICS, Sa_CREATE_TOPICS, Ea_CREATE_TOPICS, Fa_CREATE_TOPICS_minVersion, Fa_CREATE_TOPICS_maxVersion⟩ ⟨a_INIT_PRODUCER_ID, Sa_INIT_PRODUCER_ID, Ea_INIT_PRODUCER_ID, Fa_INIT_PRODUCER_ID_minVersion, Fa_INIT_PRODUCER_ID_maxVersion⟩ ⟨a_OFFSET_FOR_LEADER_EPOCH, Sa_OFFSET_FOR_LEADER_EPOCH, Ea_OFFSET_FOR_LEADER_EPOCH, Fa_OFFSET_FOR_LEADER_EPOCH_minVersion, Fa_OFFSET_FOR_LEADER_EPOCH_maxVersion⟩ ⟨a_CREATE_PARTITIONS, Sa_CREATE_PARTITIONS, Ea_CREATE_PARTITIONS, Fa_CREATE_PARTITIONS_minVersion, Fa_CREATE_PARTITIONS_maxVersion⟩ ⟨a_CLUSTER_STATE, Sa_CLUSTER_STATE, Ea_CLUSTER_STATE, Fa_CLUSTER_STATE_minVersion, Fa_CLUSTER_STATE_maxVersion⟩ ⟨a_UPDATE_ISR, Sa_UPDATE_ISR, Ea_UPDATE_ISR, Fa_UPDATE_ISR_minVersion, Fa_UPDATE_ISR_maxVersion⟩ ⟨a_RESERVE_PRODUCER_IDS, Sa_RESERVE_PRODUCER_IDS, Ea_RESERVE_PRODUCER_IDS, Fa_RESERVE_PRODUCER_IDS_minVersion, Fa_RESERVE_PRODUCER_IDS_maxVersion⟩ p e ha hc hk s m _ below hf ((Spec.applies_iff_loose hf).mp happ).1 ⟨rfl, State.Warmed39.refl s, rfl⟩ trivial
  refine ⟨n, _, h1, h2, h3, hpost _ _ _ _ _ _ ⟨Cond.after_iff.mpr rfl, Cond.after_iff.mpr (eq_i res_at (Term.int_eval (1)) rfl), trivial⟩ ⟨hq.1, hq.2.1, (hq.2.2.sift fun y hy => Or.inr (N y hy)).mono (by decide) (by decide)⟩⟩
theorem main_1_1 : Claimed_1_1 := comes_1 fun _ _ _ _ _ _ h hF => ⟨h.1, hF⟩
theorem main_1_2 : Claimed_1_2 := comes_1 fun _ _ _ _ _ _ h hF => ⟨h.2.1, hF⟩
end Jvm.Pilot.@@N@@
namespace Jvm.Pilot.@@N@@
open Jvm Jvm.ClassFile Sem Op Lib Jvm.Free Jvm.Stand Jvm.Pilot.@@N@@.Jvm.D
/-! MADE BY PROGRAM (witnessworld.py) out of the Statement's table words and the real class files: 12 classes; the members and pool entries that the words name. The judged class is class 1, her method 1. -/
namespace start1
open Jvm.ClassFile
def u (s : String) : CpInfo := .utf8 (stringToUtf16 s)
/-- a pool by its gaps: so many unusable entries, then the entry; so many at the end -/
def gap : Nat → List CpInfo → List CpInfo
  | 0, r => r
  | n + 1, r => .unusable :: gap n r
def poolList (es : List (Nat × CpInfo)) (last : Nat) : List CpInfo := es.foldr (fun e r => gap e.1 (e.2 :: r)) (gap last [])
def pool (es : List (Nat × CpInfo)) (last : Nat) : Array CpInfo := ⟨poolList es last⟩
def fileOf (pool : Array CpInfo) (this : Nat) (attrs : Array Attribute := #[]) (ms : Array MethodInfo := #[]) (fl : Nat := 33) (sup : Nat := 0) (ifs : Array Nat := #[]) (fds : Array FieldInfo := #[]) : ClassFile where
  minorVersion := 0
  majorVersion := 65
  constantPool := pool
  accessFlags := fl
  thisClass := this
  superClass := sup
  interfaces := ifs
  fields := fds
  methods := ms
  attributes := attrs
def plain (name : String) (sup : Option ClassId) : Class where
  name := name
  kind := .ordinary
  loader := none
  accessFlags := 33
  super := sup
  interfaces := #[]
  cf := none
  fields := #[]
  methods := #[]
  instanceTypes := #[]
  staticTypes := #[]
  resolved := #[]
  callSites := []
  init := .initialized
  statics := none
  mirror := none

def pool0 : Array CpInfo := pool [(5, u "<init>"), (0, u "()V"), (1, .class_ 10), (1, u "java/lang/Object")] 113

def k0m0 : Method := { name := "<init>", desc := "()V", sig := { parameters := [], returnType := none }, accessFlags := 1, code := none }
/-- java/lang/Object -/
def k0 : Class := { plain "java/lang/Object" none with
  accessFlags := 33
  interfaces := #[]
  cf := some (fileOf pool0 8 #[] #[{ accessFlags := 1, nameIndex := 5, descriptorIndex := 6, attributes := #[] }] 33 0 #[] #[])
  fields := #[]
  methods := #[k0m0]
  instanceTypes := #[]
  staticTypes := #[]
  resolved := Array.replicate 124 none
  statics := none }

def pool1 : Array CpInfo := pool [(2, .class_ 4), (1, u "java/lang/Object"), (0, u "<init>"), (0, u "()V"), (0, .integer 2147483647), (0, .methodref 9 10), (0, .class_ 11), (0, .nameAndType 12 13), (0, u "com/example/wasserstand/wasserstand/protocol/ApiKeySupportsPinLaw"), (0, u "key"), (0, u "(I)Lcom/example/wasserstand/wasserstand/protocol/ApiKey;"), (0, .methodref 9 15), (0, .nameAndType 16 17), (0, u "lo"), (0, u "(I)I"), (0, .methodref 9 19), (0, .nameAndType 20 17), (0, u "hi"), (0, .methodref 22 23), (0, .class_ 24), (0, .nameAndType 25 26), (0, u "com/example/wasserstand/wasserstand/protocol/ApiKey"), (0, u "supports"), (0, u "(S)Z"), (0, .fieldref 22 28), (0, .nameAndType 29 30), (0, u "PRODUCE"), (0, u "Lcom/example/wasserstand/wasserstand/protocol/ApiKey;"), (0, .fieldref 22 32), (0, .nameAndType 33 30), (0, u "FETCH"), (0, .fieldref 22 35), (0, .nameAndType 36 30), (0, u "LIST_OFFSETS"), (0, .fieldref 22 38), (0, .nameAndType 39 30), (0, u "METADATA"), (0, .fieldref 22 41), (0, .nameAndType 42 30), (0, u "OFFSET_COMMIT"), (0, .fieldref 22 44), (0, .nameAndType 45 30), (0, u "OFFSET_FETCH"), (0, .fieldref 22 47), (0, .nameAndType 48 30), (0, u "FIND_COORDINATOR"), (0, .fieldref 22 50), (0, .nameAndType 51 30), (0, u "JOIN_GROUP"), (0, .fieldref 22 53), (0, .nameAndType 54 30), (0, u "HEARTBEAT"), (0, .fieldref 22 56), (0, .nameAndType 57 30), (0, u "LEAVE_GROUP"), (0, .fieldref 22 59), (0, .nameAndType 60 30), (0, u "SYNC_GROUP"), (0, .fieldref 22 62), (0, .nameAndType 63 30), (0, u "API_VERSIONS"), (0, .fieldref 22 65), (0, .nameAndType 66 30), (0, u "CREATE_TOPICS"), (0, .fieldref 22 68), (0, .nameAndType 69 30), (0, u "INIT_PRODUCER_ID"), (0, .fieldref 22 71), (0, .nameAndType 72 30), (0, u "OFFSET_FOR_LEADER_EPOCH"), (0, .fieldref 22 74), (0, .nameAndType 75 30), (0, u "CREATE_PARTITIONS"), (0, .fieldref 22 77), (0, .nameAndType 78 30), (0, u "CLUSTER_STATE"), (0, .fieldref 22 80), (0, .nameAndType 81 30), (0, u "UPDATE_ISR"), (0, .fieldref 22 83), (0, .nameAndType 84 30), (0, u "RESERVE_PRODUCER_IDS"), (2, u "law"), (0, u "(II)Z")] 3

def k1m0 : Method := { name := "<init>", desc := "()V", sig := { parameters := [], returnType := none }, accessFlags := 1, code := none }
def k1c1 : Code := { maxStack := 2, maxLocals := 8, code := code, exceptionTable := #[], attributes := #[] }
def k1m1 : Method := { name := "law", desc := "(II)Z", sig := { parameters := [.int, .int], returnType := some .boolean }, accessFlags := 9, code := some k1c1 }
def k1c2 : Code := { maxStack := 2, maxLocals := 1, code := method_3_code, exceptionTable := #[], attributes := #[] }
def k1m2 : Method := { name := "key", desc := "(I)Lcom/example/wasserstand/wasserstand/protocol/ApiKey;", sig := { parameters := [.int], returnType := some (.object "com/example/wasserstand/wasserstand/protocol/ApiKey") }, accessFlags := 10, code := some k1c2 }
def k1c3 : Code := { maxStack := 2, maxLocals := 1, code := method_4_code, exceptionTable := #[], attributes := #[] }
def k1m3 : Method := { name := "lo", desc := "(I)I", sig := { parameters := [.int], returnType := some .int }, accessFlags := 10, code := some k1c3 }
def k1c4 : Code := { maxStack := 2, maxLocals := 1, code := method_5_code, exceptionTable := #[], attributes := #[] }
def k1m4 : Method := { name := "hi", desc := "(I)I", sig := { parameters := [.int], returnType := some .int }, accessFlags := 10, code := some k1c4 }
/-- com/example/wasserstand/wasserstand/protocol/ApiKeySupportsPinLaw -/
def k1 : Class := { plain "com/example/wasserstand/wasserstand/protocol/ApiKeySupportsPinLaw" (some 0) with
  accessFlags := 49
  interfaces := #[]
  cf := some (fileOf pool1 9 #[] #[{ accessFlags := 1, nameIndex := 5, descriptorIndex := 6, attributes := #[] }, { accessFlags := 9, nameIndex := 87, descriptorIndex := 88, attributes := #[] }, { accessFlags := 10, nameIndex := 12, descriptorIndex := 13, attributes := #[] }, { accessFlags := 10, nameIndex := 16, descriptorIndex := 17, attributes := #[] }, { accessFlags := 10, nameIndex := 20, descriptorIndex := 17, attributes := #[] }] 49 2 #[] #[])
  fields := #[]
  methods := #[k1m0, k1m1, k1m2, k1m3, k1m4]
  instanceTypes := #[]
  staticTypes := #[]
  resolved := Array.replicate 92 none
  statics := none }

def pool2 : Array CpInfo := pool [(1, .class_ 2), (0, u "java/lang/constant/Constable"), (0, .class_ 4), (0, u "java/lang/Object")] 6

/-- java/lang/constant/Constable -/
def k2 : Class := { plain "java/lang/constant/Constable" (some 0) with
  accessFlags := 1537
  interfaces := #[]
  cf := some (fileOf pool2 1 #[] #[] 1537 3 #[] #[])
  fields := #[]
  methods := #[]
  instanceTypes := #[]
  staticTypes := #[]
  resolved := Array.replicate 11 none
  statics := none }

def pool3 : Array CpInfo := pool [(1, .class_ 2), (0, u "java/lang/Comparable"), (0, .class_ 4), (0, u "java/lang/Object")] 7

/-- java/lang/Comparable -/
def k3 : Class := { plain "java/lang/Comparable" (some 0) with
  accessFlags := 1537
  interfaces := #[]
  cf := some (fileOf pool3 1 #[] #[] 1537 3 #[] #[])
  fields := #[]
  methods := #[]
  instanceTypes := #[]
  staticTypes := #[]
  resolved := Array.replicate 12 none
  statics := none }

def pool4 : Array CpInfo := pool [(1, .class_ 2), (0, u "java/io/Serializable"), (0, .class_ 4), (0, u "java/lang/Object")] 2

/-- java/io/Serializable -/
def k4 : Class := { plain "java/io/Serializable" (some 0) with
  accessFlags := 1537
  interfaces := #[]
  cf := some (fileOf pool4 1 #[] #[] 1537 3 #[] #[])
  fields := #[]
  methods := #[]
  instanceTypes := #[]
  staticTypes := #[]
  resolved := Array.replicate 7 none
  statics := none }

def pool5 : Array CpInfo := pool [(2, .class_ 4), (1, u "java/lang/Enum"), (0, u "name"), (0, u "Ljava/lang/String;"), (2, u "ordinal"), (0, u "I"), (1, .class_ 14), (1, u "java/lang/Object"), (4, u "hash"), (86, .class_ 108), (1, u "java/lang/Enum$EnumDesc"), (2, .class_ 112), (0, u "java/lang/constant/Constable"), (0, .class_ 114), (0, u "java/lang/Comparable"), (0, .class_ 116), (0, u "java/io/Serializable")] 87

/-- java/lang/Enum -/
def k5 : Class := { plain "java/lang/Enum" (some 0) with
  accessFlags := 1057
  interfaces := #[2, 3, 4]
  cf := some (fileOf pool5 2 #[.nestMembers #[106]] #[] 1057 12 #[111, 113, 115] #[{ accessFlags := 18, nameIndex := 5, descriptorIndex := 6, attributes := #[] }, { accessFlags := 18, nameIndex := 9, descriptorIndex := 10, attributes := #[] }, { accessFlags := 2, nameIndex := 19, descriptorIndex := 10, attributes := #[] }])
  fields := #[{ name := "name", type := (.object "java/lang/String"), accessFlags := 18, slot := 0, constantValue := 0 }, { name := "ordinal", type := .int, accessFlags := 18, slot := 1, constantValue := 0 }, { name := "hash", type := .int, accessFlags := 2, slot := 2, constantValue := 0 }]
  methods := #[]
  instanceTypes := #[(.object "java/lang/String"), .int, .int]
  staticTypes := #[]
  resolved := Array.replicate 204 none
  statics := none }

def pool6 : Array CpInfo := pool [(1, .class_ 2), (0, u "com/example/wasserstand/wasserstand/protocol/ApiKey"), (2, u "PRODUCE"), (0, u "Lcom/example/wasserstand/wasserstand/protocol/ApiKey;"), (2, u "FETCH"), (2, u "LIST_OFFSETS"), (2, u "METADATA"), (2, u "OFFSET_COMMIT"), (2, u "OFFSET_FETCH"), (2, u "FIND_COORDINATOR"), (2, u "JOIN_GROUP"), (2, u "HEARTBEAT"), (2, u "LEAVE_GROUP"), (2, u "SYNC_GROUP"), (2, u "API_VERSIONS"), (2, u "CREATE_TOPICS"), (2, u "INIT_PRODUCER_ID"), (2, u "OFFSET_FOR_LEADER_EPOCH"), (2, u "CREATE_PARTITIONS"), (2, u "CLUSTER_STATE"), (2, u "UPDATE_ISR"), (2, u "RESERVE_PRODUCER_IDS"), (2, u "$VALUES"), (0, u "[Lcom/example/wasserstand/wasserstand/protocol/ApiKey;"), (6, .class_ 73), (1, u "java/lang/Enum"), (8, u "code"), (0, u "S"), (0, .fieldref 1 85), (0, .nameAndType 86 83), (0, u "minVersion"), (0, .fieldref 1 88), (0, .nameAndType 89 83), (0, u "maxVersion"), (8, u "listeners"), (0, u "Ljava/util/Set;"), (22, u "supports"), (0, u "(S)Z"), (68, .class_ 193), (0, u "com/example/wasserstand/wasserstand/protocol/ApiKey$Listener")] 65

def k6c0 : Code := { maxStack := 2, maxLocals := 2, code := prog_189_method_10_code, exceptionTable := #[], attributes := #[] }
def k6m0 : Method := { name := "supports", desc := "(S)Z", sig := { parameters := [.short], returnType := some .boolean }, accessFlags := 1, code := some k6c0 }
/-- com/example/wasserstand/wasserstand/protocol/ApiKey -/
def k6 : Class := { plain "com/example/wasserstand/wasserstand/protocol/ApiKey" (some 5) with
  accessFlags := 16433
  interfaces := #[]
  cf := some (fileOf pool6 1 #[.nestMembers #[192]] #[{ accessFlags := 1, nameIndex := 122, descriptorIndex := 123, attributes := #[] }] 16433 71 #[] #[{ accessFlags := 16409, nameIndex := 5, descriptorIndex := 6, attributes := #[] }, { accessFlags := 16409, nameIndex := 9, descriptorIndex := 6, attributes := #[] }, { accessFlags := 16409, nameIndex := 12, descriptorIndex := 6, attributes := #[] }, { accessFlags := 16409, nameIndex := 15, descriptorIndex := 6, attributes := #[] }, { accessFlags := 16409, nameIndex := 18, descriptorIndex := 6, attributes := #[] }, { accessFlags := 16409, nameIndex := 21, descriptorIndex := 6, attributes := #[] }, { accessFlags := 16409, nameIndex := 24, descriptorIndex := 6, attributes := #[] }, { accessFlags := 16409, nameIndex := 27, descriptorIndex := 6, attributes := #[] }, { accessFlags := 16409, nameIndex := 30, descriptorIndex := 6, attributes := #[] }, { accessFlags := 16409, nameIndex := 33, descriptorIndex := 6, attributes := #[] }, { accessFlags := 16409, nameIndex := 36, descriptorIndex := 6, attributes := #[] }, { accessFlags := 16409, nameIndex := 39, descriptorIndex := 6, attributes := #[] }, { accessFlags := 16409, nameIndex := 42, descriptorIndex := 6, attributes := #[] }, { accessFlags := 16409, nameIndex := 45, descriptorIndex := 6, attributes := #[] }, { accessFlags := 16409, nameIndex := 48, descriptorIndex := 6, attributes := #[] }, { accessFlags := 16409, nameIndex := 51, descriptorIndex := 6, attributes := #[] }, { accessFlags := 16409, nameIndex := 54, descriptorIndex := 6, attributes := #[] }, { accessFlags := 16409, nameIndex := 57, descriptorIndex := 6, attributes := #[] }, { accessFlags := 16409, nameIndex := 60, descriptorIndex := 6, attributes := #[] }, { accessFlags := 18, nameIndex := 82, descriptorIndex := 83, attributes := #[] }, { accessFlags := 18, nameIndex := 86, descriptorIndex := 83, attributes := #[] }, { accessFlags := 18, nameIndex := 89, descriptorIndex := 83, attributes := #[] }, { accessFlags := 18, nameIndex := 98, descriptorIndex := 99, attributes := #[] }, { accessFlags := 4122, nameIndex := 63, descriptorIndex := 64, attributes := #[] }])
  fields := #[{ name := "PRODUCE", type := (.object "com/example/wasserstand/wasserstand/protocol/ApiKey"), accessFlags := 16409, slot := 0, constantValue := 0 }, { name := "FETCH", type := (.object "com/example/wasserstand/wasserstand/protocol/ApiKey"), accessFlags := 16409, slot := 1, constantValue := 0 }, { name := "LIST_OFFSETS", type := (.object "com/example/wasserstand/wasserstand/protocol/ApiKey"), accessFlags := 16409, slot := 2, constantValue := 0 }, { name := "METADATA", type := (.object "com/example/wasserstand/wasserstand/protocol/ApiKey"), accessFlags := 16409, slot := 3, constantValue := 0 }, { name := "OFFSET_COMMIT", type := (.object "com/example/wasserstand/wasserstand/protocol/ApiKey"), accessFlags := 16409, slot := 4, constantValue := 0 }, { name := "OFFSET_FETCH", type := (.object "com/example/wasserstand/wasserstand/protocol/ApiKey"), accessFlags := 16409, slot := 5, constantValue := 0 }, { name := "FIND_COORDINATOR", type := (.object "com/example/wasserstand/wasserstand/protocol/ApiKey"), accessFlags := 16409, slot := 6, constantValue := 0 }, { name := "JOIN_GROUP", type := (.object "com/example/wasserstand/wasserstand/protocol/ApiKey"), accessFlags := 16409, slot := 7, constantValue := 0 }, { name := "HEARTBEAT", type := (.object "com/example/wasserstand/wasserstand/protocol/ApiKey"), accessFlags := 16409, slot := 8, constantValue := 0 }, { name := "LEAVE_GROUP", type := (.object "com/example/wasserstand/wasserstand/protocol/ApiKey"), accessFlags := 16409, slot := 9, constantValue := 0 }, { name := "SYNC_GROUP", type := (.object "com/example/wasserstand/wasserstand/protocol/ApiKey"), accessFlags := 16409, slot := 10, constantValue := 0 }, { name := "API_VERSIONS", type := (.object "com/example/wasserstand/wasserstand/protocol/ApiKey"), accessFlags := 16409, slot := 11, constantValue := 0 }, { name := "CREATE_TOPICS", type := (.object "com/example/wasserstand/wasserstand/protocol/ApiKey"), accessFlags := 16409, slot := 12, constantValue := 0 }, { name := "INIT_PRODUCER_ID", type := (.object "com/example/wasserstand/wasserstand/protocol/ApiKey"), accessFlags := 16409, slot := 13, constantValue := 0 }, { name := "OFFSET_FOR_LEADER_EPOCH", type := (.object "com/example/wasserstand/wasserstand/protocol/ApiKey"), accessFlags := 16409, slot := 14, constantValue := 0 }, { name := "CREATE_PARTITIONS", type := (.object "com/example/wasserstand/wasserstand/protocol/ApiKey"), accessFlags := 16409, slot := 15, constantValue := 0 }, { name := "CLUSTER_STATE", type := (.object "com/example/wasserstand/wasserstand/protocol/ApiKey"), accessFlags := 16409, slot := 16, constantValue := 0 }, { name := "UPDATE_ISR", type := (.object "com/example/wasserstand/wasserstand/protocol/ApiKey"), accessFlags := 16409, slot := 17, constantValue := 0 }, { name := "RESERVE_PRODUCER_IDS", type := (.object "com/example/wasserstand/wasserstand/protocol/ApiKey"), accessFlags := 16409, slot := 18, constantValue := 0 }, { name := "code", type := .short, accessFlags := 18, slot := 3, constantValue := 0 }, { name := "minVersion", type := .short, accessFlags := 18, slot := 4, constantValue := 0 }, { name := "maxVersion", type := .short, accessFlags := 18, slot := 5, constantValue := 0 }, { name := "listeners", type := (.object "java/util/Set"), accessFlags := 18, slot := 6, constantValue := 0 }, { name := "$VALUES", type := (.array (.object "com/example/wasserstand/wasserstand/protocol/ApiKey")), accessFlags := 4122, slot := 19, constantValue := 0 }]
  methods := #[k6m0]
  instanceTypes := #[(.object "java/lang/String"), .int, .int, .short, .short, .short, (.object "java/util/Set")]
  staticTypes := #[(.object "com/example/wasserstand/wasserstand/protocol/ApiKey"), (.object "com/example/wasserstand/wasserstand/protocol/ApiKey"), (.object "com/example/wasserstand/wasserstand/protocol/ApiKey"), (.object "com/example/wasserstand/wasserstand/protocol/ApiKey"), (.object "com/example/wasserstand/wasserstand/protocol/ApiKey"), (.object "com/example/wasserstand/wasserstand/protocol/ApiKey"), (.object "com/example/wasserstand/wasserstand/protocol/ApiKey"), (.object "com/example/wasserstand/wasserstand/protocol/ApiKey"), (.object "com/example/wasserstand/wasserstand/protocol/ApiKey"), (.object "com/example/wasserstand/wasserstand/protocol/ApiKey"), (.object "com/example/wasserstand/wasserstand/protocol/ApiKey"), (.object "com/example/wasserstand/wasserstand/protocol/ApiKey"), (.object "com/example/wasserstand/wasserstand/protocol/ApiKey"), (.object "com/example/wasserstand/wasserstand/protocol/ApiKey"), (.object "com/example/wasserstand/wasserstand/protocol/ApiKey"), (.object "com/example/wasserstand/wasserstand/protocol/ApiKey"), (.object "com/example/wasserstand/wasserstand/protocol/ApiKey"), (.object "com/example/wasserstand/wasserstand/protocol/ApiKey"), (.object "com/example/wasserstand/wasserstand/protocol/ApiKey"), (.array (.object "com/example/wasserstand/wasserstand/protocol/ApiKey"))]
  resolved := Array.replicate 259 none
  statics := some 0 }

def pool7 : Array CpInfo := pool [(1, u "java/lang/Cloneable"), (0, .class_ 1), (0, u "java/lang/Object"), (0, .class_ 3)] 3

/-- java/lang/Cloneable -/
def k7 : Class := { plain "java/lang/Cloneable" (some 0) with
  accessFlags := 1537
  interfaces := #[]
  cf := some (fileOf pool7 2 #[] #[] 1537 4 #[] #[])
  fields := #[]
  methods := #[]
  instanceTypes := #[]
  staticTypes := #[]
  resolved := Array.replicate 8 none
  statics := none }

/-- the primitive byte -/
def k8 : Class := { plain "byte" none with kind := .primitive 'B', accessFlags := 0x411 }
/-- [B -/
def k9 : Class := { plain "[B" (some 0) with kind := .array 8 .byte, interfaces := #[7, 4], accessFlags := 1041 }

/-- the primitive int -/
def k10 : Class := { plain "int" none with kind := .primitive 'I', accessFlags := 0x411 }
/-- [I -/
def k11 : Class := { plain "[I" (some 0) with kind := .array 10 .int, interfaces := #[7, 4], accessFlags := 1041 }

def heap : Heap := #[{ cls := 6, slots := #[.ref 1, .ref 2, .ref 3, .ref 4, .ref 5, .ref 6, .ref 7, .ref 8, .ref 9, .ref 10, .ref 11, .ref 12, .ref 13, .ref 14, .ref 15, .ref 16, .ref 17, .ref 18, .ref 19, .null], vm := .statics 6 },
  { cls := 6, slots := #[.null, .int 0, .int 0, .int 0, .int 3, .int 7, .null], vm := .none },
  { cls := 6, slots := #[.null, .int 1, .int 0, .int 1, .int 4, .int 11, .null], vm := .none },
  { cls := 6, slots := #[.null, .int 2, .int 0, .int 2, .int 1, .int 3, .null], vm := .none },
  { cls := 6, slots := #[.null, .int 3, .int 0, .int 3, .int 0, .int 5, .null], vm := .none },
  { cls := 6, slots := #[.null, .int 4, .int 0, .int 4, .int 2, .int 3, .null], vm := .none },
  { cls := 6, slots := #[.null, .int 5, .int 0, .int 5, .int 1, .int 3, .null], vm := .none },
  { cls := 6, slots := #[.null, .int 6, .int 0, .int 6, .int 0, .int 1, .null], vm := .none },
  { cls := 6, slots := #[.null, .int 7, .int 0, .int 7, .int 0, .int 2, .null], vm := .none },
  { cls := 6, slots := #[.null, .int 8, .int 0, .int 8, .int 0, .int 1, .null], vm := .none },
  { cls := 6, slots := #[.null, .int 9, .int 0, .int 9, .int 0, .int 1, .null], vm := .none },
  { cls := 6, slots := #[.null, .int 10, .int 0, .int 10, .int 0, .int 1, .null], vm := .none },
  { cls := 6, slots := #[.null, .int 11, .int 0, .int 11, .int 0, .int 2, .null], vm := .none },
  { cls := 6, slots := #[.null, .int 12, .int 0, .int 12, .int 0, .int 4, .null], vm := .none },
  { cls := 6, slots := #[.null, .int 13, .int 0, .int 13, .int 0, .int 1, .null], vm := .none },
  { cls := 6, slots := #[.null, .int 14, .int 0, .int 14, .int 3, .int 3, .null], vm := .none },
  { cls := 6, slots := #[.null, .int 15, .int 0, .int 15, .int 0, .int 1, .null], vm := .none },
  { cls := 6, slots := #[.null, .int 16, .int 0, .int 16, .int 1, .int 1, .null], vm := .none },
  { cls := 6, slots := #[.null, .int 17, .int 0, .int 17, .int 1, .int 1, .null], vm := .none },
  { cls := 6, slots := #[.null, .int 18, .int 0, .int 18, .int 1, .int 1, .null], vm := .none }]
def classes : Array Class := #[k0, k1, k2, k3, k4, k5, k6, k7, k8, k9, k10, k11]
def interned : List (Array UInt16 × Addr) := []
def slotsUsed : Nat := 153
def theMethod : MethodId := ⟨1, 1⟩
def args0 : Array Value := #[.int 5, .int 1]
def aboutOver (below : List Frame) : State where
  vm := { classes := classes, interned := interned.toArray }
  heap := heap
  slotsUsed := slotsUsed
  threads := #[{ frames := .invoking theMethod args0 :: below }]
def below0 : List Frame := [.native { method := ⟨0, 0⟩, args := #[] }]
def about1 : State := aboutOver below0
def p0 : Program := .bare "" "" ""
def e0 : Env := launch0.env 0 0 0
theorem w_frames : about1.frames = Frame.invoking theMethod args0 :: below0 := rfl
set_option maxRecDepth 65536 in
theorem w_args : argsFit about1.vm theMethod args0 = true := by decide +kernel
set_option maxRecDepth 65536 in
theorem w_heap : heapFits about1 = true := by decide +kernel
set_option maxRecDepth 65536 in
theorem w_runnable : about1.curStatus? = some .runnable := by decide +kernel
set_option maxRecDepth 65536 in
theorem w_alone : about1.alone = true := by decide +kernel
set_option maxRecDepth 65536 in
theorem w_named : about1.methodNamed? x = some theMethod := by decide +kernel
set_option maxRecDepth 65536 in
theorem w_hears : about1.hears theMethod below0 = true := by decide +kernel
set_option maxRecDepth 65536 in
theorem w_ripe : about1.ripe theMethod args0 below0 = true := by decide +kernel
theorem w_running : about1.status = .running := rfl
set_option maxRecDepth 65536 in
theorem w_room : about1.hasRoom e0.platform room_1 = true :=
  launch0.hasRoom_least _ room_1 (by decide +kernel) (by decide +kernel) (by decide +kernel) (by decide +kernel) (by decide +kernel) (by decide +kernel)
theorem allAtoms_all (ts : List Jvm.Cond) (a : Array Jvm.Value) (st : Jvm.State) : (allAtoms ts).before a st = ts.all (fun c => c.before a st) := by
  induction ts with
  | nil => rfl
  | cons c t ih =>
    show (Jvm.Cond.and c (allAtoms t)).before a st = _
    rw [Jvm.Cond.before_and, ih, List.all_cons]
def words1 : List Jvm.Cond := Jvm.Cond.code x code maxLocals ret :: tables_1
/-- a 'code' word, met by the world's own term for the bytes: nothing is compared byte by byte -/
theorem code_word {y : MethodName} {bytes : ByteArray} {mx : Nat} {rt : Option FieldType} {a : Array Value} {s : State} {m : MethodId} {meth : Method} {c : Code} (h1 : s.methodNamed? y = some m) (h2 : s.vm.method? m = some meth) (h3 : meth.code = some c) (h4 : c.code = bytes)
    (h5 : (c.maxLocals == mx && c.exceptionTable.isEmpty && decide (c.maxStack ≤ mostOperands) && decide (meth.sig.returnType = rt) && !meth.locks && decide (parseMethodDescriptor y.desc = some meth.sig)) = true) : (Jvm.Cond.code y bytes mx rt).before a s = true := by
  simp only [Bool.and_eq_true, beq_iff_eq, Bool.not_eq_true', decide_eq_true_eq] at h5
  obtain ⟨⟨⟨⟨⟨g1, g2⟩, g3⟩, g4⟩, g5⟩, g6⟩ := h5
  simp [Cond.before, Cond.holds, Cond.value, h1, h2, h3, h4, g1, g2, g3, g4, g5, g6]
def isCode : Jvm.Cond → Bool
  | .code _ _ _ _ => true
  | _ => false
theorem all_split {L : List Jvm.Cond} {P : Jvm.Cond → Bool} (h1 : L.all (fun c => isCode c || P c) = true) (h2 : ∀ c ∈ L.filter isCode, P c = true) : L.all P = true := by
  refine List.all_eq_true.mpr fun c hc => ?_
  have h := List.all_eq_true.mp h1 c hc
  rcases Bool.eq_false_or_eq_true (isCode c) with hi | hi
  · exact h2 c (List.mem_filter.mpr ⟨hc, hi⟩)
  · simpa [hi] using h
set_option maxRecDepth 65536 in
theorem w_c0 : (Jvm.Cond.code x code maxLocals ret).before args0 about1 = true := code_word (m := ⟨1, 1⟩) (meth := k1m1) (c := k1c1) (by decide +kernel) rfl rfl rfl (by decide +kernel)
set_option maxRecDepth 65536 in
theorem w_c1 : (Jvm.Cond.code ({ cls := "com/example/wasserstand/wasserstand/protocol/ApiKeySupportsPinLaw", name := "key", desc := "(I)Lcom/example/wasserstand/wasserstand/protocol/ApiKey;" } : Jvm.MethodName) method_3_code (1 : Nat) (Option.some (Jvm.ClassFile.FieldType.object "com/example/wasserstand/wasserstand/protocol/ApiKey"))).before args0 about1 = true := code_word (m := ⟨1, 2⟩) (meth := k1m2) (c := k1c2) (by decide +kernel) rfl rfl rfl (by decide +kernel)
set_option maxRecDepth 65536 in
theorem w_c2 : (Jvm.Cond.code ({ cls := "com/example/wasserstand/wasserstand/protocol/ApiKeySupportsPinLaw", name := "lo", desc := "(I)I" } : Jvm.MethodName) method_4_code (1 : Nat) (Option.some Jvm.ClassFile.FieldType.int)).before args0 about1 = true := code_word (m := ⟨1, 3⟩) (meth := k1m3) (c := k1c3) (by decide +kernel) rfl rfl rfl (by decide +kernel)
set_option maxRecDepth 65536 in
theorem w_c3 : (Jvm.Cond.code ({ cls := "com/example/wasserstand/wasserstand/protocol/ApiKeySupportsPinLaw", name := "hi", desc := "(I)I" } : Jvm.MethodName) method_5_code (1 : Nat) (Option.some Jvm.ClassFile.FieldType.int)).before args0 about1 = true := code_word (m := ⟨1, 4⟩) (meth := k1m4) (c := k1c4) (by decide +kernel) rfl rfl rfl (by decide +kernel)
set_option maxRecDepth 65536 in
theorem w_c4 : (Jvm.Cond.code ({ cls := "com/example/wasserstand/wasserstand/protocol/ApiKey", name := "supports", desc := "(S)Z" } : Jvm.MethodName) prog_189_method_10_code (2 : Nat) (Option.some Jvm.ClassFile.FieldType.boolean)).before args0 about1 = true := code_word (m := ⟨6, 0⟩) (meth := k6m0) (c := k6c0) (by decide +kernel) rfl rfl rfl (by decide +kernel)
def codes1 : List Jvm.Cond := [Jvm.Cond.code x code maxLocals ret, Jvm.Cond.code ({ cls := "com/example/wasserstand/wasserstand/protocol/ApiKeySupportsPinLaw", name := "key", desc := "(I)Lcom/example/wasserstand/wasserstand/protocol/ApiKey;" } : Jvm.MethodName) method_3_code (1 : Nat) (Option.some (Jvm.ClassFile.FieldType.object "com/example/wasserstand/wasserstand/protocol/ApiKey")), Jvm.Cond.code ({ cls := "com/example/wasserstand/wasserstand/protocol/ApiKeySupportsPinLaw", name := "lo", desc := "(I)I" } : Jvm.MethodName) method_4_code (1 : Nat) (Option.some Jvm.ClassFile.FieldType.int), Jvm.Cond.code ({ cls := "com/example/wasserstand/wasserstand/protocol/ApiKeySupportsPinLaw", name := "hi", desc := "(I)I" } : Jvm.MethodName) method_5_code (1 : Nat) (Option.some Jvm.ClassFile.FieldType.int), Jvm.Cond.code ({ cls := "com/example/wasserstand/wasserstand/protocol/ApiKey", name := "supports", desc := "(S)Z" } : Jvm.MethodName) prog_189_method_10_code (2 : Nat) (Option.some Jvm.ClassFile.FieldType.boolean)]
set_option maxRecDepth 65536 in
theorem codes_eq : words1.filter isCode = codes1 := rfl
theorem w_codes : ∀ c ∈ words1.filter isCode, c.before args0 about1 = true := by
  rw [codes_eq]
  intro c hc
  simp only [codes1, List.mem_cons, List.not_mem_nil, or_false] at hc
  rcases hc with rfl | rfl | rfl | rfl | rfl
  · exact w_c0
  · exact w_c1
  · exact w_c2
  · exact w_c3
  · exact w_c4
set_option maxRecDepth 65536 in
theorem w_t1 : (words1.take 24).all (fun c => isCode c || c.before args0 about1) = true := by decide +kernel
set_option maxRecDepth 65536 in
theorem w_t2 : ((words1.drop 24).take 24).all (fun c => isCode c || c.before args0 about1) = true := by decide +kernel
set_option maxRecDepth 65536 in
theorem w_t3 : ((words1.drop 24).drop 24).all (fun c => isCode c || c.before args0 about1) = true := by decide +kernel
theorem w_tables : (allAtoms (Jvm.Cond.code x code maxLocals ret :: tables_1)).before args0 about1 = true := by
  rw [allAtoms_all]
  show words1.all (fun c => c.before args0 about1) = true
  refine all_split ?_ w_codes
  rw [← List.take_append_drop 24 words1, List.all_append, w_t1, ← List.take_append_drop 24 (words1.drop 24), List.all_append, w_t2, w_t3]
  rfl
set_option maxRecDepth 65536 in
theorem w_case : (Jvm.Cond.and given_1 narrow_1).before args0 about1 = true := by decide +kernel
theorem w_applies : (headSpec (Jvm.Cond.code x code maxLocals ret :: tables_1) room_1).applies x e0.platform about1 = true :=
  (Spec.applies_iff w_frames).mpr ⟨w_running, w_runnable, w_alone, w_named, w_hears, w_ripe, w_room, w_tables⟩
theorem atStart : AtStart classFile x code maxLocals ret World_1 tables_1 room_1 Calls_1 rest_1 Pre_1 launch0 p0 e0 about1 theMethod args0 below0 :=
  ⟨lists_1, trivial, launch0.admits_env _ _ _, launch0.least_env, fairChoices_fair.cas, fairChoices_fair.clock, w_frames, w_args, w_heap, w_applies, trivial, trivial, w_case⟩
end start1
theorem witness_1 : WitnessClaimed_1 := ⟨start1.p0, start1.e0, start1.about1, start1.theMethod, start1.args0, start1.below0, start1.atStart⟩
end Jvm.Pilot.@@N@@
