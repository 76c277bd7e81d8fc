import JvmDerived
import JvmDerived.Pilot.@@N@@Statement
import JvmDerived.Pilot.@@N@@Code
set_option linter.unusedVariables false
set_option linter.unusedSimpArgs false
namespace Jvm.RoadKit
open Sem ClassFile Op Lib Jvm.Stand Jvm.Free Jvm.LawKit
section New
variable {p : Program} {l : Launch} {e : Env} {R : Room} {s : State} {m : MethodId} {args : Array Value} {below : List Frame} {meth : Method} {c : Code} {T : State} {locs : List Loc} {cells slots : Nat}
theorem retI (X : Stand p l e R s m args below meth c T locs cells slots) (hx : p.tables.exec = Jvm.exec) {pc : Nat} {Ls : Array Slot} {z : Int32} {rest : List Value} (hret : meth.sig.returnType = some .int) (hd : decode c.code pc = .ok (.ireturn, 1)) {fs : List Frame}
    (hl : ∀ (f : JFrame) (acts : List Action), f.method = m → f.locked = none → f.entered = [] → (doReturn e (T.setTop f) acts (some (.int z))).1 = T.setFrames fs) : Steps p.tables e below (T.setTop (mkF m pc Ls (.int z :: rest))) (T.setFrames fs) := by
  have hm' : T.vm.method? m = some meth := X.method'
  have hn : narrow .int (.int z) = .int z := rfl
  show Steps p.tables e below (T.setTop { method := m, pc := pc, locals := Ls, stack := _ :: rest, locked := none }) _
  jvm_step X.here [X.here.top, hx, hd, hm', hret, hn]
  first | (intro acts; rw [hl _ acts rfl rfl rfl]) | rw [hl _ _ rfl rfl rfl]
  exact Steps.refl _
/-- whatever is reached from the one state is reached from the other -/
def Go (p : Program) (e : Env) (below : List Frame) (A B : State) : Prop := ∀ t, Steps p.tables e below B t → Steps p.tables e below A t
end New
end Jvm.RoadKit
namespace Jvm.Pilot.@@N@@
open Jvm Jvm.ClassFile Sem Op Lib Jvm.Free Jvm.Stand Jvm.LawKit Jvm.RoadKit Bundle Jvm.Pilot.@@N@@.Jvm.D
def own_u (z : Int32) : Int32 := ((z.toUInt32 >>> ((7 : Int32) &&& 31).toUInt32).toInt32)
def own_zig (v : Int32) : Int32 := (v <<< ((1 : Int32) &&& 31)) ^^^ (v >>> ((31 : Int32) &&& 31))
def own_size (v : Int32) : Int32 :=
  if own_zig v &&& (-128 : Int32) = 0 then 1 else if own_u (own_zig v) &&& (-128 : Int32) = 0 then 2 else if own_u (own_u (own_zig v)) &&& (-128 : Int32) = 0 then 3 else if own_u (own_u (own_u (own_zig v))) &&& (-128 : Int32) = 0 then 4 else 5
def own_exp (v : Int32) : Int32 :=
  if ¬ v < -64 ∧ ¬ 63 < v then 1 else if ¬ v < -8192 ∧ ¬ 8191 < v then 2 else if ¬ v < -1048576 ∧ ¬ 1048575 < v then 3 else if ¬ v < -134217728 ∧ ¬ 134217727 < v then 4 else 5
/-- the unsigned worth -/
def own_n (z : Int32) : Int := z.toInt % 4294967296
theorem own_n_u (z : Int32) : own_n (own_u z) = own_n z / 128 := by
  have h := c_iushr z 7 7 (by decide) (by decide)
  unfold own_n own_u
  rw [h]
  have : z.toInt % 4294967296 < 4294967296 := Int.emod_lt_of_pos _ (by decide)
  have : 0 ≤ z.toInt % 4294967296 := Int.emod_nonneg _ (by decide)
  have e : ((2 ^ 7 : Nat) : Int) = 128 := rfl
  rw [e]
  omega
theorem own_hb (b : BitVec 32) : (b &&& (-128#32) = 0#32) ↔ b.toNat < 128 := by
  have e3 : b &&& (-128#32) = (b >>> 7) <<< 7 := by
    ext i hi
    simp only [BitVec.getElem_and, BitVec.getElem_shiftLeft]
    have : (-128#32).getLsbD i = decide (7 ≤ i) := by
      have : ∀ i : Fin 32, (-128#32).getLsbD i.1 = decide (7 ≤ i.1) := by decide
      exact this ⟨i, hi⟩
    rw [← BitVec.getLsbD_eq_getElem, ← BitVec.getLsbD_eq_getElem (x := (-128#32)), this]
    by_cases h : 7 ≤ i
    · simp [h, Nat.not_lt.mpr h]
    · simp [h, Nat.lt_of_not_le h]
  rw [e3]
  constructor
  · intro h
    have h2 : ((b >>> 7) <<< 7) >>> 7 = b >>> 7 := by
      apply BitVec.eq_of_toNat_eq
      simp [BitVec.toNat_ushiftRight, BitVec.toNat_shiftLeft, Nat.shiftRight_eq_div_pow, Nat.shiftLeft_eq]
      have := b.isLt
      omega
    rw [h] at h2
    have h3 := congrArg BitVec.toNat h2
    simp [BitVec.toNat_ushiftRight, Nat.shiftRight_eq_div_pow] at h3
    omega
  · intro h
    apply BitVec.eq_of_toNat_eq
    simp [BitVec.toNat_ushiftRight, BitVec.toNat_shiftLeft, Nat.shiftRight_eq_div_pow, Nat.shiftLeft_eq]
    omega
theorem own_xm (x : Int32) : (x ^^^ (-1)).toInt = -1 - x.toInt := by
  have : x ^^^ (-1) = ~~~ x := by
    apply Int32.toBitVec_inj.mp
    rw [Int32.toBitVec_xor, Int32.toBitVec_not]
    show x.toBitVec ^^^ (BitVec.allOnes 32) = _
    exact BitVec.xor_allOnes
  rw [this]
  have e : ~~~ x = -1 - x := by
    apply Int32.toBitVec_inj.mp
    rw [Int32.toBitVec_not, Int32.toBitVec_sub]
    show _ = BitVec.allOnes 32 - x.toBitVec
    rw [BitVec.allOnes_sub_eq_not]
  rw [e, Int32.toInt_sub]
  have h1 := x.le_toInt
  have h2 := x.toInt_lt
  have : (-1 : Int32).toInt = -1 := rfl
  rw [this]
  rw [Int.bmod_eq_of_le] <;> omega
theorem own_hi (z : Int32) : (z &&& (-128 : Int32) = 0) ↔ own_n z < 128 := by
  have e1 : own_n z = (z.toBitVec.toNat : Int) := by
    unfold own_n
    have : z.toInt = z.toBitVec.toInt := rfl
    rw [this, BitVec.toInt_eq_toNat_cond]
    have := z.toBitVec.isLt
    split <;> omega
  have e2 : (z &&& (-128 : Int32) = 0) ↔ z.toBitVec &&& (-128#32) = 0#32 := by
    constructor
    · intro h
      have := congrArg Int32.toBitVec h
      rw [Int32.toBitVec_and] at this
      exact this
    · intro h
      apply Int32.toBitVec_inj.mp
      rw [Int32.toBitVec_and]
      exact h
  rw [e1, e2, own_hb]
  omega
theorem own_n_zig (v : Int32) : own_n (own_zig v) = if v.toInt < 0 then -2 * v.toInt - 1 else 2 * v.toInt := by
  have h1 := c_ishl v 1 1 (by decide)
  have h2 := c_ishr v 31 31 (by decide)
  have r := rng32 v
  unfold own_n own_zig
  generalize v <<< ((1 : Int32) &&& 31) = a at *
  have e1 : ((2 ^ 31 : Nat) : Int) = 2147483648 := rfl
  have e2 : ((2 ^ 1 : Nat) : Int) = 2 := rfl
  rw [e1] at h2
  rw [e2] at h1
  by_cases q : v.toInt < 0
  · have : v >>> ((31 : Int32) &&& 31) = -1 := Int32.toInt_inj.mp (by rw [h2]; show _ = -1; omega)
    rw [this, own_xm, if_pos q]
    omega
  · have : v >>> ((31 : Int32) &&& 31) = 0 := Int32.toInt_inj.mp (by rw [h2]; show _ = 0; omega)
    rw [this, if_neg q, Int32.xor_zero]
    omega
theorem own_same (v : Int32) : own_size v = own_exp v := by
  unfold own_size own_exp
  simp only [own_hi, own_n_u, own_n_zig, Int32.lt_iff_toInt_lt]
  have r := rng32 v
  simp only [show (-64 : Int32).toInt = -64 from rfl, show (-8192 : Int32).toInt = -8192 from rfl, show (-1048576 : Int32).toInt = -1048576 from rfl, show (-134217728 : Int32).toInt = -134217728 from rfl, show (63 : Int32).toInt = 63 from rfl, show (8191 : Int32).toInt = 8191 from rfl, show (1048575 : Int32).toInt = 1048575 from rfl, show (134217727 : Int32).toInt = 134217727 from rfl]
  generalize v.toInt = z at *
  by_cases h : z < 0
  · simp only [if_pos h]
    repeat' split
    all_goals first | rfl | (exfalso; omega)
  · simp only [if_neg h]
    repeat' split
    all_goals first | rfl | (exfalso; omega)
theorem own_last (v : Int32) : own_u (own_u (own_u (own_u (own_zig v)))) &&& (-128 : Int32) = 0 := by
  rw [own_hi, own_n_u, own_n_u, own_n_u, own_n_u, own_n_zig]
  have r := rng32 v
  split <;> omega
theorem dprog_150_method_2_code_0 : decode prog_150_method_2_code 0 = .ok (.iload_n 0, 1) := by decide +kernel
theorem dprog_150_method_2_code_1 : decode prog_150_method_2_code 1 = .ok (.iconst 1, 1) := by decide +kernel
theorem dprog_150_method_2_code_2 : decode prog_150_method_2_code 2 = .ok (.ishl, 1) := by decide +kernel
theorem dprog_150_method_2_code_3 : decode prog_150_method_2_code 3 = .ok (.iload_n 0, 1) := by decide +kernel
theorem dprog_150_method_2_code_4 : decode prog_150_method_2_code 4 = .ok (.bipush 31, 2) := by decide +kernel
theorem dprog_150_method_2_code_6 : decode prog_150_method_2_code 6 = .ok (.ishr, 1) := by decide +kernel
theorem dprog_150_method_2_code_7 : decode prog_150_method_2_code 7 = .ok (.ixor, 1) := by decide +kernel
theorem dprog_150_method_2_code_8 : decode prog_150_method_2_code 8 = .ok (.istore_n 1, 1) := by decide +kernel
theorem dprog_150_method_2_code_9 : decode prog_150_method_2_code 9 = .ok (.iconst 1, 1) := by decide +kernel
theorem dprog_150_method_2_code_10 : decode prog_150_method_2_code 10 = .ok (.istore_n 2, 1) := by decide +kernel
theorem dprog_150_method_2_code_11 : decode prog_150_method_2_code 11 = .ok (.iload_n 1, 1) := by decide +kernel
theorem dprog_150_method_2_code_12 : decode prog_150_method_2_code 12 = .ok (.bipush (-128), 2) := by decide +kernel
theorem dprog_150_method_2_code_14 : decode prog_150_method_2_code 14 = .ok (.iand, 1) := by decide +kernel
theorem dprog_150_method_2_code_15 : decode prog_150_method_2_code 15 = .ok (.ifCond .eq 14, 3) := by decide +kernel
theorem dprog_150_method_2_code_29 : decode prog_150_method_2_code 29 = .ok (.iload_n 2, 1) := by decide +kernel
theorem dprog_150_method_2_code_30 : decode prog_150_method_2_code 30 = .ok (.ireturn, 1) := by decide +kernel
theorem dprog_150_method_2_code_18 : decode prog_150_method_2_code 18 = .ok (.iload_n 1, 1) := by decide +kernel
theorem dprog_150_method_2_code_19 : decode prog_150_method_2_code 19 = .ok (.bipush 7, 2) := by decide +kernel
theorem dprog_150_method_2_code_21 : decode prog_150_method_2_code 21 = .ok (.iushr, 1) := by decide +kernel
theorem dprog_150_method_2_code_22 : decode prog_150_method_2_code 22 = .ok (.istore_n 1, 1) := by decide +kernel
theorem dprog_150_method_2_code_23 : decode prog_150_method_2_code 23 = .ok (.iinc 2 1, 3) := by decide +kernel
theorem dprog_150_method_2_code_26 : decode prog_150_method_2_code 26 = .ok (.goto (-15), 3) := by decide +kernel
theorem ef_rmS (m : MethodId) (x0 : Int32) : entryFrame m #[(.int x0)] 3 = mkF m 0 #[.val (.int x0), .unset, .unset] [] := by first | (simp [entryFrame, mkF, argsToLocals, Value.category]; done) | rfl
def QS (Z : State) (p1 : Int32) (h0 : Heap) (n0 : Nat) (v : Option Value) (h : Heap) (L : List Loc) : Prop := v = some (.int (own_size p1)) ∧ L = [] ∧ h = h0
theorem pn_0 : plainName "com/example/wasserstand/wasserstand/log/Varint" = true := by first | (simp [plainName, overriddenIn]; done) | decide +kernel
set_option maxRecDepth 65536 in
set_option maxHeartbeats 40000000 in
theorem rmS (l : Launch) (Z : State) (a0 : Array Value) (hw : ∀ d ∈ tables_1, d.before a0 Z = true) (ws : List Jvm.Cond) (p1 : Int32) (h0 : Heap) (n0 : Nat) (Z0 : n0 ≤ h0.size) :
    MetFree l (⟨"com/example/wasserstand/wasserstand/log/Varint", "sizeOfInt", "(I)I"⟩ : MethodName) (head1 (Jvm.Cond.code (⟨"com/example/wasserstand/wasserstand/log/Varint", "sizeOfInt", "(I)I"⟩ : MethodName) prog_150_method_2_code 3 (some .int) :: ws) ({ frames := 0, cells := 0, slots := 0, locals := 0 } : Room)) (fun a U => a = #[(.int p1)] ∧ Z.Warmed39 U.vm ∧ U.heap = h0) (fun _ _ _ _ _ => True) (fun _ U o U' => ∃ v L, o = .returned v ∧ QS Z p1 h0 n0 v U'.heap L ∧ FrameEnd U o U' L ({ frames := 0, cells := 0, slots := 0, locals := 0 } : Room).cells ({ frames := 0, cells := 0, slots := 0, locals := 0 } : Room).slots) := by
  refine MetFree.of_bodySF (plainFor_of_name pn_0) hisR ?_
  intro p e s m args below meth c s₁ Bd hml0 hP hK
  obtain ⟨rfl, hZ, hh⟩ := hP
  have hx := Bd.exec
  have hby := Bd.bytes
  have hml : c.maxLocals = 3 := hml0
  have hown : s.vm.findClass "com/example/wasserstand/wasserstand/log/Varint" = some m.cls := findClass_of_methodNamed Bd.named
  have hnm := (name_of_methodNamed Bd.named Bd.method).1
  have X0 : Stand p l e ({ frames := 0, cells := 0, slots := 0, locals := 0 } : Room) s m #[(.int p1)] below meth c s₁ [] 0 0 := Stand.of_body Bd
  have e0 : s₁.heap = h0 := by rw [← hh, Bd.state]; rfl
  have N0 := Fr.nil n0
  have k0 : Go p e below (s₁.setTop (entryFrame m #[(.int p1)] 3)) (s₁.setTop (mkF m 0 #[.val (.int p1), .unset, .unset] [])) := fun t k => castTop (ef_rmS m p1) k
  have k1 : Go p e below (s₁.setTop (entryFrame m #[(.int p1)] 3)) (s₁.setTop (mkF m 11 #[.val (.int p1), .val (.int ((p1 <<< ((1 : Int32) &&& 31)) ^^^ (p1 >>> ((31 : Int32) &&& 31)))), .val (.int (1 : Int32))] [])) := fun t kk => k0 t (by
    show Steps p.tables e below (s₁.setTop (mkF m 0 #[.val (.int p1), .unset, .unset] [])) _
    refine XS.iloadN X0.here hx rfl (hb hby dprog_150_method_2_code_0) rfl ?_
    show Steps p.tables e below (s₁.setTop (mkF m 1 #[.val (.int p1), .unset, .unset] [(.int p1)])) _
    refine XS.iconst X0.here hx rfl (hb hby dprog_150_method_2_code_1) ?_
    show Steps p.tables e below (s₁.setTop (mkF m 2 #[.val (.int p1), .unset, .unset] [(.int (1 : Int32)), (.int p1)])) _
    refine XS.ishl X0.here hx rfl (hb hby dprog_150_method_2_code_2) rfl ?_
    show Steps p.tables e below (s₁.setTop (mkF m 3 #[.val (.int p1), .unset, .unset] [(.int (p1 <<< ((1 : Int32) &&& 31)))])) _
    refine XS.iloadN X0.here hx rfl (hb hby dprog_150_method_2_code_3) rfl ?_
    show Steps p.tables e below (s₁.setTop (mkF m 4 #[.val (.int p1), .unset, .unset] [(.int p1), (.int (p1 <<< ((1 : Int32) &&& 31)))])) _
    refine XS.bipush X0.here hx rfl (hb hby dprog_150_method_2_code_4) ?_
    show Steps p.tables e below (s₁.setTop (mkF m 6 #[.val (.int p1), .unset, .unset] [(.int (31 : Int32)), (.int p1), (.int (p1 <<< ((1 : Int32) &&& 31)))])) _
    refine XS.ishr X0.here hx rfl (hb hby dprog_150_method_2_code_6) rfl ?_
    show Steps p.tables e below (s₁.setTop (mkF m 7 #[.val (.int p1), .unset, .unset] [(.int (p1 >>> ((31 : Int32) &&& 31))), (.int (p1 <<< ((1 : Int32) &&& 31)))])) _
    refine XS.ixor X0.here hx rfl (hb hby dprog_150_method_2_code_7) rfl ?_
    show Steps p.tables e below (s₁.setTop (mkF m 8 #[.val (.int p1), .unset, .unset] [(.int ((p1 <<< ((1 : Int32) &&& 31)) ^^^ (p1 >>> ((31 : Int32) &&& 31))))])) _
    refine XS.istoreN X0.here hx rfl (hb hby dprog_150_method_2_code_8) rfl (l' := #[.val (.int p1), .val (.int ((p1 <<< ((1 : Int32) &&& 31)) ^^^ (p1 >>> ((31 : Int32) &&& 31)))), .unset]) rfl ?_
    show Steps p.tables e below (s₁.setTop (mkF m 9 #[.val (.int p1), .val (.int ((p1 <<< ((1 : Int32) &&& 31)) ^^^ (p1 >>> ((31 : Int32) &&& 31)))), .unset] [])) _
    refine XS.iconst X0.here hx rfl (hb hby dprog_150_method_2_code_9) ?_
    show Steps p.tables e below (s₁.setTop (mkF m 10 #[.val (.int p1), .val (.int ((p1 <<< ((1 : Int32) &&& 31)) ^^^ (p1 >>> ((31 : Int32) &&& 31)))), .unset] [(.int (1 : Int32))])) _
    refine XS.istoreN X0.here hx rfl (hb hby dprog_150_method_2_code_10) rfl (l' := #[.val (.int p1), .val (.int ((p1 <<< ((1 : Int32) &&& 31)) ^^^ (p1 >>> ((31 : Int32) &&& 31)))), .val (.int (1 : Int32))]) rfl ?_
    exact kk)
  have k2 : Go p e below (s₁.setTop (entryFrame m #[(.int p1)] 3)) (s₁.setTop (mkF m 11 #[.val (.int p1), .val (.int (own_zig p1)), .val (.int (1 : Int32))] [])) := k1
  have k3 : Go p e below (s₁.setTop (entryFrame m #[(.int p1)] 3)) (s₁.setTop (mkF m 15 #[.val (.int p1), .val (.int (own_zig p1)), .val (.int (1 : Int32))] [(.int ((own_zig p1) &&& (-128 : Int32)))])) := fun t kk => k2 t (by
    show Steps p.tables e below (s₁.setTop (mkF m 11 #[.val (.int p1), .val (.int (own_zig p1)), .val (.int (1 : Int32))] [])) _
    refine XS.iloadN X0.here hx rfl (hb hby dprog_150_method_2_code_11) rfl ?_
    show Steps p.tables e below (s₁.setTop (mkF m 12 #[.val (.int p1), .val (.int (own_zig p1)), .val (.int (1 : Int32))] [(.int (own_zig p1))])) _
    refine XS.bipush X0.here hx rfl (hb hby dprog_150_method_2_code_12) ?_
    show Steps p.tables e below (s₁.setTop (mkF m 14 #[.val (.int p1), .val (.int (own_zig p1)), .val (.int (1 : Int32))] [(.int (-128 : Int32)), (.int (own_zig p1))])) _
    refine XS.iand X0.here hx rfl (hb hby dprog_150_method_2_code_14) rfl ?_
    exact kk)
  by_cases h1 : ((own_zig p1) &&& (-128 : Int32)) = (0 : Int32)
  · have k4 : Go p e below (s₁.setTop (entryFrame m #[(.int p1)] 3)) (s₁.setTop (mkF m 30 #[.val (.int p1), .val (.int (own_zig p1)), .val (.int (1 : Int32))] [(.int (1 : Int32))])) := fun t kk => k3 t (by
      show Steps p.tables e below (s₁.setTop (mkF m 15 #[.val (.int p1), .val (.int (own_zig p1)), .val (.int (1 : Int32))] [(.int ((own_zig p1) &&& (-128 : Int32)))])) _
      refine XS.ifYes X0.here hx rfl (pc0 := 15) (pc' := 29) rfl (hb hby dprog_150_method_2_code_15) rfl ((if0 _ _).trans (teq h1).1) (by decide) (by decide) ?_
      show Steps p.tables e below (s₁.setTop (mkF m 29 #[.val (.int p1), .val (.int (own_zig p1)), .val (.int (1 : Int32))] [])) _
      refine XS.iloadN X0.here hx rfl (hb hby dprog_150_method_2_code_29) rfl ?_
      exact kk)
    obtain ⟨fs, hr, hrun, hended, hW, hsame⟩ := X0.leave (v := some (.int (1 : Int32))) (fun h => by rw [Bd.returns] at h; cases h)
    refine ⟨_, _, k4 _ ?_, hrun, hended, _, _, rfl, ?_, ⟨_, rfl⟩, hW, hsame.mono (by decide) (by decide)⟩
    · show Steps p.tables e below (s₁.setTop (mkF m 30 #[.val (.int p1), .val (.int (own_zig p1)), .val (.int (1 : Int32))] [(.int (1 : Int32))])) _
      exact retI X0 hx Bd.returns (hb hby dprog_150_method_2_code_30) hr
    · show QS Z p1 h0 n0 _ s₁.heap _
      rw [e0]
      exact ⟨by simp [own_size, h1], rfl, rfl⟩
  · have k6 : Go p e below (s₁.setTop (entryFrame m #[(.int p1)] 3)) (s₁.setTop (mkF m 11 #[.val (.int p1), .val (.int (((own_zig p1).toUInt32 >>> ((7 : Int32) &&& 31).toUInt32).toInt32)), .val (.int ((1 : Int32) + (1 : Int32)))] [])) := fun t kk => k3 t (by
      show Steps p.tables e below (s₁.setTop (mkF m 15 #[.val (.int p1), .val (.int (own_zig p1)), .val (.int (1 : Int32))] [(.int ((own_zig p1) &&& (-128 : Int32)))])) _
      refine XS.ifNo X0.here hx rfl (hb hby dprog_150_method_2_code_15) rfl ((if0 _ _).trans (feq h1).1) ?_
      show Steps p.tables e below (s₁.setTop (mkF m 18 #[.val (.int p1), .val (.int (own_zig p1)), .val (.int (1 : Int32))] [])) _
      refine XS.iloadN X0.here hx rfl (hb hby dprog_150_method_2_code_18) rfl ?_
      show Steps p.tables e below (s₁.setTop (mkF m 19 #[.val (.int p1), .val (.int (own_zig p1)), .val (.int (1 : Int32))] [(.int (own_zig p1))])) _
      refine XS.bipush X0.here hx rfl (hb hby dprog_150_method_2_code_19) ?_
      show Steps p.tables e below (s₁.setTop (mkF m 21 #[.val (.int p1), .val (.int (own_zig p1)), .val (.int (1 : Int32))] [(.int (7 : Int32)), (.int (own_zig p1))])) _
      refine XS.iushr X0.here hx rfl (hb hby dprog_150_method_2_code_21) rfl ?_
      show Steps p.tables e below (s₁.setTop (mkF m 22 #[.val (.int p1), .val (.int (own_zig p1)), .val (.int (1 : Int32))] [(.int (((own_zig p1).toUInt32 >>> ((7 : Int32) &&& 31).toUInt32).toInt32))])) _
      refine XS.istoreN X0.here hx rfl (hb hby dprog_150_method_2_code_22) rfl (l' := #[.val (.int p1), .val (.int (((own_zig p1).toUInt32 >>> ((7 : Int32) &&& 31).toUInt32).toInt32)), .val (.int (1 : Int32))]) rfl ?_
      show Steps p.tables e below (s₁.setTop (mkF m 23 #[.val (.int p1), .val (.int (((own_zig p1).toUInt32 >>> ((7 : Int32) &&& 31).toUInt32).toInt32)), .val (.int (1 : Int32))] [])) _
      refine XS.iinc X0.here hx rfl (hb hby dprog_150_method_2_code_23) rfl (l' := #[.val (.int p1), .val (.int (((own_zig p1).toUInt32 >>> ((7 : Int32) &&& 31).toUInt32).toInt32)), .val (.int ((1 : Int32) + (1 : Int32)))]) rfl ?_
      show Steps p.tables e below (s₁.setTop (mkF m 26 #[.val (.int p1), .val (.int (((own_zig p1).toUInt32 >>> ((7 : Int32) &&& 31).toUInt32).toInt32)), .val (.int ((1 : Int32) + (1 : Int32)))] [])) _
      refine XS.goto X0.here hx rfl (pc0 := 26) (pc' := 11) rfl (hb hby dprog_150_method_2_code_26) (by decide) (by decide) ?_
      exact kk)
    have k7 : Go p e below (s₁.setTop (entryFrame m #[(.int p1)] 3)) (s₁.setTop (mkF m 11 #[.val (.int p1), .val (.int (own_u (own_zig p1))), .val (.int ((1 : Int32) + (1 : Int32)))] [])) := k6
    have k8 : Go p e below (s₁.setTop (entryFrame m #[(.int p1)] 3)) (s₁.setTop (mkF m 11 #[.val (.int p1), .val (.int (own_u (own_zig p1))), .val (.int (2 : Int32))] [])) := k7
    have k9 : Go p e below (s₁.setTop (entryFrame m #[(.int p1)] 3)) (s₁.setTop (mkF m 15 #[.val (.int p1), .val (.int (own_u (own_zig p1))), .val (.int (2 : Int32))] [(.int ((own_u (own_zig p1)) &&& (-128 : Int32)))])) := fun t kk => k8 t (by
      show Steps p.tables e below (s₁.setTop (mkF m 11 #[.val (.int p1), .val (.int (own_u (own_zig p1))), .val (.int (2 : Int32))] [])) _
      refine XS.iloadN X0.here hx rfl (hb hby dprog_150_method_2_code_11) rfl ?_
      show Steps p.tables e below (s₁.setTop (mkF m 12 #[.val (.int p1), .val (.int (own_u (own_zig p1))), .val (.int (2 : Int32))] [(.int (own_u (own_zig p1)))])) _
      refine XS.bipush X0.here hx rfl (hb hby dprog_150_method_2_code_12) ?_
      show Steps p.tables e below (s₁.setTop (mkF m 14 #[.val (.int p1), .val (.int (own_u (own_zig p1))), .val (.int (2 : Int32))] [(.int (-128 : Int32)), (.int (own_u (own_zig p1)))])) _
      refine XS.iand X0.here hx rfl (hb hby dprog_150_method_2_code_14) rfl ?_
      exact kk)
    by_cases h2 : ((own_u (own_zig p1)) &&& (-128 : Int32)) = (0 : Int32)
    · have k10 : Go p e below (s₁.setTop (entryFrame m #[(.int p1)] 3)) (s₁.setTop (mkF m 30 #[.val (.int p1), .val (.int (own_u (own_zig p1))), .val (.int (2 : Int32))] [(.int (2 : Int32))])) := fun t kk => k9 t (by
        show Steps p.tables e below (s₁.setTop (mkF m 15 #[.val (.int p1), .val (.int (own_u (own_zig p1))), .val (.int (2 : Int32))] [(.int ((own_u (own_zig p1)) &&& (-128 : Int32)))])) _
        refine XS.ifYes X0.here hx rfl (pc0 := 15) (pc' := 29) rfl (hb hby dprog_150_method_2_code_15) rfl ((if0 _ _).trans (teq h2).1) (by decide) (by decide) ?_
        show Steps p.tables e below (s₁.setTop (mkF m 29 #[.val (.int p1), .val (.int (own_u (own_zig p1))), .val (.int (2 : Int32))] [])) _
        refine XS.iloadN X0.here hx rfl (hb hby dprog_150_method_2_code_29) rfl ?_
        exact kk)
      obtain ⟨fs, hr, hrun, hended, hW, hsame⟩ := X0.leave (v := some (.int (2 : Int32))) (fun h => by rw [Bd.returns] at h; cases h)
      refine ⟨_, _, k10 _ ?_, hrun, hended, _, _, rfl, ?_, ⟨_, rfl⟩, hW, hsame.mono (by decide) (by decide)⟩
      · show Steps p.tables e below (s₁.setTop (mkF m 30 #[.val (.int p1), .val (.int (own_u (own_zig p1))), .val (.int (2 : Int32))] [(.int (2 : Int32))])) _
        exact retI X0 hx Bd.returns (hb hby dprog_150_method_2_code_30) hr
      · show QS Z p1 h0 n0 _ s₁.heap _
        rw [e0]
        exact ⟨by simp [own_size, h1, h2], rfl, rfl⟩
    · have k12 : Go p e below (s₁.setTop (entryFrame m #[(.int p1)] 3)) (s₁.setTop (mkF m 11 #[.val (.int p1), .val (.int (((own_u (own_zig p1)).toUInt32 >>> ((7 : Int32) &&& 31).toUInt32).toInt32)), .val (.int ((2 : Int32) + (1 : Int32)))] [])) := fun t kk => k9 t (by
        show Steps p.tables e below (s₁.setTop (mkF m 15 #[.val (.int p1), .val (.int (own_u (own_zig p1))), .val (.int (2 : Int32))] [(.int ((own_u (own_zig p1)) &&& (-128 : Int32)))])) _
        refine XS.ifNo X0.here hx rfl (hb hby dprog_150_method_2_code_15) rfl ((if0 _ _).trans (feq h2).1) ?_
        show Steps p.tables e below (s₁.setTop (mkF m 18 #[.val (.int p1), .val (.int (own_u (own_zig p1))), .val (.int (2 : Int32))] [])) _
        refine XS.iloadN X0.here hx rfl (hb hby dprog_150_method_2_code_18) rfl ?_
        show Steps p.tables e below (s₁.setTop (mkF m 19 #[.val (.int p1), .val (.int (own_u (own_zig p1))), .val (.int (2 : Int32))] [(.int (own_u (own_zig p1)))])) _
        refine XS.bipush X0.here hx rfl (hb hby dprog_150_method_2_code_19) ?_
        show Steps p.tables e below (s₁.setTop (mkF m 21 #[.val (.int p1), .val (.int (own_u (own_zig p1))), .val (.int (2 : Int32))] [(.int (7 : Int32)), (.int (own_u (own_zig p1)))])) _
        refine XS.iushr X0.here hx rfl (hb hby dprog_150_method_2_code_21) rfl ?_
        show Steps p.tables e below (s₁.setTop (mkF m 22 #[.val (.int p1), .val (.int (own_u (own_zig p1))), .val (.int (2 : Int32))] [(.int (((own_u (own_zig p1)).toUInt32 >>> ((7 : Int32) &&& 31).toUInt32).toInt32))])) _
        refine XS.istoreN X0.here hx rfl (hb hby dprog_150_method_2_code_22) rfl (l' := #[.val (.int p1), .val (.int (((own_u (own_zig p1)).toUInt32 >>> ((7 : Int32) &&& 31).toUInt32).toInt32)), .val (.int (2 : Int32))]) rfl ?_
        show Steps p.tables e below (s₁.setTop (mkF m 23 #[.val (.int p1), .val (.int (((own_u (own_zig p1)).toUInt32 >>> ((7 : Int32) &&& 31).toUInt32).toInt32)), .val (.int (2 : Int32))] [])) _
        refine XS.iinc X0.here hx rfl (hb hby dprog_150_method_2_code_23) rfl (l' := #[.val (.int p1), .val (.int (((own_u (own_zig p1)).toUInt32 >>> ((7 : Int32) &&& 31).toUInt32).toInt32)), .val (.int ((2 : Int32) + (1 : Int32)))]) rfl ?_
        show Steps p.tables e below (s₁.setTop (mkF m 26 #[.val (.int p1), .val (.int (((own_u (own_zig p1)).toUInt32 >>> ((7 : Int32) &&& 31).toUInt32).toInt32)), .val (.int ((2 : Int32) + (1 : Int32)))] [])) _
        refine XS.goto X0.here hx rfl (pc0 := 26) (pc' := 11) rfl (hb hby dprog_150_method_2_code_26) (by decide) (by decide) ?_
        exact kk)
      have k13 : Go p e below (s₁.setTop (entryFrame m #[(.int p1)] 3)) (s₁.setTop (mkF m 11 #[.val (.int p1), .val (.int (own_u (own_u (own_zig p1)))), .val (.int ((2 : Int32) + (1 : Int32)))] [])) := k12
      have k14 : Go p e below (s₁.setTop (entryFrame m #[(.int p1)] 3)) (s₁.setTop (mkF m 11 #[.val (.int p1), .val (.int (own_u (own_u (own_zig p1)))), .val (.int (3 : Int32))] [])) := k13
      have k15 : Go p e below (s₁.setTop (entryFrame m #[(.int p1)] 3)) (s₁.setTop (mkF m 15 #[.val (.int p1), .val (.int (own_u (own_u (own_zig p1)))), .val (.int (3 : Int32))] [(.int ((own_u (own_u (own_zig p1))) &&& (-128 : Int32)))])) := fun t kk => k14 t (by
        show Steps p.tables e below (s₁.setTop (mkF m 11 #[.val (.int p1), .val (.int (own_u (own_u (own_zig p1)))), .val (.int (3 : Int32))] [])) _
        refine XS.iloadN X0.here hx rfl (hb hby dprog_150_method_2_code_11) rfl ?_
        show Steps p.tables e below (s₁.setTop (mkF m 12 #[.val (.int p1), .val (.int (own_u (own_u (own_zig p1)))), .val (.int (3 : Int32))] [(.int (own_u (own_u (own_zig p1))))])) _
        refine XS.bipush X0.here hx rfl (hb hby dprog_150_method_2_code_12) ?_
        show Steps p.tables e below (s₁.setTop (mkF m 14 #[.val (.int p1), .val (.int (own_u (own_u (own_zig p1)))), .val (.int (3 : Int32))] [(.int (-128 : Int32)), (.int (own_u (own_u (own_zig p1))))])) _
        refine XS.iand X0.here hx rfl (hb hby dprog_150_method_2_code_14) rfl ?_
        exact kk)
      by_cases h3 : ((own_u (own_u (own_zig p1))) &&& (-128 : Int32)) = (0 : Int32)
      · have k16 : Go p e below (s₁.setTop (entryFrame m #[(.int p1)] 3)) (s₁.setTop (mkF m 30 #[.val (.int p1), .val (.int (own_u (own_u (own_zig p1)))), .val (.int (3 : Int32))] [(.int (3 : Int32))])) := fun t kk => k15 t (by
          show Steps p.tables e below (s₁.setTop (mkF m 15 #[.val (.int p1), .val (.int (own_u (own_u (own_zig p1)))), .val (.int (3 : Int32))] [(.int ((own_u (own_u (own_zig p1))) &&& (-128 : Int32)))])) _
          refine XS.ifYes X0.here hx rfl (pc0 := 15) (pc' := 29) rfl (hb hby dprog_150_method_2_code_15) rfl ((if0 _ _).trans (teq h3).1) (by decide) (by decide) ?_
          show Steps p.tables e below (s₁.setTop (mkF m 29 #[.val (.int p1), .val (.int (own_u (own_u (own_zig p1)))), .val (.int (3 : Int32))] [])) _
          refine XS.iloadN X0.here hx rfl (hb hby dprog_150_method_2_code_29) rfl ?_
          exact kk)
        obtain ⟨fs, hr, hrun, hended, hW, hsame⟩ := X0.leave (v := some (.int (3 : Int32))) (fun h => by rw [Bd.returns] at h; cases h)
        refine ⟨_, _, k16 _ ?_, hrun, hended, _, _, rfl, ?_, ⟨_, rfl⟩, hW, hsame.mono (by decide) (by decide)⟩
        · show Steps p.tables e below (s₁.setTop (mkF m 30 #[.val (.int p1), .val (.int (own_u (own_u (own_zig p1)))), .val (.int (3 : Int32))] [(.int (3 : Int32))])) _
          exact retI X0 hx Bd.returns (hb hby dprog_150_method_2_code_30) hr
        · show QS Z p1 h0 n0 _ s₁.heap _
          rw [e0]
          exact ⟨by simp [own_size, h1, h2, h3], rfl, rfl⟩
      · have k18 : Go p e below (s₁.setTop (entryFrame m #[(.int p1)] 3)) (s₁.setTop (mkF m 11 #[.val (.int p1), .val (.int (((own_u (own_u (own_zig p1))).toUInt32 >>> ((7 : Int32) &&& 31).toUInt32).toInt32)), .val (.int ((3 : Int32) + (1 : Int32)))] [])) := fun t kk => k15 t (by
          show Steps p.tables e below (s₁.setTop (mkF m 15 #[.val (.int p1), .val (.int (own_u (own_u (own_zig p1)))), .val (.int (3 : Int32))] [(.int ((own_u (own_u (own_zig p1))) &&& (-128 : Int32)))])) _
          refine XS.ifNo X0.here hx rfl (hb hby dprog_150_method_2_code_15) rfl ((if0 _ _).trans (feq h3).1) ?_
          show Steps p.tables e below (s₁.setTop (mkF m 18 #[.val (.int p1), .val (.int (own_u (own_u (own_zig p1)))), .val (.int (3 : Int32))] [])) _
          refine XS.iloadN X0.here hx rfl (hb hby dprog_150_method_2_code_18) rfl ?_
          show Steps p.tables e below (s₁.setTop (mkF m 19 #[.val (.int p1), .val (.int (own_u (own_u (own_zig p1)))), .val (.int (3 : Int32))] [(.int (own_u (own_u (own_zig p1))))])) _
          refine XS.bipush X0.here hx rfl (hb hby dprog_150_method_2_code_19) ?_
          show Steps p.tables e below (s₁.setTop (mkF m 21 #[.val (.int p1), .val (.int (own_u (own_u (own_zig p1)))), .val (.int (3 : Int32))] [(.int (7 : Int32)), (.int (own_u (own_u (own_zig p1))))])) _
          refine XS.iushr X0.here hx rfl (hb hby dprog_150_method_2_code_21) rfl ?_
          show Steps p.tables e below (s₁.setTop (mkF m 22 #[.val (.int p1), .val (.int (own_u (own_u (own_zig p1)))), .val (.int (3 : Int32))] [(.int (((own_u (own_u (own_zig p1))).toUInt32 >>> ((7 : Int32) &&& 31).toUInt32).toInt32))])) _
          refine XS.istoreN X0.here hx rfl (hb hby dprog_150_method_2_code_22) rfl (l' := #[.val (.int p1), .val (.int (((own_u (own_u (own_zig p1))).toUInt32 >>> ((7 : Int32) &&& 31).toUInt32).toInt32)), .val (.int (3 : Int32))]) rfl ?_
          show Steps p.tables e below (s₁.setTop (mkF m 23 #[.val (.int p1), .val (.int (((own_u (own_u (own_zig p1))).toUInt32 >>> ((7 : Int32) &&& 31).toUInt32).toInt32)), .val (.int (3 : Int32))] [])) _
          refine XS.iinc X0.here hx rfl (hb hby dprog_150_method_2_code_23) rfl (l' := #[.val (.int p1), .val (.int (((own_u (own_u (own_zig p1))).toUInt32 >>> ((7 : Int32) &&& 31).toUInt32).toInt32)), .val (.int ((3 : Int32) + (1 : Int32)))]) rfl ?_
          show Steps p.tables e below (s₁.setTop (mkF m 26 #[.val (.int p1), .val (.int (((own_u (own_u (own_zig p1))).toUInt32 >>> ((7 : Int32) &&& 31).toUInt32).toInt32)), .val (.int ((3 : Int32) + (1 : Int32)))] [])) _
          refine XS.goto X0.here hx rfl (pc0 := 26) (pc' := 11) rfl (hb hby dprog_150_method_2_code_26) (by decide) (by decide) ?_
          exact kk)
        have k19 : Go p e below (s₁.setTop (entryFrame m #[(.int p1)] 3)) (s₁.setTop (mkF m 11 #[.val (.int p1), .val (.int (own_u (own_u (own_u (own_zig p1))))), .val (.int ((3 : Int32) + (1 : Int32)))] [])) := k18
        have k20 : Go p e below (s₁.setTop (entryFrame m #[(.int p1)] 3)) (s₁.setTop (mkF m 11 #[.val (.int p1), .val (.int (own_u (own_u (own_u (own_zig p1))))), .val (.int (4 : Int32))] [])) := k19
        have k21 : Go p e below (s₁.setTop (entryFrame m #[(.int p1)] 3)) (s₁.setTop (mkF m 15 #[.val (.int p1), .val (.int (own_u (own_u (own_u (own_zig p1))))), .val (.int (4 : Int32))] [(.int ((own_u (own_u (own_u (own_zig p1)))) &&& (-128 : Int32)))])) := fun t kk => k20 t (by
          show Steps p.tables e below (s₁.setTop (mkF m 11 #[.val (.int p1), .val (.int (own_u (own_u (own_u (own_zig p1))))), .val (.int (4 : Int32))] [])) _
          refine XS.iloadN X0.here hx rfl (hb hby dprog_150_method_2_code_11) rfl ?_
          show Steps p.tables e below (s₁.setTop (mkF m 12 #[.val (.int p1), .val (.int (own_u (own_u (own_u (own_zig p1))))), .val (.int (4 : Int32))] [(.int (own_u (own_u (own_u (own_zig p1)))))])) _
          refine XS.bipush X0.here hx rfl (hb hby dprog_150_method_2_code_12) ?_
          show Steps p.tables e below (s₁.setTop (mkF m 14 #[.val (.int p1), .val (.int (own_u (own_u (own_u (own_zig p1))))), .val (.int (4 : Int32))] [(.int (-128 : Int32)), (.int (own_u (own_u (own_u (own_zig p1)))))])) _
          refine XS.iand X0.here hx rfl (hb hby dprog_150_method_2_code_14) rfl ?_
          exact kk)
        by_cases h4 : ((own_u (own_u (own_u (own_zig p1)))) &&& (-128 : Int32)) = (0 : Int32)
        · have k22 : Go p e below (s₁.setTop (entryFrame m #[(.int p1)] 3)) (s₁.setTop (mkF m 30 #[.val (.int p1), .val (.int (own_u (own_u (own_u (own_zig p1))))), .val (.int (4 : Int32))] [(.int (4 : Int32))])) := fun t kk => k21 t (by
            show Steps p.tables e below (s₁.setTop (mkF m 15 #[.val (.int p1), .val (.int (own_u (own_u (own_u (own_zig p1))))), .val (.int (4 : Int32))] [(.int ((own_u (own_u (own_u (own_zig p1)))) &&& (-128 : Int32)))])) _
            refine XS.ifYes X0.here hx rfl (pc0 := 15) (pc' := 29) rfl (hb hby dprog_150_method_2_code_15) rfl ((if0 _ _).trans (teq h4).1) (by decide) (by decide) ?_
            show Steps p.tables e below (s₁.setTop (mkF m 29 #[.val (.int p1), .val (.int (own_u (own_u (own_u (own_zig p1))))), .val (.int (4 : Int32))] [])) _
            refine XS.iloadN X0.here hx rfl (hb hby dprog_150_method_2_code_29) rfl ?_
            exact kk)
          obtain ⟨fs, hr, hrun, hended, hW, hsame⟩ := X0.leave (v := some (.int (4 : Int32))) (fun h => by rw [Bd.returns] at h; cases h)
          refine ⟨_, _, k22 _ ?_, hrun, hended, _, _, rfl, ?_, ⟨_, rfl⟩, hW, hsame.mono (by decide) (by decide)⟩
          · show Steps p.tables e below (s₁.setTop (mkF m 30 #[.val (.int p1), .val (.int (own_u (own_u (own_u (own_zig p1))))), .val (.int (4 : Int32))] [(.int (4 : Int32))])) _
            exact retI X0 hx Bd.returns (hb hby dprog_150_method_2_code_30) hr
          · show QS Z p1 h0 n0 _ s₁.heap _
            rw [e0]
            exact ⟨by simp [own_size, h1, h2, h3, h4], rfl, rfl⟩
        · have k24 : Go p e below (s₁.setTop (entryFrame m #[(.int p1)] 3)) (s₁.setTop (mkF m 11 #[.val (.int p1), .val (.int (((own_u (own_u (own_u (own_zig p1)))).toUInt32 >>> ((7 : Int32) &&& 31).toUInt32).toInt32)), .val (.int ((4 : Int32) + (1 : Int32)))] [])) := fun t kk => k21 t (by
            show Steps p.tables e below (s₁.setTop (mkF m 15 #[.val (.int p1), .val (.int (own_u (own_u (own_u (own_zig p1))))), .val (.int (4 : Int32))] [(.int ((own_u (own_u (own_u (own_zig p1)))) &&& (-128 : Int32)))])) _
            refine XS.ifNo X0.here hx rfl (hb hby dprog_150_method_2_code_15) rfl ((if0 _ _).trans (feq h4).1) ?_
            show Steps p.tables e below (s₁.setTop (mkF m 18 #[.val (.int p1), .val (.int (own_u (own_u (own_u (own_zig p1))))), .val (.int (4 : Int32))] [])) _
            refine XS.iloadN X0.here hx rfl (hb hby dprog_150_method_2_code_18) rfl ?_
            show Steps p.tables e below (s₁.setTop (mkF m 19 #[.val (.int p1), .val (.int (own_u (own_u (own_u (own_zig p1))))), .val (.int (4 : Int32))] [(.int (own_u (own_u (own_u (own_zig p1)))))])) _
            refine XS.bipush X0.here hx rfl (hb hby dprog_150_method_2_code_19) ?_
            show Steps p.tables e below (s₁.setTop (mkF m 21 #[.val (.int p1), .val (.int (own_u (own_u (own_u (own_zig p1))))), .val (.int (4 : Int32))] [(.int (7 : Int32)), (.int (own_u (own_u (own_u (own_zig p1)))))])) _
            refine XS.iushr X0.here hx rfl (hb hby dprog_150_method_2_code_21) rfl ?_
            show Steps p.tables e below (s₁.setTop (mkF m 22 #[.val (.int p1), .val (.int (own_u (own_u (own_u (own_zig p1))))), .val (.int (4 : Int32))] [(.int (((own_u (own_u (own_u (own_zig p1)))).toUInt32 >>> ((7 : Int32) &&& 31).toUInt32).toInt32))])) _
            refine XS.istoreN X0.here hx rfl (hb hby dprog_150_method_2_code_22) rfl (l' := #[.val (.int p1), .val (.int (((own_u (own_u (own_u (own_zig p1)))).toUInt32 >>> ((7 : Int32) &&& 31).toUInt32).toInt32)), .val (.int (4 : Int32))]) rfl ?_
            show Steps p.tables e below (s₁.setTop (mkF m 23 #[.val (.int p1), .val (.int (((own_u (own_u (own_u (own_zig p1)))).toUInt32 >>> ((7 : Int32) &&& 31).toUInt32).toInt32)), .val (.int (4 : Int32))] [])) _
            refine XS.iinc X0.here hx rfl (hb hby dprog_150_method_2_code_23) rfl (l' := #[.val (.int p1), .val (.int (((own_u (own_u (own_u (own_zig p1)))).toUInt32 >>> ((7 : Int32) &&& 31).toUInt32).toInt32)), .val (.int ((4 : Int32) + (1 : Int32)))]) rfl ?_
            show Steps p.tables e below (s₁.setTop (mkF m 26 #[.val (.int p1), .val (.int (((own_u (own_u (own_u (own_zig p1)))).toUInt32 >>> ((7 : Int32) &&& 31).toUInt32).toInt32)), .val (.int ((4 : Int32) + (1 : Int32)))] [])) _
            refine XS.goto X0.here hx rfl (pc0 := 26) (pc' := 11) rfl (hb hby dprog_150_method_2_code_26) (by decide) (by decide) ?_
            exact kk)
          have k25 : Go p e below (s₁.setTop (entryFrame m #[(.int p1)] 3)) (s₁.setTop (mkF m 11 #[.val (.int p1), .val (.int (own_u (own_u (own_u (own_u (own_zig p1)))))), .val (.int ((4 : Int32) + (1 : Int32)))] [])) := k24
          have k26 : Go p e below (s₁.setTop (entryFrame m #[(.int p1)] 3)) (s₁.setTop (mkF m 11 #[.val (.int p1), .val (.int (own_u (own_u (own_u (own_u (own_zig p1)))))), .val (.int (5 : Int32))] [])) := k25
          have hl : ((own_u (own_u (own_u (own_u (own_zig p1))))) &&& (-128 : Int32)) = (0 : Int32) := own_last p1
          have k27 : Go p e below (s₁.setTop (entryFrame m #[(.int p1)] 3)) (s₁.setTop (mkF m 30 #[.val (.int p1), .val (.int (own_u (own_u (own_u (own_u (own_zig p1)))))), .val (.int (5 : Int32))] [(.int (5 : Int32))])) := fun t kk => k26 t (by
            show Steps p.tables e below (s₁.setTop (mkF m 11 #[.val (.int p1), .val (.int (own_u (own_u (own_u (own_u (own_zig p1)))))), .val (.int (5 : Int32))] [])) _
            refine XS.iloadN X0.here hx rfl (hb hby dprog_150_method_2_code_11) rfl ?_
            show Steps p.tables e below (s₁.setTop (mkF m 12 #[.val (.int p1), .val (.int (own_u (own_u (own_u (own_u (own_zig p1)))))), .val (.int (5 : Int32))] [(.int (own_u (own_u (own_u (own_u (own_zig p1))))))])) _
            refine XS.bipush X0.here hx rfl (hb hby dprog_150_method_2_code_12) ?_
            show Steps p.tables e below (s₁.setTop (mkF m 14 #[.val (.int p1), .val (.int (own_u (own_u (own_u (own_u (own_zig p1)))))), .val (.int (5 : Int32))] [(.int (-128 : Int32)), (.int (own_u (own_u (own_u (own_u (own_zig p1))))))])) _
            refine XS.iand X0.here hx rfl (hb hby dprog_150_method_2_code_14) rfl ?_
            show Steps p.tables e below (s₁.setTop (mkF m 15 #[.val (.int p1), .val (.int (own_u (own_u (own_u (own_u (own_zig p1)))))), .val (.int (5 : Int32))] [(.int ((own_u (own_u (own_u (own_u (own_zig p1))))) &&& (-128 : Int32)))])) _
            refine XS.ifYes X0.here hx rfl (pc0 := 15) (pc' := 29) rfl (hb hby dprog_150_method_2_code_15) rfl ((if0 _ _).trans (teq hl).1) (by decide) (by decide) ?_
            show Steps p.tables e below (s₁.setTop (mkF m 29 #[.val (.int p1), .val (.int (own_u (own_u (own_u (own_u (own_zig p1)))))), .val (.int (5 : Int32))] [])) _
            refine XS.iloadN X0.here hx rfl (hb hby dprog_150_method_2_code_29) rfl ?_
            exact kk)
          obtain ⟨fs, hr, hrun, hended, hW, hsame⟩ := X0.leave (v := some (.int (5 : Int32))) (fun h => by rw [Bd.returns] at h; cases h)
          refine ⟨_, _, k27 _ ?_, hrun, hended, _, _, rfl, ?_, ⟨_, rfl⟩, hW, hsame.mono (by decide) (by decide)⟩
          · show Steps p.tables e below (s₁.setTop (mkF m 30 #[.val (.int p1), .val (.int (own_u (own_u (own_u (own_u (own_zig p1)))))), .val (.int (5 : Int32))] [(.int (5 : Int32))])) _
            exact retI X0 hx Bd.returns (hb hby dprog_150_method_2_code_30) hr
          · show QS Z p1 h0 n0 _ s₁.heap _
            rw [e0]
            exact ⟨by simp [own_size, h1, h2, h3, h4], rfl, rfl⟩
theorem dmethod_2_code_0 : decode method_2_code 0 = .ok (.iload_n 0, 1) := by decide +kernel
theorem dmethod_2_code_1 : decode method_2_code 1 = .ok (.bipush (-64), 2) := by decide +kernel
theorem dmethod_2_code_3 : decode method_2_code 3 = .ok (.if_icmp .lt 11, 3) := by decide +kernel
theorem dmethod_2_code_14 : decode method_2_code 14 = .ok (.iload_n 0, 1) := by decide +kernel
theorem dmethod_2_code_15 : decode method_2_code 15 = .ok (.sipush (-8192), 3) := by decide +kernel
theorem dmethod_2_code_18 : decode method_2_code 18 = .ok (.if_icmp .lt 12, 3) := by decide +kernel
theorem dmethod_2_code_30 : decode method_2_code 30 = .ok (.iload_n 0, 1) := by decide +kernel
theorem dmethod_2_code_31 : decode method_2_code 31 = .ok (.ldc 7, 2) := by decide +kernel
theorem dmethod_2_code_33 : decode method_2_code 33 = .ok (.if_icmp .lt 11, 3) := by decide +kernel
theorem dmethod_2_code_44 : decode method_2_code 44 = .ok (.iload_n 0, 1) := by decide +kernel
theorem dmethod_2_code_45 : decode method_2_code 45 = .ok (.ldc 9, 2) := by decide +kernel
theorem dmethod_2_code_47 : decode method_2_code 47 = .ok (.if_icmp .lt 11, 3) := by decide +kernel
theorem dmethod_2_code_58 : decode method_2_code 58 = .ok (.iconst 5, 1) := by decide +kernel
theorem dmethod_2_code_59 : decode method_2_code 59 = .ok (.ireturn, 1) := by decide +kernel
theorem dmethod_2_code_50 : decode method_2_code 50 = .ok (.iload_n 0, 1) := by decide +kernel
theorem dmethod_2_code_51 : decode method_2_code 51 = .ok (.ldc 10, 2) := by decide +kernel
theorem dmethod_2_code_53 : decode method_2_code 53 = .ok (.if_icmp .gt 5, 3) := by decide +kernel
theorem dmethod_2_code_56 : decode method_2_code 56 = .ok (.iconst 4, 1) := by decide +kernel
theorem dmethod_2_code_57 : decode method_2_code 57 = .ok (.ireturn, 1) := by decide +kernel
theorem dmethod_2_code_36 : decode method_2_code 36 = .ok (.iload_n 0, 1) := by decide +kernel
theorem dmethod_2_code_37 : decode method_2_code 37 = .ok (.ldc 8, 2) := by decide +kernel
theorem dmethod_2_code_39 : decode method_2_code 39 = .ok (.if_icmp .gt 5, 3) := by decide +kernel
theorem dmethod_2_code_42 : decode method_2_code 42 = .ok (.iconst 3, 1) := by decide +kernel
theorem dmethod_2_code_43 : decode method_2_code 43 = .ok (.ireturn, 1) := by decide +kernel
theorem dmethod_2_code_21 : decode method_2_code 21 = .ok (.iload_n 0, 1) := by decide +kernel
theorem dmethod_2_code_22 : decode method_2_code 22 = .ok (.sipush 8191, 3) := by decide +kernel
theorem dmethod_2_code_25 : decode method_2_code 25 = .ok (.if_icmp .gt 5, 3) := by decide +kernel
theorem dmethod_2_code_28 : decode method_2_code 28 = .ok (.iconst 2, 1) := by decide +kernel
theorem dmethod_2_code_29 : decode method_2_code 29 = .ok (.ireturn, 1) := by decide +kernel
theorem dmethod_2_code_6 : decode method_2_code 6 = .ok (.iload_n 0, 1) := by decide +kernel
theorem dmethod_2_code_7 : decode method_2_code 7 = .ok (.bipush 63, 2) := by decide +kernel
theorem dmethod_2_code_9 : decode method_2_code 9 = .ok (.if_icmp .gt 5, 3) := by decide +kernel
theorem dmethod_2_code_12 : decode method_2_code 12 = .ok (.iconst 1, 1) := by decide +kernel
theorem dmethod_2_code_13 : decode method_2_code 13 = .ok (.ireturn, 1) := by decide +kernel
theorem ef_rmE (m : MethodId) (x0 : Int32) : entryFrame m #[(.int x0)] 1 = mkF m 0 #[.val (.int x0)] [] := by first | (simp [entryFrame, mkF, argsToLocals, Value.category]; done) | rfl
def QE (Z : State) (p1 : Int32) (h0 : Heap) (n0 : Nat) (v : Option Value) (h : Heap) (L : List Loc) : Prop := v = some (.int (own_exp p1)) ∧ L = [] ∧ h = h0
theorem pn_1 : plainName "com/example/wasserstand/wasserstand/log/VarintSizeOfIntPinLaw" = true := by first | (simp [plainName, overriddenIn]; done) | decide +kernel
set_option maxRecDepth 65536 in
set_option maxHeartbeats 40000000 in
theorem rmE (l : Launch) (Z : State) (a0 : Array Value) (hw : ∀ d ∈ tables_1, d.before a0 Z = true) (ws : List Jvm.Cond) (p1 : Int32) (h0 : Heap) (n0 : Nat) (Z0 : n0 ≤ h0.size) :
    MetFree l (⟨"com/example/wasserstand/wasserstand/log/VarintSizeOfIntPinLaw", "expected", "(I)I"⟩ : MethodName) (head1 (Jvm.Cond.code (⟨"com/example/wasserstand/wasserstand/log/VarintSizeOfIntPinLaw", "expected", "(I)I"⟩ : MethodName) method_2_code 1 (some .int) :: ws) ({ frames := 0, cells := 0, slots := 0, locals := 0 } : Room)) (fun a U => a = #[(.int p1)] ∧ Z.Warmed39 U.vm ∧ U.heap = h0) (fun _ _ _ _ _ => True) (fun _ U o U' => ∃ v L, o = .returned v ∧ QE Z p1 h0 n0 v U'.heap L ∧ FrameEnd U o U' L ({ frames := 0, cells := 0, slots := 0, locals := 0 } : Room).cells ({ frames := 0, cells := 0, slots := 0, locals := 0 } : Room).slots) := by
  refine MetFree.of_bodySF (plainFor_of_name pn_1) hisR ?_
  intro p e s m args below meth c s₁ Bd hml0 hP hK
  obtain ⟨rfl, hZ, hh⟩ := hP
  have hx := Bd.exec
  have hby := Bd.bytes
  have hml : c.maxLocals = 1 := hml0
  have hown : s.vm.findClass "com/example/wasserstand/wasserstand/log/VarintSizeOfIntPinLaw" = some m.cls := findClass_of_methodNamed Bd.named
  have hnm := (name_of_methodNamed Bd.named Bd.method).1
  have X0 : Stand p l e ({ frames := 0, cells := 0, slots := 0, locals := 0 } : Room) s m #[(.int p1)] below meth c s₁ [] 0 0 := Stand.of_body Bd
  have e0 : s₁.heap = h0 := by rw [← hh, Bd.state]; rfl
  have N0 := Fr.nil n0
  have k0 : Go p e below (s₁.setTop (entryFrame m #[(.int p1)] 1)) (s₁.setTop (mkF m 0 #[.val (.int p1)] [])) := fun t k => castTop (ef_rmE m p1) k
  have k2 : Go p e below (s₁.setTop (entryFrame m #[(.int p1)] 1)) (s₁.setTop (mkF m 3 #[.val (.int p1)] [(.int (-64 : Int32)), (.int p1)])) := fun t kk => k0 t (by
    show Steps p.tables e below (s₁.setTop (mkF m 0 #[.val (.int p1)] [])) _
    refine XS.iloadN X0.here hx rfl (hb hby dmethod_2_code_0) rfl ?_
    show Steps p.tables e below (s₁.setTop (mkF m 1 #[.val (.int p1)] [(.int p1)])) _
    refine XS.bipush X0.here hx rfl (hb hby dmethod_2_code_1) ?_
    exact kk)
  by_cases hc3_1 : p1 < (-64 : Int32)
  · have k4 : Go p e below (s₁.setTop (entryFrame m #[(.int p1)] 1)) (s₁.setTop (mkF m 18 #[.val (.int p1)] [(.int (-8192 : Int32)), (.int p1)])) := fun t kk => k2 t (by
      show Steps p.tables e below (s₁.setTop (mkF m 3 #[.val (.int p1)] [(.int (-64 : Int32)), (.int p1)])) _
      refine XS.icmpYes X0.here hx rfl (pc0 := 3) (pc' := 14) rfl (hb hby dmethod_2_code_3) rfl (tlt hc3_1).1 (by decide) (by decide) ?_
      show Steps p.tables e below (s₁.setTop (mkF m 14 #[.val (.int p1)] [])) _
      refine XS.iloadN X0.here hx rfl (hb hby dmethod_2_code_14) rfl ?_
      show Steps p.tables e below (s₁.setTop (mkF m 15 #[.val (.int p1)] [(.int p1)])) _
      refine XS.sipush X0.here hx rfl (hb hby dmethod_2_code_15) ?_
      exact kk)
    by_cases hc18_3 : p1 < (-8192 : Int32)
    · have k6 : Go p e below (s₁.setTop (entryFrame m #[(.int p1)] 1)) (s₁.setTop (mkF m 33 #[.val (.int p1)] [(.int (-1048576 : Int32)), (.int p1)])) := fun t kk => k4 t (by
        show Steps p.tables e below (s₁.setTop (mkF m 18 #[.val (.int p1)] [(.int (-8192 : Int32)), (.int p1)])) _
        refine XS.icmpYes X0.here hx rfl (pc0 := 18) (pc' := 30) rfl (hb hby dmethod_2_code_18) rfl (tlt hc18_3).1 (by decide) (by decide) ?_
        show Steps p.tables e below (s₁.setTop (mkF m 30 #[.val (.int p1)] [])) _
        refine XS.iloadN X0.here hx rfl (hb hby dmethod_2_code_30) rfl ?_
        show Steps p.tables e below (s₁.setTop (mkF m 31 #[.val (.int p1)] [(.int p1)])) _
        refine X0.ldcInt hx hown (mvT hZ (hw _ (List.mem_of_getElem? (i := 8) rfl))) (g := (mkF m 31 #[.val (.int p1)] [(.int p1)])) rfl (hb hby dmethod_2_code_31) _ ?_
        exact kk)
      by_cases hc33_5 : p1 < (-1048576 : Int32)
      · have k8 : Go p e below (s₁.setTop (entryFrame m #[(.int p1)] 1)) (s₁.setTop (mkF m 47 #[.val (.int p1)] [(.int (-134217728 : Int32)), (.int p1)])) := fun t kk => k6 t (by
          show Steps p.tables e below (s₁.setTop (mkF m 33 #[.val (.int p1)] [(.int (-1048576 : Int32)), (.int p1)])) _
          refine XS.icmpYes X0.here hx rfl (pc0 := 33) (pc' := 44) rfl (hb hby dmethod_2_code_33) rfl (tlt hc33_5).1 (by decide) (by decide) ?_
          show Steps p.tables e below (s₁.setTop (mkF m 44 #[.val (.int p1)] [])) _
          refine XS.iloadN X0.here hx rfl (hb hby dmethod_2_code_44) rfl ?_
          show Steps p.tables e below (s₁.setTop (mkF m 45 #[.val (.int p1)] [(.int p1)])) _
          refine X0.ldcInt hx hown (mvT hZ (hw _ (List.mem_of_getElem? (i := 10) rfl))) (g := (mkF m 45 #[.val (.int p1)] [(.int p1)])) rfl (hb hby dmethod_2_code_45) _ ?_
          exact kk)
        by_cases hc47_7 : p1 < (-134217728 : Int32)
        · have k9 : Go p e below (s₁.setTop (entryFrame m #[(.int p1)] 1)) (s₁.setTop (mkF m 59 #[.val (.int p1)] [(.int (5 : Int32))])) := fun t kk => k8 t (by
            show Steps p.tables e below (s₁.setTop (mkF m 47 #[.val (.int p1)] [(.int (-134217728 : Int32)), (.int p1)])) _
            refine XS.icmpYes X0.here hx rfl (pc0 := 47) (pc' := 58) rfl (hb hby dmethod_2_code_47) rfl (tlt hc47_7).1 (by decide) (by decide) ?_
            show Steps p.tables e below (s₁.setTop (mkF m 58 #[.val (.int p1)] [])) _
            refine XS.iconst X0.here hx rfl (hb hby dmethod_2_code_58) ?_
            exact kk)
          obtain ⟨fs, hr, hrun, hended, hW, hsame⟩ := X0.leave (v := some (.int (5 : Int32))) (fun h => by rw [Bd.returns] at h; cases h)
          refine ⟨_, _, k9 _ ?_, hrun, hended, _, _, rfl, ?_, ⟨_, rfl⟩, hW, hsame.mono (by decide) (by decide)⟩
          · show Steps p.tables e below (s₁.setTop (mkF m 59 #[.val (.int p1)] [(.int (5 : Int32))])) _
            exact retI X0 hx Bd.returns (hb hby dmethod_2_code_59) hr
          · show QE Z p1 h0 n0 _ s₁.heap _
            rw [e0]
            exact ⟨by simp [own_exp, hc3_1, hc18_3, hc33_5, hc47_7], rfl, rfl⟩
        · have k12 : Go p e below (s₁.setTop (entryFrame m #[(.int p1)] 1)) (s₁.setTop (mkF m 53 #[.val (.int p1)] [(.int (134217727 : Int32)), (.int p1)])) := fun t kk => k8 t (by
            show Steps p.tables e below (s₁.setTop (mkF m 47 #[.val (.int p1)] [(.int (-134217728 : Int32)), (.int p1)])) _
            refine XS.icmpNo X0.here hx rfl (hb hby dmethod_2_code_47) rfl (flt hc47_7).1 ?_
            show Steps p.tables e below (s₁.setTop (mkF m 50 #[.val (.int p1)] [])) _
            refine XS.iloadN X0.here hx rfl (hb hby dmethod_2_code_50) rfl ?_
            show Steps p.tables e below (s₁.setTop (mkF m 51 #[.val (.int p1)] [(.int p1)])) _
            refine X0.ldcInt hx hown (mvT hZ (hw _ (List.mem_of_getElem? (i := 11) rfl))) (g := (mkF m 51 #[.val (.int p1)] [(.int p1)])) rfl (hb hby dmethod_2_code_51) _ ?_
            exact kk)
          by_cases hc53_11 : (134217727 : Int32) < p1
          · have k13 : Go p e below (s₁.setTop (entryFrame m #[(.int p1)] 1)) (s₁.setTop (mkF m 59 #[.val (.int p1)] [(.int (5 : Int32))])) := fun t kk => k12 t (by
              show Steps p.tables e below (s₁.setTop (mkF m 53 #[.val (.int p1)] [(.int (134217727 : Int32)), (.int p1)])) _
              refine XS.icmpYes X0.here hx rfl (pc0 := 53) (pc' := 58) rfl (hb hby dmethod_2_code_53) rfl (tlt hc53_11).2.2.1 (by decide) (by decide) ?_
              show Steps p.tables e below (s₁.setTop (mkF m 58 #[.val (.int p1)] [])) _
              refine XS.iconst X0.here hx rfl (hb hby dmethod_2_code_58) ?_
              exact kk)
            obtain ⟨fs, hr, hrun, hended, hW, hsame⟩ := X0.leave (v := some (.int (5 : Int32))) (fun h => by rw [Bd.returns] at h; cases h)
            refine ⟨_, _, k13 _ ?_, hrun, hended, _, _, rfl, ?_, ⟨_, rfl⟩, hW, hsame.mono (by decide) (by decide)⟩
            · show Steps p.tables e below (s₁.setTop (mkF m 59 #[.val (.int p1)] [(.int (5 : Int32))])) _
              exact retI X0 hx Bd.returns (hb hby dmethod_2_code_59) hr
            · show QE Z p1 h0 n0 _ s₁.heap _
              rw [e0]
              exact ⟨by simp [own_exp, hc3_1, hc18_3, hc33_5, hc47_7, hc53_11], rfl, rfl⟩
          · have k15 : Go p e below (s₁.setTop (entryFrame m #[(.int p1)] 1)) (s₁.setTop (mkF m 57 #[.val (.int p1)] [(.int (4 : Int32))])) := fun t kk => k12 t (by
              show Steps p.tables e below (s₁.setTop (mkF m 53 #[.val (.int p1)] [(.int (134217727 : Int32)), (.int p1)])) _
              refine XS.icmpNo X0.here hx rfl (hb hby dmethod_2_code_53) rfl (flt hc53_11).2.2.1 ?_
              show Steps p.tables e below (s₁.setTop (mkF m 56 #[.val (.int p1)] [])) _
              refine XS.iconst X0.here hx rfl (hb hby dmethod_2_code_56) ?_
              exact kk)
            obtain ⟨fs, hr, hrun, hended, hW, hsame⟩ := X0.leave (v := some (.int (4 : Int32))) (fun h => by rw [Bd.returns] at h; cases h)
            refine ⟨_, _, k15 _ ?_, hrun, hended, _, _, rfl, ?_, ⟨_, rfl⟩, hW, hsame.mono (by decide) (by decide)⟩
            · show Steps p.tables e below (s₁.setTop (mkF m 57 #[.val (.int p1)] [(.int (4 : Int32))])) _
              exact retI X0 hx Bd.returns (hb hby dmethod_2_code_57) hr
            · show QE Z p1 h0 n0 _ s₁.heap _
              rw [e0]
              exact ⟨by simp [own_exp, hc3_1, hc18_3, hc33_5, hc47_7, hc53_11], rfl, rfl⟩
      · have k18 : Go p e below (s₁.setTop (entryFrame m #[(.int p1)] 1)) (s₁.setTop (mkF m 39 #[.val (.int p1)] [(.int (1048575 : Int32)), (.int p1)])) := fun t kk => k6 t (by
          show Steps p.tables e below (s₁.setTop (mkF m 33 #[.val (.int p1)] [(.int (-1048576 : Int32)), (.int p1)])) _
          refine XS.icmpNo X0.here hx rfl (hb hby dmethod_2_code_33) rfl (flt hc33_5).1 ?_
          show Steps p.tables e below (s₁.setTop (mkF m 36 #[.val (.int p1)] [])) _
          refine XS.iloadN X0.here hx rfl (hb hby dmethod_2_code_36) rfl ?_
          show Steps p.tables e below (s₁.setTop (mkF m 37 #[.val (.int p1)] [(.int p1)])) _
          refine X0.ldcInt hx hown (mvT hZ (hw _ (List.mem_of_getElem? (i := 9) rfl))) (g := (mkF m 37 #[.val (.int p1)] [(.int p1)])) rfl (hb hby dmethod_2_code_37) _ ?_
          exact kk)
        by_cases hc39_17 : (1048575 : Int32) < p1
        · have k20 : Go p e below (s₁.setTop (entryFrame m #[(.int p1)] 1)) (s₁.setTop (mkF m 47 #[.val (.int p1)] [(.int (-134217728 : Int32)), (.int p1)])) := fun t kk => k18 t (by
            show Steps p.tables e below (s₁.setTop (mkF m 39 #[.val (.int p1)] [(.int (1048575 : Int32)), (.int p1)])) _
            refine XS.icmpYes X0.here hx rfl (pc0 := 39) (pc' := 44) rfl (hb hby dmethod_2_code_39) rfl (tlt hc39_17).2.2.1 (by decide) (by decide) ?_
            show Steps p.tables e below (s₁.setTop (mkF m 44 #[.val (.int p1)] [])) _
            refine XS.iloadN X0.here hx rfl (hb hby dmethod_2_code_44) rfl ?_
            show Steps p.tables e below (s₁.setTop (mkF m 45 #[.val (.int p1)] [(.int p1)])) _
            refine X0.ldcInt hx hown (mvT hZ (hw _ (List.mem_of_getElem? (i := 10) rfl))) (g := (mkF m 45 #[.val (.int p1)] [(.int p1)])) rfl (hb hby dmethod_2_code_45) _ ?_
            exact kk)
          by_cases hc47_19 : p1 < (-134217728 : Int32)
          · have k21 : Go p e below (s₁.setTop (entryFrame m #[(.int p1)] 1)) (s₁.setTop (mkF m 59 #[.val (.int p1)] [(.int (5 : Int32))])) := fun t kk => k20 t (by
              show Steps p.tables e below (s₁.setTop (mkF m 47 #[.val (.int p1)] [(.int (-134217728 : Int32)), (.int p1)])) _
              refine XS.icmpYes X0.here hx rfl (pc0 := 47) (pc' := 58) rfl (hb hby dmethod_2_code_47) rfl (tlt hc47_19).1 (by decide) (by decide) ?_
              show Steps p.tables e below (s₁.setTop (mkF m 58 #[.val (.int p1)] [])) _
              refine XS.iconst X0.here hx rfl (hb hby dmethod_2_code_58) ?_
              exact kk)
            obtain ⟨fs, hr, hrun, hended, hW, hsame⟩ := X0.leave (v := some (.int (5 : Int32))) (fun h => by rw [Bd.returns] at h; cases h)
            refine ⟨_, _, k21 _ ?_, hrun, hended, _, _, rfl, ?_, ⟨_, rfl⟩, hW, hsame.mono (by decide) (by decide)⟩
            · show Steps p.tables e below (s₁.setTop (mkF m 59 #[.val (.int p1)] [(.int (5 : Int32))])) _
              exact retI X0 hx Bd.returns (hb hby dmethod_2_code_59) hr
            · show QE Z p1 h0 n0 _ s₁.heap _
              rw [e0]
              exact ⟨by simp [own_exp, hc3_1, hc18_3, hc33_5, hc39_17, hc47_19], rfl, rfl⟩
          · have k24 : Go p e below (s₁.setTop (entryFrame m #[(.int p1)] 1)) (s₁.setTop (mkF m 53 #[.val (.int p1)] [(.int (134217727 : Int32)), (.int p1)])) := fun t kk => k20 t (by
              show Steps p.tables e below (s₁.setTop (mkF m 47 #[.val (.int p1)] [(.int (-134217728 : Int32)), (.int p1)])) _
              refine XS.icmpNo X0.here hx rfl (hb hby dmethod_2_code_47) rfl (flt hc47_19).1 ?_
              show Steps p.tables e below (s₁.setTop (mkF m 50 #[.val (.int p1)] [])) _
              refine XS.iloadN X0.here hx rfl (hb hby dmethod_2_code_50) rfl ?_
              show Steps p.tables e below (s₁.setTop (mkF m 51 #[.val (.int p1)] [(.int p1)])) _
              refine X0.ldcInt hx hown (mvT hZ (hw _ (List.mem_of_getElem? (i := 11) rfl))) (g := (mkF m 51 #[.val (.int p1)] [(.int p1)])) rfl (hb hby dmethod_2_code_51) _ ?_
              exact kk)
            by_cases hc53_23 : (134217727 : Int32) < p1
            · have k25 : Go p e below (s₁.setTop (entryFrame m #[(.int p1)] 1)) (s₁.setTop (mkF m 59 #[.val (.int p1)] [(.int (5 : Int32))])) := fun t kk => k24 t (by
                show Steps p.tables e below (s₁.setTop (mkF m 53 #[.val (.int p1)] [(.int (134217727 : Int32)), (.int p1)])) _
                refine XS.icmpYes X0.here hx rfl (pc0 := 53) (pc' := 58) rfl (hb hby dmethod_2_code_53) rfl (tlt hc53_23).2.2.1 (by decide) (by decide) ?_
                show Steps p.tables e below (s₁.setTop (mkF m 58 #[.val (.int p1)] [])) _
                refine XS.iconst X0.here hx rfl (hb hby dmethod_2_code_58) ?_
                exact kk)
              obtain ⟨fs, hr, hrun, hended, hW, hsame⟩ := X0.leave (v := some (.int (5 : Int32))) (fun h => by rw [Bd.returns] at h; cases h)
              refine ⟨_, _, k25 _ ?_, hrun, hended, _, _, rfl, ?_, ⟨_, rfl⟩, hW, hsame.mono (by decide) (by decide)⟩
              · show Steps p.tables e below (s₁.setTop (mkF m 59 #[.val (.int p1)] [(.int (5 : Int32))])) _
                exact retI X0 hx Bd.returns (hb hby dmethod_2_code_59) hr
              · show QE Z p1 h0 n0 _ s₁.heap _
                rw [e0]
                exact ⟨by simp [own_exp, hc3_1, hc18_3, hc33_5, hc39_17, hc47_19, hc53_23], rfl, rfl⟩
            · have k27 : Go p e below (s₁.setTop (entryFrame m #[(.int p1)] 1)) (s₁.setTop (mkF m 57 #[.val (.int p1)] [(.int (4 : Int32))])) := fun t kk => k24 t (by
                show Steps p.tables e below (s₁.setTop (mkF m 53 #[.val (.int p1)] [(.int (134217727 : Int32)), (.int p1)])) _
                refine XS.icmpNo X0.here hx rfl (hb hby dmethod_2_code_53) rfl (flt hc53_23).2.2.1 ?_
                show Steps p.tables e below (s₁.setTop (mkF m 56 #[.val (.int p1)] [])) _
                refine XS.iconst X0.here hx rfl (hb hby dmethod_2_code_56) ?_
                exact kk)
              obtain ⟨fs, hr, hrun, hended, hW, hsame⟩ := X0.leave (v := some (.int (4 : Int32))) (fun h => by rw [Bd.returns] at h; cases h)
              refine ⟨_, _, k27 _ ?_, hrun, hended, _, _, rfl, ?_, ⟨_, rfl⟩, hW, hsame.mono (by decide) (by decide)⟩
              · show Steps p.tables e below (s₁.setTop (mkF m 57 #[.val (.int p1)] [(.int (4 : Int32))])) _
                exact retI X0 hx Bd.returns (hb hby dmethod_2_code_57) hr
              · show QE Z p1 h0 n0 _ s₁.heap _
                rw [e0]
                exact ⟨by simp [own_exp, hc3_1, hc18_3, hc33_5, hc39_17, hc47_19, hc53_23], rfl, rfl⟩
        · have k29 : Go p e below (s₁.setTop (entryFrame m #[(.int p1)] 1)) (s₁.setTop (mkF m 43 #[.val (.int p1)] [(.int (3 : Int32))])) := fun t kk => k18 t (by
            show Steps p.tables e below (s₁.setTop (mkF m 39 #[.val (.int p1)] [(.int (1048575 : Int32)), (.int p1)])) _
            refine XS.icmpNo X0.here hx rfl (hb hby dmethod_2_code_39) rfl (flt hc39_17).2.2.1 ?_
            show Steps p.tables e below (s₁.setTop (mkF m 42 #[.val (.int p1)] [])) _
            refine XS.iconst X0.here hx rfl (hb hby dmethod_2_code_42) ?_
            exact kk)
          obtain ⟨fs, hr, hrun, hended, hW, hsame⟩ := X0.leave (v := some (.int (3 : Int32))) (fun h => by rw [Bd.returns] at h; cases h)
          refine ⟨_, _, k29 _ ?_, hrun, hended, _, _, rfl, ?_, ⟨_, rfl⟩, hW, hsame.mono (by decide) (by decide)⟩
          · show Steps p.tables e below (s₁.setTop (mkF m 43 #[.val (.int p1)] [(.int (3 : Int32))])) _
            exact retI X0 hx Bd.returns (hb hby dmethod_2_code_43) hr
          · show QE Z p1 h0 n0 _ s₁.heap _
            rw [e0]
            exact ⟨by simp [own_exp, hc3_1, hc18_3, hc33_5, hc39_17], rfl, rfl⟩
    · have k32 : Go p e below (s₁.setTop (entryFrame m #[(.int p1)] 1)) (s₁.setTop (mkF m 25 #[.val (.int p1)] [(.int (8191 : Int32)), (.int p1)])) := fun t kk => k4 t (by
        show Steps p.tables e below (s₁.setTop (mkF m 18 #[.val (.int p1)] [(.int (-8192 : Int32)), (.int p1)])) _
        refine XS.icmpNo X0.here hx rfl (hb hby dmethod_2_code_18) rfl (flt hc18_3).1 ?_
        show Steps p.tables e below (s₁.setTop (mkF m 21 #[.val (.int p1)] [])) _
        refine XS.iloadN X0.here hx rfl (hb hby dmethod_2_code_21) rfl ?_
        show Steps p.tables e below (s₁.setTop (mkF m 22 #[.val (.int p1)] [(.int p1)])) _
        refine XS.sipush X0.here hx rfl (hb hby dmethod_2_code_22) ?_
        exact kk)
      by_cases hc25_31 : (8191 : Int32) < p1
      · have k34 : Go p e below (s₁.setTop (entryFrame m #[(.int p1)] 1)) (s₁.setTop (mkF m 33 #[.val (.int p1)] [(.int (-1048576 : Int32)), (.int p1)])) := fun t kk => k32 t (by
          show Steps p.tables e below (s₁.setTop (mkF m 25 #[.val (.int p1)] [(.int (8191 : Int32)), (.int p1)])) _
          refine XS.icmpYes X0.here hx rfl (pc0 := 25) (pc' := 30) rfl (hb hby dmethod_2_code_25) rfl (tlt hc25_31).2.2.1 (by decide) (by decide) ?_
          show Steps p.tables e below (s₁.setTop (mkF m 30 #[.val (.int p1)] [])) _
          refine XS.iloadN X0.here hx rfl (hb hby dmethod_2_code_30) rfl ?_
          show Steps p.tables e below (s₁.setTop (mkF m 31 #[.val (.int p1)] [(.int p1)])) _
          refine X0.ldcInt hx hown (mvT hZ (hw _ (List.mem_of_getElem? (i := 8) rfl))) (g := (mkF m 31 #[.val (.int p1)] [(.int p1)])) rfl (hb hby dmethod_2_code_31) _ ?_
          exact kk)
        by_cases hc33_33 : p1 < (-1048576 : Int32)
        · have k36 : Go p e below (s₁.setTop (entryFrame m #[(.int p1)] 1)) (s₁.setTop (mkF m 47 #[.val (.int p1)] [(.int (-134217728 : Int32)), (.int p1)])) := fun t kk => k34 t (by
            show Steps p.tables e below (s₁.setTop (mkF m 33 #[.val (.int p1)] [(.int (-1048576 : Int32)), (.int p1)])) _
            refine XS.icmpYes X0.here hx rfl (pc0 := 33) (pc' := 44) rfl (hb hby dmethod_2_code_33) rfl (tlt hc33_33).1 (by decide) (by decide) ?_
            show Steps p.tables e below (s₁.setTop (mkF m 44 #[.val (.int p1)] [])) _
            refine XS.iloadN X0.here hx rfl (hb hby dmethod_2_code_44) rfl ?_
            show Steps p.tables e below (s₁.setTop (mkF m 45 #[.val (.int p1)] [(.int p1)])) _
            refine X0.ldcInt hx hown (mvT hZ (hw _ (List.mem_of_getElem? (i := 10) rfl))) (g := (mkF m 45 #[.val (.int p1)] [(.int p1)])) rfl (hb hby dmethod_2_code_45) _ ?_
            exact kk)
          by_cases hc47_35 : p1 < (-134217728 : Int32)
          · have k37 : Go p e below (s₁.setTop (entryFrame m #[(.int p1)] 1)) (s₁.setTop (mkF m 59 #[.val (.int p1)] [(.int (5 : Int32))])) := fun t kk => k36 t (by
              show Steps p.tables e below (s₁.setTop (mkF m 47 #[.val (.int p1)] [(.int (-134217728 : Int32)), (.int p1)])) _
              refine XS.icmpYes X0.here hx rfl (pc0 := 47) (pc' := 58) rfl (hb hby dmethod_2_code_47) rfl (tlt hc47_35).1 (by decide) (by decide) ?_
              show Steps p.tables e below (s₁.setTop (mkF m 58 #[.val (.int p1)] [])) _
              refine XS.iconst X0.here hx rfl (hb hby dmethod_2_code_58) ?_
              exact kk)
            obtain ⟨fs, hr, hrun, hended, hW, hsame⟩ := X0.leave (v := some (.int (5 : Int32))) (fun h => by rw [Bd.returns] at h; cases h)
            refine ⟨_, _, k37 _ ?_, hrun, hended, _, _, rfl, ?_, ⟨_, rfl⟩, hW, hsame.mono (by decide) (by decide)⟩
            · show Steps p.tables e below (s₁.setTop (mkF m 59 #[.val (.int p1)] [(.int (5 : Int32))])) _
              exact retI X0 hx Bd.returns (hb hby dmethod_2_code_59) hr
            · show QE Z p1 h0 n0 _ s₁.heap _
              rw [e0]
              exact ⟨by simp [own_exp, hc3_1, hc18_3, hc25_31, hc33_33, hc47_35], rfl, rfl⟩
          · have k40 : Go p e below (s₁.setTop (entryFrame m #[(.int p1)] 1)) (s₁.setTop (mkF m 53 #[.val (.int p1)] [(.int (134217727 : Int32)), (.int p1)])) := fun t kk => k36 t (by
              show Steps p.tables e below (s₁.setTop (mkF m 47 #[.val (.int p1)] [(.int (-134217728 : Int32)), (.int p1)])) _
              refine XS.icmpNo X0.here hx rfl (hb hby dmethod_2_code_47) rfl (flt hc47_35).1 ?_
              show Steps p.tables e below (s₁.setTop (mkF m 50 #[.val (.int p1)] [])) _
              refine XS.iloadN X0.here hx rfl (hb hby dmethod_2_code_50) rfl ?_
              show Steps p.tables e below (s₁.setTop (mkF m 51 #[.val (.int p1)] [(.int p1)])) _
              refine X0.ldcInt hx hown (mvT hZ (hw _ (List.mem_of_getElem? (i := 11) rfl))) (g := (mkF m 51 #[.val (.int p1)] [(.int p1)])) rfl (hb hby dmethod_2_code_51) _ ?_
              exact kk)
            by_cases hc53_39 : (134217727 : Int32) < p1
            · have k41 : Go p e below (s₁.setTop (entryFrame m #[(.int p1)] 1)) (s₁.setTop (mkF m 59 #[.val (.int p1)] [(.int (5 : Int32))])) := fun t kk => k40 t (by
                show Steps p.tables e below (s₁.setTop (mkF m 53 #[.val (.int p1)] [(.int (134217727 : Int32)), (.int p1)])) _
                refine XS.icmpYes X0.here hx rfl (pc0 := 53) (pc' := 58) rfl (hb hby dmethod_2_code_53) rfl (tlt hc53_39).2.2.1 (by decide) (by decide) ?_
                show Steps p.tables e below (s₁.setTop (mkF m 58 #[.val (.int p1)] [])) _
                refine XS.iconst X0.here hx rfl (hb hby dmethod_2_code_58) ?_
                exact kk)
              obtain ⟨fs, hr, hrun, hended, hW, hsame⟩ := X0.leave (v := some (.int (5 : Int32))) (fun h => by rw [Bd.returns] at h; cases h)
              refine ⟨_, _, k41 _ ?_, hrun, hended, _, _, rfl, ?_, ⟨_, rfl⟩, hW, hsame.mono (by decide) (by decide)⟩
              · show Steps p.tables e below (s₁.setTop (mkF m 59 #[.val (.int p1)] [(.int (5 : Int32))])) _
                exact retI X0 hx Bd.returns (hb hby dmethod_2_code_59) hr
              · show QE Z p1 h0 n0 _ s₁.heap _
                rw [e0]
                exact ⟨by simp [own_exp, hc3_1, hc18_3, hc25_31, hc33_33, hc47_35, hc53_39], rfl, rfl⟩
            · have k43 : Go p e below (s₁.setTop (entryFrame m #[(.int p1)] 1)) (s₁.setTop (mkF m 57 #[.val (.int p1)] [(.int (4 : Int32))])) := fun t kk => k40 t (by
                show Steps p.tables e below (s₁.setTop (mkF m 53 #[.val (.int p1)] [(.int (134217727 : Int32)), (.int p1)])) _
                refine XS.icmpNo X0.here hx rfl (hb hby dmethod_2_code_53) rfl (flt hc53_39).2.2.1 ?_
                show Steps p.tables e below (s₁.setTop (mkF m 56 #[.val (.int p1)] [])) _
                refine XS.iconst X0.here hx rfl (hb hby dmethod_2_code_56) ?_
                exact kk)
              obtain ⟨fs, hr, hrun, hended, hW, hsame⟩ := X0.leave (v := some (.int (4 : Int32))) (fun h => by rw [Bd.returns] at h; cases h)
              refine ⟨_, _, k43 _ ?_, hrun, hended, _, _, rfl, ?_, ⟨_, rfl⟩, hW, hsame.mono (by decide) (by decide)⟩
              · show Steps p.tables e below (s₁.setTop (mkF m 57 #[.val (.int p1)] [(.int (4 : Int32))])) _
                exact retI X0 hx Bd.returns (hb hby dmethod_2_code_57) hr
              · show QE Z p1 h0 n0 _ s₁.heap _
                rw [e0]
                exact ⟨by simp [own_exp, hc3_1, hc18_3, hc25_31, hc33_33, hc47_35, hc53_39], rfl, rfl⟩
        · have k46 : Go p e below (s₁.setTop (entryFrame m #[(.int p1)] 1)) (s₁.setTop (mkF m 39 #[.val (.int p1)] [(.int (1048575 : Int32)), (.int p1)])) := fun t kk => k34 t (by
            show Steps p.tables e below (s₁.setTop (mkF m 33 #[.val (.int p1)] [(.int (-1048576 : Int32)), (.int p1)])) _
            refine XS.icmpNo X0.here hx rfl (hb hby dmethod_2_code_33) rfl (flt hc33_33).1 ?_
            show Steps p.tables e below (s₁.setTop (mkF m 36 #[.val (.int p1)] [])) _
            refine XS.iloadN X0.here hx rfl (hb hby dmethod_2_code_36) rfl ?_
            show Steps p.tables e below (s₁.setTop (mkF m 37 #[.val (.int p1)] [(.int p1)])) _
            refine X0.ldcInt hx hown (mvT hZ (hw _ (List.mem_of_getElem? (i := 9) rfl))) (g := (mkF m 37 #[.val (.int p1)] [(.int p1)])) rfl (hb hby dmethod_2_code_37) _ ?_
            exact kk)
          by_cases hc39_45 : (1048575 : Int32) < p1
          · have k48 : Go p e below (s₁.setTop (entryFrame m #[(.int p1)] 1)) (s₁.setTop (mkF m 47 #[.val (.int p1)] [(.int (-134217728 : Int32)), (.int p1)])) := fun t kk => k46 t (by
              show Steps p.tables e below (s₁.setTop (mkF m 39 #[.val (.int p1)] [(.int (1048575 : Int32)), (.int p1)])) _
              refine XS.icmpYes X0.here hx rfl (pc0 := 39) (pc' := 44) rfl (hb hby dmethod_2_code_39) rfl (tlt hc39_45).2.2.1 (by decide) (by decide) ?_
              show Steps p.tables e below (s₁.setTop (mkF m 44 #[.val (.int p1)] [])) _
              refine XS.iloadN X0.here hx rfl (hb hby dmethod_2_code_44) rfl ?_
              show Steps p.tables e below (s₁.setTop (mkF m 45 #[.val (.int p1)] [(.int p1)])) _
              refine X0.ldcInt hx hown (mvT hZ (hw _ (List.mem_of_getElem? (i := 10) rfl))) (g := (mkF m 45 #[.val (.int p1)] [(.int p1)])) rfl (hb hby dmethod_2_code_45) _ ?_
              exact kk)
            by_cases hc47_47 : p1 < (-134217728 : Int32)
            · have k49 : Go p e below (s₁.setTop (entryFrame m #[(.int p1)] 1)) (s₁.setTop (mkF m 59 #[.val (.int p1)] [(.int (5 : Int32))])) := fun t kk => k48 t (by
                show Steps p.tables e below (s₁.setTop (mkF m 47 #[.val (.int p1)] [(.int (-134217728 : Int32)), (.int p1)])) _
                refine XS.icmpYes X0.here hx rfl (pc0 := 47) (pc' := 58) rfl (hb hby dmethod_2_code_47) rfl (tlt hc47_47).1 (by decide) (by decide) ?_
                show Steps p.tables e below (s₁.setTop (mkF m 58 #[.val (.int p1)] [])) _
                refine XS.iconst X0.here hx rfl (hb hby dmethod_2_code_58) ?_
                exact kk)
              obtain ⟨fs, hr, hrun, hended, hW, hsame⟩ := X0.leave (v := some (.int (5 : Int32))) (fun h => by rw [Bd.returns] at h; cases h)
              refine ⟨_, _, k49 _ ?_, hrun, hended, _, _, rfl, ?_, ⟨_, rfl⟩, hW, hsame.mono (by decide) (by decide)⟩
              · show Steps p.tables e below (s₁.setTop (mkF m 59 #[.val (.int p1)] [(.int (5 : Int32))])) _
                exact retI X0 hx Bd.returns (hb hby dmethod_2_code_59) hr
              · show QE Z p1 h0 n0 _ s₁.heap _
                rw [e0]
                exact ⟨by simp [own_exp, hc3_1, hc18_3, hc25_31, hc33_33, hc39_45, hc47_47], rfl, rfl⟩
            · have k52 : Go p e below (s₁.setTop (entryFrame m #[(.int p1)] 1)) (s₁.setTop (mkF m 53 #[.val (.int p1)] [(.int (134217727 : Int32)), (.int p1)])) := fun t kk => k48 t (by
                show Steps p.tables e below (s₁.setTop (mkF m 47 #[.val (.int p1)] [(.int (-134217728 : Int32)), (.int p1)])) _
                refine XS.icmpNo X0.here hx rfl (hb hby dmethod_2_code_47) rfl (flt hc47_47).1 ?_
                show Steps p.tables e below (s₁.setTop (mkF m 50 #[.val (.int p1)] [])) _
                refine XS.iloadN X0.here hx rfl (hb hby dmethod_2_code_50) rfl ?_
                show Steps p.tables e below (s₁.setTop (mkF m 51 #[.val (.int p1)] [(.int p1)])) _
                refine X0.ldcInt hx hown (mvT hZ (hw _ (List.mem_of_getElem? (i := 11) rfl))) (g := (mkF m 51 #[.val (.int p1)] [(.int p1)])) rfl (hb hby dmethod_2_code_51) _ ?_
                exact kk)
              by_cases hc53_51 : (134217727 : Int32) < p1
              · have k53 : Go p e below (s₁.setTop (entryFrame m #[(.int p1)] 1)) (s₁.setTop (mkF m 59 #[.val (.int p1)] [(.int (5 : Int32))])) := fun t kk => k52 t (by
                  show Steps p.tables e below (s₁.setTop (mkF m 53 #[.val (.int p1)] [(.int (134217727 : Int32)), (.int p1)])) _
                  refine XS.icmpYes X0.here hx rfl (pc0 := 53) (pc' := 58) rfl (hb hby dmethod_2_code_53) rfl (tlt hc53_51).2.2.1 (by decide) (by decide) ?_
                  show Steps p.tables e below (s₁.setTop (mkF m 58 #[.val (.int p1)] [])) _
                  refine XS.iconst X0.here hx rfl (hb hby dmethod_2_code_58) ?_
                  exact kk)
                obtain ⟨fs, hr, hrun, hended, hW, hsame⟩ := X0.leave (v := some (.int (5 : Int32))) (fun h => by rw [Bd.returns] at h; cases h)
                refine ⟨_, _, k53 _ ?_, hrun, hended, _, _, rfl, ?_, ⟨_, rfl⟩, hW, hsame.mono (by decide) (by decide)⟩
                · show Steps p.tables e below (s₁.setTop (mkF m 59 #[.val (.int p1)] [(.int (5 : Int32))])) _
                  exact retI X0 hx Bd.returns (hb hby dmethod_2_code_59) hr
                · show QE Z p1 h0 n0 _ s₁.heap _
                  rw [e0]
                  exact ⟨by simp [own_exp, hc3_1, hc18_3, hc25_31, hc33_33, hc39_45, hc47_47, hc53_51], rfl, rfl⟩
              · have k55 : Go p e below (s₁.setTop (entryFrame m #[(.int p1)] 1)) (s₁.setTop (mkF m 57 #[.val (.int p1)] [(.int (4 : Int32))])) := fun t kk => k52 t (by
                  show Steps p.tables e below (s₁.setTop (mkF m 53 #[.val (.int p1)] [(.int (134217727 : Int32)), (.int p1)])) _
                  refine XS.icmpNo X0.here hx rfl (hb hby dmethod_2_code_53) rfl (flt hc53_51).2.2.1 ?_
                  show Steps p.tables e below (s₁.setTop (mkF m 56 #[.val (.int p1)] [])) _
                  refine XS.iconst X0.here hx rfl (hb hby dmethod_2_code_56) ?_
                  exact kk)
                obtain ⟨fs, hr, hrun, hended, hW, hsame⟩ := X0.leave (v := some (.int (4 : Int32))) (fun h => by rw [Bd.returns] at h; cases h)
                refine ⟨_, _, k55 _ ?_, hrun, hended, _, _, rfl, ?_, ⟨_, rfl⟩, hW, hsame.mono (by decide) (by decide)⟩
                · show Steps p.tables e below (s₁.setTop (mkF m 57 #[.val (.int p1)] [(.int (4 : Int32))])) _
                  exact retI X0 hx Bd.returns (hb hby dmethod_2_code_57) hr
                · show QE Z p1 h0 n0 _ s₁.heap _
                  rw [e0]
                  exact ⟨by simp [own_exp, hc3_1, hc18_3, hc25_31, hc33_33, hc39_45, hc47_47, hc53_51], rfl, rfl⟩
          · have k57 : Go p e below (s₁.setTop (entryFrame m #[(.int p1)] 1)) (s₁.setTop (mkF m 43 #[.val (.int p1)] [(.int (3 : Int32))])) := fun t kk => k46 t (by
              show Steps p.tables e below (s₁.setTop (mkF m 39 #[.val (.int p1)] [(.int (1048575 : Int32)), (.int p1)])) _
              refine XS.icmpNo X0.here hx rfl (hb hby dmethod_2_code_39) rfl (flt hc39_45).2.2.1 ?_
              show Steps p.tables e below (s₁.setTop (mkF m 42 #[.val (.int p1)] [])) _
              refine XS.iconst X0.here hx rfl (hb hby dmethod_2_code_42) ?_
              exact kk)
            obtain ⟨fs, hr, hrun, hended, hW, hsame⟩ := X0.leave (v := some (.int (3 : Int32))) (fun h => by rw [Bd.returns] at h; cases h)
            refine ⟨_, _, k57 _ ?_, hrun, hended, _, _, rfl, ?_, ⟨_, rfl⟩, hW, hsame.mono (by decide) (by decide)⟩
            · show Steps p.tables e below (s₁.setTop (mkF m 43 #[.val (.int p1)] [(.int (3 : Int32))])) _
              exact retI X0 hx Bd.returns (hb hby dmethod_2_code_43) hr
            · show QE Z p1 h0 n0 _ s₁.heap _
              rw [e0]
              exact ⟨by simp [own_exp, hc3_1, hc18_3, hc25_31, hc33_33, hc39_45], rfl, rfl⟩
      · have k59 : Go p e below (s₁.setTop (entryFrame m #[(.int p1)] 1)) (s₁.setTop (mkF m 29 #[.val (.int p1)] [(.int (2 : Int32))])) := fun t kk => k32 t (by
          show Steps p.tables e below (s₁.setTop (mkF m 25 #[.val (.int p1)] [(.int (8191 : Int32)), (.int p1)])) _
          refine XS.icmpNo X0.here hx rfl (hb hby dmethod_2_code_25) rfl (flt hc25_31).2.2.1 ?_
          show Steps p.tables e below (s₁.setTop (mkF m 28 #[.val (.int p1)] [])) _
          refine XS.iconst X0.here hx rfl (hb hby dmethod_2_code_28) ?_
          exact kk)
        obtain ⟨fs, hr, hrun, hended, hW, hsame⟩ := X0.leave (v := some (.int (2 : Int32))) (fun h => by rw [Bd.returns] at h; cases h)
        refine ⟨_, _, k59 _ ?_, hrun, hended, _, _, rfl, ?_, ⟨_, rfl⟩, hW, hsame.mono (by decide) (by decide)⟩
        · show Steps p.tables e below (s₁.setTop (mkF m 29 #[.val (.int p1)] [(.int (2 : Int32))])) _
          exact retI X0 hx Bd.returns (hb hby dmethod_2_code_29) hr
        · show QE Z p1 h0 n0 _ s₁.heap _
          rw [e0]
          exact ⟨by simp [own_exp, hc3_1, hc18_3, hc25_31], rfl, rfl⟩
  · have k62 : Go p e below (s₁.setTop (entryFrame m #[(.int p1)] 1)) (s₁.setTop (mkF m 9 #[.val (.int p1)] [(.int (63 : Int32)), (.int p1)])) := fun t kk => k2 t (by
      show Steps p.tables e below (s₁.setTop (mkF m 3 #[.val (.int p1)] [(.int (-64 : Int32)), (.int p1)])) _
      refine XS.icmpNo X0.here hx rfl (hb hby dmethod_2_code_3) rfl (flt hc3_1).1 ?_
      show Steps p.tables e below (s₁.setTop (mkF m 6 #[.val (.int p1)] [])) _
      refine XS.iloadN X0.here hx rfl (hb hby dmethod_2_code_6) rfl ?_
      show Steps p.tables e below (s₁.setTop (mkF m 7 #[.val (.int p1)] [(.int p1)])) _
      refine XS.bipush X0.here hx rfl (hb hby dmethod_2_code_7) ?_
      exact kk)
    by_cases hc9_61 : (63 : Int32) < p1
    · have k64 : Go p e below (s₁.setTop (entryFrame m #[(.int p1)] 1)) (s₁.setTop (mkF m 18 #[.val (.int p1)] [(.int (-8192 : Int32)), (.int p1)])) := fun t kk => k62 t (by
        show Steps p.tables e below (s₁.setTop (mkF m 9 #[.val (.int p1)] [(.int (63 : Int32)), (.int p1)])) _
        refine XS.icmpYes X0.here hx rfl (pc0 := 9) (pc' := 14) rfl (hb hby dmethod_2_code_9) rfl (tlt hc9_61).2.2.1 (by decide) (by decide) ?_
        show Steps p.tables e below (s₁.setTop (mkF m 14 #[.val (.int p1)] [])) _
        refine XS.iloadN X0.here hx rfl (hb hby dmethod_2_code_14) rfl ?_
        show Steps p.tables e below (s₁.setTop (mkF m 15 #[.val (.int p1)] [(.int p1)])) _
        refine XS.sipush X0.here hx rfl (hb hby dmethod_2_code_15) ?_
        exact kk)
      by_cases hc18_63 : p1 < (-8192 : Int32)
      · have k66 : Go p e below (s₁.setTop (entryFrame m #[(.int p1)] 1)) (s₁.setTop (mkF m 33 #[.val (.int p1)] [(.int (-1048576 : Int32)), (.int p1)])) := fun t kk => k64 t (by
          show Steps p.tables e below (s₁.setTop (mkF m 18 #[.val (.int p1)] [(.int (-8192 : Int32)), (.int p1)])) _
          refine XS.icmpYes X0.here hx rfl (pc0 := 18) (pc' := 30) rfl (hb hby dmethod_2_code_18) rfl (tlt hc18_63).1 (by decide) (by decide) ?_
          show Steps p.tables e below (s₁.setTop (mkF m 30 #[.val (.int p1)] [])) _
          refine XS.iloadN X0.here hx rfl (hb hby dmethod_2_code_30) rfl ?_
          show Steps p.tables e below (s₁.setTop (mkF m 31 #[.val (.int p1)] [(.int p1)])) _
          refine X0.ldcInt hx hown (mvT hZ (hw _ (List.mem_of_getElem? (i := 8) rfl))) (g := (mkF m 31 #[.val (.int p1)] [(.int p1)])) rfl (hb hby dmethod_2_code_31) _ ?_
          exact kk)
        by_cases hc33_65 : p1 < (-1048576 : Int32)
        · have k68 : Go p e below (s₁.setTop (entryFrame m #[(.int p1)] 1)) (s₁.setTop (mkF m 47 #[.val (.int p1)] [(.int (-134217728 : Int32)), (.int p1)])) := fun t kk => k66 t (by
            show Steps p.tables e below (s₁.setTop (mkF m 33 #[.val (.int p1)] [(.int (-1048576 : Int32)), (.int p1)])) _
            refine XS.icmpYes X0.here hx rfl (pc0 := 33) (pc' := 44) rfl (hb hby dmethod_2_code_33) rfl (tlt hc33_65).1 (by decide) (by decide) ?_
            show Steps p.tables e below (s₁.setTop (mkF m 44 #[.val (.int p1)] [])) _
            refine XS.iloadN X0.here hx rfl (hb hby dmethod_2_code_44) rfl ?_
            show Steps p.tables e below (s₁.setTop (mkF m 45 #[.val (.int p1)] [(.int p1)])) _
            refine X0.ldcInt hx hown (mvT hZ (hw _ (List.mem_of_getElem? (i := 10) rfl))) (g := (mkF m 45 #[.val (.int p1)] [(.int p1)])) rfl (hb hby dmethod_2_code_45) _ ?_
            exact kk)
          by_cases hc47_67 : p1 < (-134217728 : Int32)
          · have k69 : Go p e below (s₁.setTop (entryFrame m #[(.int p1)] 1)) (s₁.setTop (mkF m 59 #[.val (.int p1)] [(.int (5 : Int32))])) := fun t kk => k68 t (by
              show Steps p.tables e below (s₁.setTop (mkF m 47 #[.val (.int p1)] [(.int (-134217728 : Int32)), (.int p1)])) _
              refine XS.icmpYes X0.here hx rfl (pc0 := 47) (pc' := 58) rfl (hb hby dmethod_2_code_47) rfl (tlt hc47_67).1 (by decide) (by decide) ?_
              show Steps p.tables e below (s₁.setTop (mkF m 58 #[.val (.int p1)] [])) _
              refine XS.iconst X0.here hx rfl (hb hby dmethod_2_code_58) ?_
              exact kk)
            obtain ⟨fs, hr, hrun, hended, hW, hsame⟩ := X0.leave (v := some (.int (5 : Int32))) (fun h => by rw [Bd.returns] at h; cases h)
            refine ⟨_, _, k69 _ ?_, hrun, hended, _, _, rfl, ?_, ⟨_, rfl⟩, hW, hsame.mono (by decide) (by decide)⟩
            · show Steps p.tables e below (s₁.setTop (mkF m 59 #[.val (.int p1)] [(.int (5 : Int32))])) _
              exact retI X0 hx Bd.returns (hb hby dmethod_2_code_59) hr
            · show QE Z p1 h0 n0 _ s₁.heap _
              rw [e0]
              exact ⟨by simp [own_exp, hc3_1, hc9_61, hc18_63, hc33_65, hc47_67], rfl, rfl⟩
          · have k72 : Go p e below (s₁.setTop (entryFrame m #[(.int p1)] 1)) (s₁.setTop (mkF m 53 #[.val (.int p1)] [(.int (134217727 : Int32)), (.int p1)])) := fun t kk => k68 t (by
              show Steps p.tables e below (s₁.setTop (mkF m 47 #[.val (.int p1)] [(.int (-134217728 : Int32)), (.int p1)])) _
              refine XS.icmpNo X0.here hx rfl (hb hby dmethod_2_code_47) rfl (flt hc47_67).1 ?_
              show Steps p.tables e below (s₁.setTop (mkF m 50 #[.val (.int p1)] [])) _
              refine XS.iloadN X0.here hx rfl (hb hby dmethod_2_code_50) rfl ?_
              show Steps p.tables e below (s₁.setTop (mkF m 51 #[.val (.int p1)] [(.int p1)])) _
              refine X0.ldcInt hx hown (mvT hZ (hw _ (List.mem_of_getElem? (i := 11) rfl))) (g := (mkF m 51 #[.val (.int p1)] [(.int p1)])) rfl (hb hby dmethod_2_code_51) _ ?_
              exact kk)
            by_cases hc53_71 : (134217727 : Int32) < p1
            · have k73 : Go p e below (s₁.setTop (entryFrame m #[(.int p1)] 1)) (s₁.setTop (mkF m 59 #[.val (.int p1)] [(.int (5 : Int32))])) := fun t kk => k72 t (by
                show Steps p.tables e below (s₁.setTop (mkF m 53 #[.val (.int p1)] [(.int (134217727 : Int32)), (.int p1)])) _
                refine XS.icmpYes X0.here hx rfl (pc0 := 53) (pc' := 58) rfl (hb hby dmethod_2_code_53) rfl (tlt hc53_71).2.2.1 (by decide) (by decide) ?_
                show Steps p.tables e below (s₁.setTop (mkF m 58 #[.val (.int p1)] [])) _
                refine XS.iconst X0.here hx rfl (hb hby dmethod_2_code_58) ?_
                exact kk)
              obtain ⟨fs, hr, hrun, hended, hW, hsame⟩ := X0.leave (v := some (.int (5 : Int32))) (fun h => by rw [Bd.returns] at h; cases h)
              refine ⟨_, _, k73 _ ?_, hrun, hended, _, _, rfl, ?_, ⟨_, rfl⟩, hW, hsame.mono (by decide) (by decide)⟩
              · show Steps p.tables e below (s₁.setTop (mkF m 59 #[.val (.int p1)] [(.int (5 : Int32))])) _
                exact retI X0 hx Bd.returns (hb hby dmethod_2_code_59) hr
              · show QE Z p1 h0 n0 _ s₁.heap _
                rw [e0]
                exact ⟨by simp [own_exp, hc3_1, hc9_61, hc18_63, hc33_65, hc47_67, hc53_71], rfl, rfl⟩
            · have k75 : Go p e below (s₁.setTop (entryFrame m #[(.int p1)] 1)) (s₁.setTop (mkF m 57 #[.val (.int p1)] [(.int (4 : Int32))])) := fun t kk => k72 t (by
                show Steps p.tables e below (s₁.setTop (mkF m 53 #[.val (.int p1)] [(.int (134217727 : Int32)), (.int p1)])) _
                refine XS.icmpNo X0.here hx rfl (hb hby dmethod_2_code_53) rfl (flt hc53_71).2.2.1 ?_
                show Steps p.tables e below (s₁.setTop (mkF m 56 #[.val (.int p1)] [])) _
                refine XS.iconst X0.here hx rfl (hb hby dmethod_2_code_56) ?_
                exact kk)
              obtain ⟨fs, hr, hrun, hended, hW, hsame⟩ := X0.leave (v := some (.int (4 : Int32))) (fun h => by rw [Bd.returns] at h; cases h)
              refine ⟨_, _, k75 _ ?_, hrun, hended, _, _, rfl, ?_, ⟨_, rfl⟩, hW, hsame.mono (by decide) (by decide)⟩
              · show Steps p.tables e below (s₁.setTop (mkF m 57 #[.val (.int p1)] [(.int (4 : Int32))])) _
                exact retI X0 hx Bd.returns (hb hby dmethod_2_code_57) hr
              · show QE Z p1 h0 n0 _ s₁.heap _
                rw [e0]
                exact ⟨by simp [own_exp, hc3_1, hc9_61, hc18_63, hc33_65, hc47_67, hc53_71], rfl, rfl⟩
        · have k78 : Go p e below (s₁.setTop (entryFrame m #[(.int p1)] 1)) (s₁.setTop (mkF m 39 #[.val (.int p1)] [(.int (1048575 : Int32)), (.int p1)])) := fun t kk => k66 t (by
            show Steps p.tables e below (s₁.setTop (mkF m 33 #[.val (.int p1)] [(.int (-1048576 : Int32)), (.int p1)])) _
            refine XS.icmpNo X0.here hx rfl (hb hby dmethod_2_code_33) rfl (flt hc33_65).1 ?_
            show Steps p.tables e below (s₁.setTop (mkF m 36 #[.val (.int p1)] [])) _
            refine XS.iloadN X0.here hx rfl (hb hby dmethod_2_code_36) rfl ?_
            show Steps p.tables e below (s₁.setTop (mkF m 37 #[.val (.int p1)] [(.int p1)])) _
            refine X0.ldcInt hx hown (mvT hZ (hw _ (List.mem_of_getElem? (i := 9) rfl))) (g := (mkF m 37 #[.val (.int p1)] [(.int p1)])) rfl (hb hby dmethod_2_code_37) _ ?_
            exact kk)
          by_cases hc39_77 : (1048575 : Int32) < p1
          · have k80 : Go p e below (s₁.setTop (entryFrame m #[(.int p1)] 1)) (s₁.setTop (mkF m 47 #[.val (.int p1)] [(.int (-134217728 : Int32)), (.int p1)])) := fun t kk => k78 t (by
              show Steps p.tables e below (s₁.setTop (mkF m 39 #[.val (.int p1)] [(.int (1048575 : Int32)), (.int p1)])) _
              refine XS.icmpYes X0.here hx rfl (pc0 := 39) (pc' := 44) rfl (hb hby dmethod_2_code_39) rfl (tlt hc39_77).2.2.1 (by decide) (by decide) ?_
              show Steps p.tables e below (s₁.setTop (mkF m 44 #[.val (.int p1)] [])) _
              refine XS.iloadN X0.here hx rfl (hb hby dmethod_2_code_44) rfl ?_
              show Steps p.tables e below (s₁.setTop (mkF m 45 #[.val (.int p1)] [(.int p1)])) _
              refine X0.ldcInt hx hown (mvT hZ (hw _ (List.mem_of_getElem? (i := 10) rfl))) (g := (mkF m 45 #[.val (.int p1)] [(.int p1)])) rfl (hb hby dmethod_2_code_45) _ ?_
              exact kk)
            by_cases hc47_79 : p1 < (-134217728 : Int32)
            · have k81 : Go p e below (s₁.setTop (entryFrame m #[(.int p1)] 1)) (s₁.setTop (mkF m 59 #[.val (.int p1)] [(.int (5 : Int32))])) := fun t kk => k80 t (by
                show Steps p.tables e below (s₁.setTop (mkF m 47 #[.val (.int p1)] [(.int (-134217728 : Int32)), (.int p1)])) _
                refine XS.icmpYes X0.here hx rfl (pc0 := 47) (pc' := 58) rfl (hb hby dmethod_2_code_47) rfl (tlt hc47_79).1 (by decide) (by decide) ?_
                show Steps p.tables e below (s₁.setTop (mkF m 58 #[.val (.int p1)] [])) _
                refine XS.iconst X0.here hx rfl (hb hby dmethod_2_code_58) ?_
                exact kk)
              obtain ⟨fs, hr, hrun, hended, hW, hsame⟩ := X0.leave (v := some (.int (5 : Int32))) (fun h => by rw [Bd.returns] at h; cases h)
              refine ⟨_, _, k81 _ ?_, hrun, hended, _, _, rfl, ?_, ⟨_, rfl⟩, hW, hsame.mono (by decide) (by decide)⟩
              · show Steps p.tables e below (s₁.setTop (mkF m 59 #[.val (.int p1)] [(.int (5 : Int32))])) _
                exact retI X0 hx Bd.returns (hb hby dmethod_2_code_59) hr
              · show QE Z p1 h0 n0 _ s₁.heap _
                rw [e0]
                exact ⟨by simp [own_exp, hc3_1, hc9_61, hc18_63, hc33_65, hc39_77, hc47_79], rfl, rfl⟩
            · have k84 : Go p e below (s₁.setTop (entryFrame m #[(.int p1)] 1)) (s₁.setTop (mkF m 53 #[.val (.int p1)] [(.int (134217727 : Int32)), (.int p1)])) := fun t kk => k80 t (by
                show Steps p.tables e below (s₁.setTop (mkF m 47 #[.val (.int p1)] [(.int (-134217728 : Int32)), (.int p1)])) _
                refine XS.icmpNo X0.here hx rfl (hb hby dmethod_2_code_47) rfl (flt hc47_79).1 ?_
                show Steps p.tables e below (s₁.setTop (mkF m 50 #[.val (.int p1)] [])) _
                refine XS.iloadN X0.here hx rfl (hb hby dmethod_2_code_50) rfl ?_
                show Steps p.tables e below (s₁.setTop (mkF m 51 #[.val (.int p1)] [(.int p1)])) _
                refine X0.ldcInt hx hown (mvT hZ (hw _ (List.mem_of_getElem? (i := 11) rfl))) (g := (mkF m 51 #[.val (.int p1)] [(.int p1)])) rfl (hb hby dmethod_2_code_51) _ ?_
                exact kk)
              by_cases hc53_83 : (134217727 : Int32) < p1
              · have k85 : Go p e below (s₁.setTop (entryFrame m #[(.int p1)] 1)) (s₁.setTop (mkF m 59 #[.val (.int p1)] [(.int (5 : Int32))])) := fun t kk => k84 t (by
                  show Steps p.tables e below (s₁.setTop (mkF m 53 #[.val (.int p1)] [(.int (134217727 : Int32)), (.int p1)])) _
                  refine XS.icmpYes X0.here hx rfl (pc0 := 53) (pc' := 58) rfl (hb hby dmethod_2_code_53) rfl (tlt hc53_83).2.2.1 (by decide) (by decide) ?_
                  show Steps p.tables e below (s₁.setTop (mkF m 58 #[.val (.int p1)] [])) _
                  refine XS.iconst X0.here hx rfl (hb hby dmethod_2_code_58) ?_
                  exact kk)
                obtain ⟨fs, hr, hrun, hended, hW, hsame⟩ := X0.leave (v := some (.int (5 : Int32))) (fun h => by rw [Bd.returns] at h; cases h)
                refine ⟨_, _, k85 _ ?_, hrun, hended, _, _, rfl, ?_, ⟨_, rfl⟩, hW, hsame.mono (by decide) (by decide)⟩
                · show Steps p.tables e below (s₁.setTop (mkF m 59 #[.val (.int p1)] [(.int (5 : Int32))])) _
                  exact retI X0 hx Bd.returns (hb hby dmethod_2_code_59) hr
                · show QE Z p1 h0 n0 _ s₁.heap _
                  rw [e0]
                  exact ⟨by simp [own_exp, hc3_1, hc9_61, hc18_63, hc33_65, hc39_77, hc47_79, hc53_83], rfl, rfl⟩
              · have k87 : Go p e below (s₁.setTop (entryFrame m #[(.int p1)] 1)) (s₁.setTop (mkF m 57 #[.val (.int p1)] [(.int (4 : Int32))])) := fun t kk => k84 t (by
                  show Steps p.tables e below (s₁.setTop (mkF m 53 #[.val (.int p1)] [(.int (134217727 : Int32)), (.int p1)])) _
                  refine XS.icmpNo X0.here hx rfl (hb hby dmethod_2_code_53) rfl (flt hc53_83).2.2.1 ?_
                  show Steps p.tables e below (s₁.setTop (mkF m 56 #[.val (.int p1)] [])) _
                  refine XS.iconst X0.here hx rfl (hb hby dmethod_2_code_56) ?_
                  exact kk)
                obtain ⟨fs, hr, hrun, hended, hW, hsame⟩ := X0.leave (v := some (.int (4 : Int32))) (fun h => by rw [Bd.returns] at h; cases h)
                refine ⟨_, _, k87 _ ?_, hrun, hended, _, _, rfl, ?_, ⟨_, rfl⟩, hW, hsame.mono (by decide) (by decide)⟩
                · show Steps p.tables e below (s₁.setTop (mkF m 57 #[.val (.int p1)] [(.int (4 : Int32))])) _
                  exact retI X0 hx Bd.returns (hb hby dmethod_2_code_57) hr
                · show QE Z p1 h0 n0 _ s₁.heap _
                  rw [e0]
                  exact ⟨by simp [own_exp, hc3_1, hc9_61, hc18_63, hc33_65, hc39_77, hc47_79, hc53_83], rfl, rfl⟩
          · have k89 : Go p e below (s₁.setTop (entryFrame m #[(.int p1)] 1)) (s₁.setTop (mkF m 43 #[.val (.int p1)] [(.int (3 : Int32))])) := fun t kk => k78 t (by
              show Steps p.tables e below (s₁.setTop (mkF m 39 #[.val (.int p1)] [(.int (1048575 : Int32)), (.int p1)])) _
              refine XS.icmpNo X0.here hx rfl (hb hby dmethod_2_code_39) rfl (flt hc39_77).2.2.1 ?_
              show Steps p.tables e below (s₁.setTop (mkF m 42 #[.val (.int p1)] [])) _
              refine XS.iconst X0.here hx rfl (hb hby dmethod_2_code_42) ?_
              exact kk)
            obtain ⟨fs, hr, hrun, hended, hW, hsame⟩ := X0.leave (v := some (.int (3 : Int32))) (fun h => by rw [Bd.returns] at h; cases h)
            refine ⟨_, _, k89 _ ?_, hrun, hended, _, _, rfl, ?_, ⟨_, rfl⟩, hW, hsame.mono (by decide) (by decide)⟩
            · show Steps p.tables e below (s₁.setTop (mkF m 43 #[.val (.int p1)] [(.int (3 : Int32))])) _
              exact retI X0 hx Bd.returns (hb hby dmethod_2_code_43) hr
            · show QE Z p1 h0 n0 _ s₁.heap _
              rw [e0]
              exact ⟨by simp [own_exp, hc3_1, hc9_61, hc18_63, hc33_65, hc39_77], rfl, rfl⟩
      · have k92 : Go p e below (s₁.setTop (entryFrame m #[(.int p1)] 1)) (s₁.setTop (mkF m 25 #[.val (.int p1)] [(.int (8191 : Int32)), (.int p1)])) := fun t kk => k64 t (by
          show Steps p.tables e below (s₁.setTop (mkF m 18 #[.val (.int p1)] [(.int (-8192 : Int32)), (.int p1)])) _
          refine XS.icmpNo X0.here hx rfl (hb hby dmethod_2_code_18) rfl (flt hc18_63).1 ?_
          show Steps p.tables e below (s₁.setTop (mkF m 21 #[.val (.int p1)] [])) _
          refine XS.iloadN X0.here hx rfl (hb hby dmethod_2_code_21) rfl ?_
          show Steps p.tables e below (s₁.setTop (mkF m 22 #[.val (.int p1)] [(.int p1)])) _
          refine XS.sipush X0.here hx rfl (hb hby dmethod_2_code_22) ?_
          exact kk)
        by_cases hc25_91 : (8191 : Int32) < p1
        · have k94 : Go p e below (s₁.setTop (entryFrame m #[(.int p1)] 1)) (s₁.setTop (mkF m 33 #[.val (.int p1)] [(.int (-1048576 : Int32)), (.int p1)])) := fun t kk => k92 t (by
            show Steps p.tables e below (s₁.setTop (mkF m 25 #[.val (.int p1)] [(.int (8191 : Int32)), (.int p1)])) _
            refine XS.icmpYes X0.here hx rfl (pc0 := 25) (pc' := 30) rfl (hb hby dmethod_2_code_25) rfl (tlt hc25_91).2.2.1 (by decide) (by decide) ?_
            show Steps p.tables e below (s₁.setTop (mkF m 30 #[.val (.int p1)] [])) _
            refine XS.iloadN X0.here hx rfl (hb hby dmethod_2_code_30) rfl ?_
            show Steps p.tables e below (s₁.setTop (mkF m 31 #[.val (.int p1)] [(.int p1)])) _
            refine X0.ldcInt hx hown (mvT hZ (hw _ (List.mem_of_getElem? (i := 8) rfl))) (g := (mkF m 31 #[.val (.int p1)] [(.int p1)])) rfl (hb hby dmethod_2_code_31) _ ?_
            exact kk)
          by_cases hc33_93 : p1 < (-1048576 : Int32)
          · have k96 : Go p e below (s₁.setTop (entryFrame m #[(.int p1)] 1)) (s₁.setTop (mkF m 47 #[.val (.int p1)] [(.int (-134217728 : Int32)), (.int p1)])) := fun t kk => k94 t (by
              show Steps p.tables e below (s₁.setTop (mkF m 33 #[.val (.int p1)] [(.int (-1048576 : Int32)), (.int p1)])) _
              refine XS.icmpYes X0.here hx rfl (pc0 := 33) (pc' := 44) rfl (hb hby dmethod_2_code_33) rfl (tlt hc33_93).1 (by decide) (by decide) ?_
              show Steps p.tables e below (s₁.setTop (mkF m 44 #[.val (.int p1)] [])) _
              refine XS.iloadN X0.here hx rfl (hb hby dmethod_2_code_44) rfl ?_
              show Steps p.tables e below (s₁.setTop (mkF m 45 #[.val (.int p1)] [(.int p1)])) _
              refine X0.ldcInt hx hown (mvT hZ (hw _ (List.mem_of_getElem? (i := 10) rfl))) (g := (mkF m 45 #[.val (.int p1)] [(.int p1)])) rfl (hb hby dmethod_2_code_45) _ ?_
              exact kk)
            by_cases hc47_95 : p1 < (-134217728 : Int32)
            · have k97 : Go p e below (s₁.setTop (entryFrame m #[(.int p1)] 1)) (s₁.setTop (mkF m 59 #[.val (.int p1)] [(.int (5 : Int32))])) := fun t kk => k96 t (by
                show Steps p.tables e below (s₁.setTop (mkF m 47 #[.val (.int p1)] [(.int (-134217728 : Int32)), (.int p1)])) _
                refine XS.icmpYes X0.here hx rfl (pc0 := 47) (pc' := 58) rfl (hb hby dmethod_2_code_47) rfl (tlt hc47_95).1 (by decide) (by decide) ?_
                show Steps p.tables e below (s₁.setTop (mkF m 58 #[.val (.int p1)] [])) _
                refine XS.iconst X0.here hx rfl (hb hby dmethod_2_code_58) ?_
                exact kk)
              obtain ⟨fs, hr, hrun, hended, hW, hsame⟩ := X0.leave (v := some (.int (5 : Int32))) (fun h => by rw [Bd.returns] at h; cases h)
              refine ⟨_, _, k97 _ ?_, hrun, hended, _, _, rfl, ?_, ⟨_, rfl⟩, hW, hsame.mono (by decide) (by decide)⟩
              · show Steps p.tables e below (s₁.setTop (mkF m 59 #[.val (.int p1)] [(.int (5 : Int32))])) _
                exact retI X0 hx Bd.returns (hb hby dmethod_2_code_59) hr
              · show QE Z p1 h0 n0 _ s₁.heap _
                rw [e0]
                exact ⟨by simp [own_exp, hc3_1, hc9_61, hc18_63, hc25_91, hc33_93, hc47_95], rfl, rfl⟩
            · have k100 : Go p e below (s₁.setTop (entryFrame m #[(.int p1)] 1)) (s₁.setTop (mkF m 53 #[.val (.int p1)] [(.int (134217727 : Int32)), (.int p1)])) := fun t kk => k96 t (by
                show Steps p.tables e below (s₁.setTop (mkF m 47 #[.val (.int p1)] [(.int (-134217728 : Int32)), (.int p1)])) _
                refine XS.icmpNo X0.here hx rfl (hb hby dmethod_2_code_47) rfl (flt hc47_95).1 ?_
                show Steps p.tables e below (s₁.setTop (mkF m 50 #[.val (.int p1)] [])) _
                refine XS.iloadN X0.here hx rfl (hb hby dmethod_2_code_50) rfl ?_
                show Steps p.tables e below (s₁.setTop (mkF m 51 #[.val (.int p1)] [(.int p1)])) _
                refine X0.ldcInt hx hown (mvT hZ (hw _ (List.mem_of_getElem? (i := 11) rfl))) (g := (mkF m 51 #[.val (.int p1)] [(.int p1)])) rfl (hb hby dmethod_2_code_51) _ ?_
                exact kk)
              by_cases hc53_99 : (134217727 : Int32) < p1
              · have k101 : Go p e below (s₁.setTop (entryFrame m #[(.int p1)] 1)) (s₁.setTop (mkF m 59 #[.val (.int p1)] [(.int (5 : Int32))])) := fun t kk => k100 t (by
                  show Steps p.tables e below (s₁.setTop (mkF m 53 #[.val (.int p1)] [(.int (134217727 : Int32)), (.int p1)])) _
                  refine XS.icmpYes X0.here hx rfl (pc0 := 53) (pc' := 58) rfl (hb hby dmethod_2_code_53) rfl (tlt hc53_99).2.2.1 (by decide) (by decide) ?_
                  show Steps p.tables e below (s₁.setTop (mkF m 58 #[.val (.int p1)] [])) _
                  refine XS.iconst X0.here hx rfl (hb hby dmethod_2_code_58) ?_
                  exact kk)
                obtain ⟨fs, hr, hrun, hended, hW, hsame⟩ := X0.leave (v := some (.int (5 : Int32))) (fun h => by rw [Bd.returns] at h; cases h)
                refine ⟨_, _, k101 _ ?_, hrun, hended, _, _, rfl, ?_, ⟨_, rfl⟩, hW, hsame.mono (by decide) (by decide)⟩
                · show Steps p.tables e below (s₁.setTop (mkF m 59 #[.val (.int p1)] [(.int (5 : Int32))])) _
                  exact retI X0 hx Bd.returns (hb hby dmethod_2_code_59) hr
                · show QE Z p1 h0 n0 _ s₁.heap _
                  rw [e0]
                  exact ⟨by simp [own_exp, hc3_1, hc9_61, hc18_63, hc25_91, hc33_93, hc47_95, hc53_99], rfl, rfl⟩
              · have k103 : Go p e below (s₁.setTop (entryFrame m #[(.int p1)] 1)) (s₁.setTop (mkF m 57 #[.val (.int p1)] [(.int (4 : Int32))])) := fun t kk => k100 t (by
                  show Steps p.tables e below (s₁.setTop (mkF m 53 #[.val (.int p1)] [(.int (134217727 : Int32)), (.int p1)])) _
                  refine XS.icmpNo X0.here hx rfl (hb hby dmethod_2_code_53) rfl (flt hc53_99).2.2.1 ?_
                  show Steps p.tables e below (s₁.setTop (mkF m 56 #[.val (.int p1)] [])) _
                  refine XS.iconst X0.here hx rfl (hb hby dmethod_2_code_56) ?_
                  exact kk)
                obtain ⟨fs, hr, hrun, hended, hW, hsame⟩ := X0.leave (v := some (.int (4 : Int32))) (fun h => by rw [Bd.returns] at h; cases h)
                refine ⟨_, _, k103 _ ?_, hrun, hended, _, _, rfl, ?_, ⟨_, rfl⟩, hW, hsame.mono (by decide) (by decide)⟩
                · show Steps p.tables e below (s₁.setTop (mkF m 57 #[.val (.int p1)] [(.int (4 : Int32))])) _
                  exact retI X0 hx Bd.returns (hb hby dmethod_2_code_57) hr
                · show QE Z p1 h0 n0 _ s₁.heap _
                  rw [e0]
                  exact ⟨by simp [own_exp, hc3_1, hc9_61, hc18_63, hc25_91, hc33_93, hc47_95, hc53_99], rfl, rfl⟩
          · have k106 : Go p e below (s₁.setTop (entryFrame m #[(.int p1)] 1)) (s₁.setTop (mkF m 39 #[.val (.int p1)] [(.int (1048575 : Int32)), (.int p1)])) := fun t kk => k94 t (by
              show Steps p.tables e below (s₁.setTop (mkF m 33 #[.val (.int p1)] [(.int (-1048576 : Int32)), (.int p1)])) _
              refine XS.icmpNo X0.here hx rfl (hb hby dmethod_2_code_33) rfl (flt hc33_93).1 ?_
              show Steps p.tables e below (s₁.setTop (mkF m 36 #[.val (.int p1)] [])) _
              refine XS.iloadN X0.here hx rfl (hb hby dmethod_2_code_36) rfl ?_
              show Steps p.tables e below (s₁.setTop (mkF m 37 #[.val (.int p1)] [(.int p1)])) _
              refine X0.ldcInt hx hown (mvT hZ (hw _ (List.mem_of_getElem? (i := 9) rfl))) (g := (mkF m 37 #[.val (.int p1)] [(.int p1)])) rfl (hb hby dmethod_2_code_37) _ ?_
              exact kk)
            by_cases hc39_105 : (1048575 : Int32) < p1
            · have k108 : Go p e below (s₁.setTop (entryFrame m #[(.int p1)] 1)) (s₁.setTop (mkF m 47 #[.val (.int p1)] [(.int (-134217728 : Int32)), (.int p1)])) := fun t kk => k106 t (by
                show Steps p.tables e below (s₁.setTop (mkF m 39 #[.val (.int p1)] [(.int (1048575 : Int32)), (.int p1)])) _
                refine XS.icmpYes X0.here hx rfl (pc0 := 39) (pc' := 44) rfl (hb hby dmethod_2_code_39) rfl (tlt hc39_105).2.2.1 (by decide) (by decide) ?_
                show Steps p.tables e below (s₁.setTop (mkF m 44 #[.val (.int p1)] [])) _
                refine XS.iloadN X0.here hx rfl (hb hby dmethod_2_code_44) rfl ?_
                show Steps p.tables e below (s₁.setTop (mkF m 45 #[.val (.int p1)] [(.int p1)])) _
                refine X0.ldcInt hx hown (mvT hZ (hw _ (List.mem_of_getElem? (i := 10) rfl))) (g := (mkF m 45 #[.val (.int p1)] [(.int p1)])) rfl (hb hby dmethod_2_code_45) _ ?_
                exact kk)
              by_cases hc47_107 : p1 < (-134217728 : Int32)
              · have k109 : Go p e below (s₁.setTop (entryFrame m #[(.int p1)] 1)) (s₁.setTop (mkF m 59 #[.val (.int p1)] [(.int (5 : Int32))])) := fun t kk => k108 t (by
                  show Steps p.tables e below (s₁.setTop (mkF m 47 #[.val (.int p1)] [(.int (-134217728 : Int32)), (.int p1)])) _
                  refine XS.icmpYes X0.here hx rfl (pc0 := 47) (pc' := 58) rfl (hb hby dmethod_2_code_47) rfl (tlt hc47_107).1 (by decide) (by decide) ?_
                  show Steps p.tables e below (s₁.setTop (mkF m 58 #[.val (.int p1)] [])) _
                  refine XS.iconst X0.here hx rfl (hb hby dmethod_2_code_58) ?_
                  exact kk)
                obtain ⟨fs, hr, hrun, hended, hW, hsame⟩ := X0.leave (v := some (.int (5 : Int32))) (fun h => by rw [Bd.returns] at h; cases h)
                refine ⟨_, _, k109 _ ?_, hrun, hended, _, _, rfl, ?_, ⟨_, rfl⟩, hW, hsame.mono (by decide) (by decide)⟩
                · show Steps p.tables e below (s₁.setTop (mkF m 59 #[.val (.int p1)] [(.int (5 : Int32))])) _
                  exact retI X0 hx Bd.returns (hb hby dmethod_2_code_59) hr
                · show QE Z p1 h0 n0 _ s₁.heap _
                  rw [e0]
                  exact ⟨by simp [own_exp, hc3_1, hc9_61, hc18_63, hc25_91, hc33_93, hc39_105, hc47_107], rfl, rfl⟩
              · have k112 : Go p e below (s₁.setTop (entryFrame m #[(.int p1)] 1)) (s₁.setTop (mkF m 53 #[.val (.int p1)] [(.int (134217727 : Int32)), (.int p1)])) := fun t kk => k108 t (by
                  show Steps p.tables e below (s₁.setTop (mkF m 47 #[.val (.int p1)] [(.int (-134217728 : Int32)), (.int p1)])) _
                  refine XS.icmpNo X0.here hx rfl (hb hby dmethod_2_code_47) rfl (flt hc47_107).1 ?_
                  show Steps p.tables e below (s₁.setTop (mkF m 50 #[.val (.int p1)] [])) _
                  refine XS.iloadN X0.here hx rfl (hb hby dmethod_2_code_50) rfl ?_
                  show Steps p.tables e below (s₁.setTop (mkF m 51 #[.val (.int p1)] [(.int p1)])) _
                  refine X0.ldcInt hx hown (mvT hZ (hw _ (List.mem_of_getElem? (i := 11) rfl))) (g := (mkF m 51 #[.val (.int p1)] [(.int p1)])) rfl (hb hby dmethod_2_code_51) _ ?_
                  exact kk)
                by_cases hc53_111 : (134217727 : Int32) < p1
                · have k113 : Go p e below (s₁.setTop (entryFrame m #[(.int p1)] 1)) (s₁.setTop (mkF m 59 #[.val (.int p1)] [(.int (5 : Int32))])) := fun t kk => k112 t (by
                    show Steps p.tables e below (s₁.setTop (mkF m 53 #[.val (.int p1)] [(.int (134217727 : Int32)), (.int p1)])) _
                    refine XS.icmpYes X0.here hx rfl (pc0 := 53) (pc' := 58) rfl (hb hby dmethod_2_code_53) rfl (tlt hc53_111).2.2.1 (by decide) (by decide) ?_
                    show Steps p.tables e below (s₁.setTop (mkF m 58 #[.val (.int p1)] [])) _
                    refine XS.iconst X0.here hx rfl (hb hby dmethod_2_code_58) ?_
                    exact kk)
                  obtain ⟨fs, hr, hrun, hended, hW, hsame⟩ := X0.leave (v := some (.int (5 : Int32))) (fun h => by rw [Bd.returns] at h; cases h)
                  refine ⟨_, _, k113 _ ?_, hrun, hended, _, _, rfl, ?_, ⟨_, rfl⟩, hW, hsame.mono (by decide) (by decide)⟩
                  · show Steps p.tables e below (s₁.setTop (mkF m 59 #[.val (.int p1)] [(.int (5 : Int32))])) _
                    exact retI X0 hx Bd.returns (hb hby dmethod_2_code_59) hr
                  · show QE Z p1 h0 n0 _ s₁.heap _
                    rw [e0]
                    exact ⟨by simp [own_exp, hc3_1, hc9_61, hc18_63, hc25_91, hc33_93, hc39_105, hc47_107, hc53_111], rfl, rfl⟩
                · have k115 : Go p e below (s₁.setTop (entryFrame m #[(.int p1)] 1)) (s₁.setTop (mkF m 57 #[.val (.int p1)] [(.int (4 : Int32))])) := fun t kk => k112 t (by
                    show Steps p.tables e below (s₁.setTop (mkF m 53 #[.val (.int p1)] [(.int (134217727 : Int32)), (.int p1)])) _
                    refine XS.icmpNo X0.here hx rfl (hb hby dmethod_2_code_53) rfl (flt hc53_111).2.2.1 ?_
                    show Steps p.tables e below (s₁.setTop (mkF m 56 #[.val (.int p1)] [])) _
                    refine XS.iconst X0.here hx rfl (hb hby dmethod_2_code_56) ?_
                    exact kk)
                  obtain ⟨fs, hr, hrun, hended, hW, hsame⟩ := X0.leave (v := some (.int (4 : Int32))) (fun h => by rw [Bd.returns] at h; cases h)
                  refine ⟨_, _, k115 _ ?_, hrun, hended, _, _, rfl, ?_, ⟨_, rfl⟩, hW, hsame.mono (by decide) (by decide)⟩
                  · show Steps p.tables e below (s₁.setTop (mkF m 57 #[.val (.int p1)] [(.int (4 : Int32))])) _
                    exact retI X0 hx Bd.returns (hb hby dmethod_2_code_57) hr
                  · show QE Z p1 h0 n0 _ s₁.heap _
                    rw [e0]
                    exact ⟨by simp [own_exp, hc3_1, hc9_61, hc18_63, hc25_91, hc33_93, hc39_105, hc47_107, hc53_111], rfl, rfl⟩
            · have k117 : Go p e below (s₁.setTop (entryFrame m #[(.int p1)] 1)) (s₁.setTop (mkF m 43 #[.val (.int p1)] [(.int (3 : Int32))])) := fun t kk => k106 t (by
                show Steps p.tables e below (s₁.setTop (mkF m 39 #[.val (.int p1)] [(.int (1048575 : Int32)), (.int p1)])) _
                refine XS.icmpNo X0.here hx rfl (hb hby dmethod_2_code_39) rfl (flt hc39_105).2.2.1 ?_
                show Steps p.tables e below (s₁.setTop (mkF m 42 #[.val (.int p1)] [])) _
                refine XS.iconst X0.here hx rfl (hb hby dmethod_2_code_42) ?_
                exact kk)
              obtain ⟨fs, hr, hrun, hended, hW, hsame⟩ := X0.leave (v := some (.int (3 : Int32))) (fun h => by rw [Bd.returns] at h; cases h)
              refine ⟨_, _, k117 _ ?_, hrun, hended, _, _, rfl, ?_, ⟨_, rfl⟩, hW, hsame.mono (by decide) (by decide)⟩
              · show Steps p.tables e below (s₁.setTop (mkF m 43 #[.val (.int p1)] [(.int (3 : Int32))])) _
                exact retI X0 hx Bd.returns (hb hby dmethod_2_code_43) hr
              · show QE Z p1 h0 n0 _ s₁.heap _
                rw [e0]
                exact ⟨by simp [own_exp, hc3_1, hc9_61, hc18_63, hc25_91, hc33_93, hc39_105], rfl, rfl⟩
        · have k119 : Go p e below (s₁.setTop (entryFrame m #[(.int p1)] 1)) (s₁.setTop (mkF m 29 #[.val (.int p1)] [(.int (2 : Int32))])) := fun t kk => k92 t (by
            show Steps p.tables e below (s₁.setTop (mkF m 25 #[.val (.int p1)] [(.int (8191 : Int32)), (.int p1)])) _
            refine XS.icmpNo X0.here hx rfl (hb hby dmethod_2_code_25) rfl (flt hc25_91).2.2.1 ?_
            show Steps p.tables e below (s₁.setTop (mkF m 28 #[.val (.int p1)] [])) _
            refine XS.iconst X0.here hx rfl (hb hby dmethod_2_code_28) ?_
            exact kk)
          obtain ⟨fs, hr, hrun, hended, hW, hsame⟩ := X0.leave (v := some (.int (2 : Int32))) (fun h => by rw [Bd.returns] at h; cases h)
          refine ⟨_, _, k119 _ ?_, hrun, hended, _, _, rfl, ?_, ⟨_, rfl⟩, hW, hsame.mono (by decide) (by decide)⟩
          · show Steps p.tables e below (s₁.setTop (mkF m 29 #[.val (.int p1)] [(.int (2 : Int32))])) _
            exact retI X0 hx Bd.returns (hb hby dmethod_2_code_29) hr
          · show QE Z p1 h0 n0 _ s₁.heap _
            rw [e0]
            exact ⟨by simp [own_exp, hc3_1, hc9_61, hc18_63, hc25_91], rfl, rfl⟩
    · have k121 : Go p e below (s₁.setTop (entryFrame m #[(.int p1)] 1)) (s₁.setTop (mkF m 13 #[.val (.int p1)] [(.int (1 : Int32))])) := fun t kk => k62 t (by
        show Steps p.tables e below (s₁.setTop (mkF m 9 #[.val (.int p1)] [(.int (63 : Int32)), (.int p1)])) _
        refine XS.icmpNo X0.here hx rfl (hb hby dmethod_2_code_9) rfl (flt hc9_61).2.2.1 ?_
        show Steps p.tables e below (s₁.setTop (mkF m 12 #[.val (.int p1)] [])) _
        refine XS.iconst X0.here hx rfl (hb hby dmethod_2_code_12) ?_
        exact kk)
      obtain ⟨fs, hr, hrun, hended, hW, hsame⟩ := X0.leave (v := some (.int (1 : Int32))) (fun h => by rw [Bd.returns] at h; cases h)
      refine ⟨_, _, k121 _ ?_, hrun, hended, _, _, rfl, ?_, ⟨_, rfl⟩, hW, hsame.mono (by decide) (by decide)⟩
      · show Steps p.tables e below (s₁.setTop (mkF m 13 #[.val (.int p1)] [(.int (1 : Int32))])) _
        exact retI X0 hx Bd.returns (hb hby dmethod_2_code_13) hr
      · show QE Z p1 h0 n0 _ s₁.heap _
        rw [e0]
        exact ⟨by simp [own_exp, hc3_1, hc9_61], rfl, rfl⟩
theorem pd_0 : parseMethodDescriptor "(I)I" = some ⟨[.int], some .int⟩ := by decide +kernel
theorem ef_rm0 (m : MethodId) (x0 : Int32) : entryFrame m #[(.int x0)] maxLocals = mkF m 0 #[.val (.int x0)] [] := by first | (simp [entryFrame, mkF, argsToLocals, Value.category, maxLocals]; done) | rfl
def Q0 (Z : State) (p1 : Int32) (h0 : Heap) (n0 : Nat) (v : Option Value) (h : Heap) (L : List Loc) : Prop := v = some (.int 1) ∧ Fr n0 L
set_option maxRecDepth 65536 in
set_option maxHeartbeats 40000000 in
theorem rm0 (l : Launch) (Z : State) (a0 : Array Value) (hw : ∀ d ∈ tables_1, d.before a0 Z = true) (ws : List Jvm.Cond) (p1 : Int32) (h0 : Heap) (n0 : Nat) (Z0 : n0 ≤ h0.size) :
    MetFree l x (head1 (Jvm.Cond.code x code maxLocals ret :: ws) room_1) (fun a U => a = #[(.int p1)] ∧ Z.Warmed39 U.vm ∧ U.heap = h0) (fun _ _ _ _ _ => True) (fun _ U o U' => ∃ v L, o = .returned v ∧ Q0 Z p1 h0 n0 v U'.heap L ∧ FrameEnd U o U' L room_1.cells room_1.slots) := by
  refine MetFree.of_bodySF (plainFor_of_name pn_1) hisR ?_
  intro p e s m args below meth c s₁ Bd hml0 hP hK
  obtain ⟨rfl, hZ, hh⟩ := hP
  have hx := Bd.exec
  have hby := Bd.bytes
  have hml : c.maxLocals = 1 := hml0
  have hown : s.vm.findClass "com/example/wasserstand/wasserstand/log/VarintSizeOfIntPinLaw" = some m.cls := findClass_of_methodNamed Bd.named
  have hnm := (name_of_methodNamed Bd.named Bd.method).1
  have X0 : Stand p l e room_1 s m #[(.int p1)] below meth c s₁ [] 0 0 := Stand.of_body Bd
  have e0 : s₁.heap = h0 := by rw [← hh, Bd.state]; rfl
  have N0 := Fr.nil n0
  have k0 : Go p e below (s₁.setTop (entryFrame m #[(.int p1)] maxLocals)) (s₁.setTop (mkF m 0 #[.val (.int p1)] [])) := fun t k => castTop (ef_rm0 m p1) k
  have k1 : Go p e below (s₁.setTop (entryFrame m #[(.int p1)] maxLocals)) (s₁.setTop (mkF m 1 #[.val (.int p1)] [(.int p1)])) := fun t kk => k0 t (by
    show Steps p.tables e below (s₁.setTop (mkF m 0 #[.val (.int p1)] [])) _
    refine XS.iloadN X0.here hx rfl (hb hby at_0) rfl ?_
    exact kk)
  obtain ⟨_, _, ⟨T2, L2, kx2, nx2⟩, -, X2, ⟨Lc2, hQ2, l2, y2, z2⟩, st2⟩ := Jvm.LawKit.callS X0 hx (y := (⟨"com/example/wasserstand/wasserstand/log/Varint", "sizeOfInt", "(I)I"⟩ : MethodName)) hown (mvT hZ (hw _ (List.mem_of_getElem? (i := 0) rfl))) (mvT hZ (hw _ (List.mem_of_getElem? (i := 1) rfl))) (mvT hZ (hw _ (List.mem_of_getElem? (i := 2) rfl))) (mvT hZ (hw _ (List.mem_of_getElem? (i := 3) rfl))) (by decide) (backOf (W := 0) (rmS l Z a0 hw [] p1 h0 n0 Z0 ) hZ (hw _ (List.mem_of_getElem? (i := 3) rfl)) (hw _ (List.mem_of_getElem? (i := 2) rfl)) (by decide) (by decide)) (g := (mkF m 1 #[.val (.int p1)] [(.int p1)])) rfl (by rw [hml]; rfl) (argsL := [(.int p1)]) (rest := []) (lenOf pd_0 rfl) rfl (by show 2 * 0 + _ ≤ _; exact Nat.le_of_eq rfl) (hb hby at_1) (fun _ _ => ⟨rfl, e0, (by decide : 0 + 0 ≤ _), (by decide : 0 + 0 ≤ _)⟩)
  dsimp only [Pt.U, Pt.locs, Pt.cells, Pt.slots] at X2 l2 y2 z2 st2 hQ2
  subst l2 y2 z2
  obtain ⟨rfl, rfl, e2⟩ := hQ2
  try rw [List.append_nil] at X2
  have k2 : Go p e below (s₁.setTop (entryFrame m #[(.int p1)] maxLocals)) (T2.setTop (mkF m 4 #[.val (.int p1)] [(.int (own_size p1))])) := fun t kk => k1 t (st2 t kk)
  have k3 : Go p e below (s₁.setTop (entryFrame m #[(.int p1)] maxLocals)) (T2.setTop (mkF m 5 #[.val (.int p1)] [(.int p1), (.int (own_size p1))])) := fun t kk => k2 t (by
    show Steps p.tables e below (T2.setTop (mkF m 4 #[.val (.int p1)] [(.int (own_size p1))])) _
    refine XS.iloadN X2.here hx rfl (hb hby at_4) rfl ?_
    exact kk)
  obtain ⟨_, _, ⟨T4, L4, kx4, nx4⟩, -, X4, ⟨Lc4, hQ4, l4, y4, z4⟩, st4⟩ := Jvm.LawKit.callS X2 hx (y := (⟨"com/example/wasserstand/wasserstand/log/VarintSizeOfIntPinLaw", "expected", "(I)I"⟩ : MethodName)) hown (mvT hZ (hw _ (List.mem_of_getElem? (i := 4) rfl))) (mvT hZ (hw _ (List.mem_of_getElem? (i := 5) rfl))) (mvT hZ (hw _ (List.mem_of_getElem? (i := 6) rfl))) (mvT hZ (hw _ (List.mem_of_getElem? (i := 7) rfl))) (by decide) (backOf (W := 1) (rmE l Z a0 hw [] p1 h0 n0 Z0 ) hZ (hw _ (List.mem_of_getElem? (i := 7) rfl)) (hw _ (List.mem_of_getElem? (i := 6) rfl)) (by decide) (by decide)) (g := (mkF m 5 #[.val (.int p1)] [(.int p1), (.int (own_size p1))])) rfl (by rw [hml]; rfl) (argsL := [(.int p1)]) (rest := [(.int (own_size p1))]) (lenOf pd_0 rfl) rfl (by show 2 * 0 + _ ≤ _; exact Nat.le_of_eq rfl) (hb hby at_5) (fun _ _ => ⟨rfl, e2, (by decide : 0 + 0 ≤ _), (by decide : 0 + 0 ≤ _)⟩)
  dsimp only [Pt.U, Pt.locs, Pt.cells, Pt.slots] at X4 l4 y4 z4 st4 hQ4
  subst l4 y4 z4
  obtain ⟨rfl, rfl, e4⟩ := hQ4
  try rw [List.append_nil] at X4
  have k4 : Go p e below (s₁.setTop (entryFrame m #[(.int p1)] maxLocals)) (T4.setTop (mkF m 8 #[.val (.int p1)] [(.int (own_exp p1)), (.int (own_size p1))])) := fun t kk => k3 t (st4 t kk)
  have hd := own_same p1
  have k5 : Go p e below (s₁.setTop (entryFrame m #[(.int p1)] maxLocals)) (T4.setTop (mkF m 16 #[.val (.int p1)] [(.int (1 : Int32))])) := fun t kk => k4 t (by
    show Steps p.tables e below (T4.setTop (mkF m 8 #[.val (.int p1)] [(.int (own_exp p1)), (.int (own_size p1))])) _
    refine XS.icmpNo X4.here hx rfl (hb hby at_8) rfl (teq hd).2 ?_
    show Steps p.tables e below (T4.setTop (mkF m 11 #[.val (.int p1)] [])) _
    refine XS.iconst X4.here hx rfl (hb hby at_11) ?_
    show Steps p.tables e below (T4.setTop (mkF m 12 #[.val (.int p1)] [(.int (1 : Int32))])) _
    refine XS.goto X4.here hx rfl (pc0 := 12) (pc' := 16) rfl (hb hby at_12) (by decide) (by decide) ?_
    exact kk)
  obtain ⟨fs, hr, hrun, hended, hW, hsame⟩ := X4.leave (v := some (.int (1 : Int32))) (fun h => by rw [Bd.returns] at h; cases h)
  refine ⟨_, _, k5 _ ?_, hrun, hended, _, _, rfl, ?_, ⟨_, rfl⟩, hW, hsame.mono (by decide) (by decide)⟩
  · show Steps p.tables e below (T4.setTop (mkF m 16 #[.val (.int p1)] [(.int (1 : Int32))])) _
    exact retN X4 hx (t := .boolean) Bd.returns (by simp) (hb hby at_16) hr
  · show Q0 Z p1 h0 n0 _ T4.heap _
    rw [e4]
    exact ⟨rfl, N0⟩
set_option maxRecDepth 65536 in
set_option maxHeartbeats 40000000 in
theorem comes_1 {Post : Tables → Env → Array Value → State → Outcome → State → Prop} (hpost : ∀ tb e args s v u, (limb_1_1.after args s (.returned v) u = true ∧ limb_1_2.after args s (.returned v) u = true ∧ True) → FrameEnd s (.returned v) u (Jvm.fieldLocs frame_1_writes args s ++ Jvm.arrayLocs frame_1_arrays args s ++ Jvm.staticLocs frame_1_statics s) 0 0 → Post tb e args s (.returned v) u) :
    ArmFor flags0 classFile x code maxLocals ret World_1 tables_1 room_1 Calls_1 rest_1 Pre_1 Post := by
  intro l hfl _ _ p e ha hc hk s m args below hf hA hF happ hP
  obtain ⟨hcalls, hrest, hpre⟩ := hP
  obtain ⟨-, -, -, hnamed, -, -, -, hat⟩ := (Spec.applies_iff hf).mp happ
  obtain ⟨hg, hn⟩ := and_e (Cond.before_iff.mp (show (Jvm.Cond.and given_1 narrow_1).before args s = true from hpre))
  obtain ⟨g1, g2⟩ := and_e hg
  obtain ⟨w0, rfl⟩ : ∃ w0 : Value, args = #[w0] := by
    have hs : args.size = 1 := by simpa [Cond.value, given_1] using g1
    obtain ⟨L⟩ := args
    match L, hs with
    | [w0], _ => exact ⟨w0, rfl⟩
  have hw := fun d (hd : d ∈ tables_1) => atoms_spec (ws := Jvm.Cond.code x code maxLocals ret :: tables_1) hat d (List.mem_cons_of_mem _ hd)
  have hfit : Fit s := fun {y c} hc i hi => by
    obtain ⟨ha, rfl⟩ := Array.getElem?_eq_some_iff.mp hc
    have q := List.all_eq_true.mp ((Array.all_eq_true_iff_forall_mem.mp hF) _ (Array.getElem_mem ha)) i (List.mem_range.mpr hi)
    simpa [Array.getElem?_eq_getElem hi] using q
  obtain ⟨i0, ei0⟩ := is_v g2
  obtain rfl : w0 = (.int i0) := Option.some.inj ei0
  obtain ⟨n, o, h1, h2, h3, _, L, rfl, ⟨rfl, N⟩, hq⟩ := rm0 l s _ hw tables_1 i0  s.heap s.heap.size (Nat.le_refl _)  p e ha hc hk s m _ below hf ((Spec.applies_iff_loose hf).mp happ).1 ⟨rfl, State.Warmed39.refl s, rfl⟩ trivial
  refine ⟨n, _, h1, h2, h3, hpost _ _ _ _ _ _ ⟨Cond.after_iff.mpr rfl, Cond.after_iff.mpr (eq_i res_at (Term.int_eval (1)) rfl), trivial⟩ ⟨hq.1, hq.2.1, (hq.2.2.sift fun y hy => Or.inr (N y hy)).mono (by decide) (by decide)⟩⟩
theorem main_1_1 : Claimed_1_1 := comes_1 fun _ _ _ _ _ _ h hF => ⟨h.1, hF⟩
theorem main_1_2 : Claimed_1_2 := comes_1 fun _ _ _ _ _ _ h hF => ⟨h.2.1, hF⟩
end Jvm.Pilot.@@N@@
namespace Jvm.Pilot.@@N@@
open Jvm Jvm.ClassFile Sem Op Lib Jvm.Free Jvm.Stand Jvm.Pilot.@@N@@.Jvm.D
/-! MADE BY PROGRAM (witnessworld.py) out of the Statement's table words and the real class files: 9 classes; the members and pool entries that the words name. The judged class is class 1, her method 2. -/
namespace start1
open Jvm.ClassFile
def u (s : String) : CpInfo := .utf8 (stringToUtf16 s)
/-- a pool by its gaps: so many unusable entries, then the entry; so many at the end -/
def gap : Nat → List CpInfo → List CpInfo
  | 0, r => r
  | n + 1, r => .unusable :: gap n r
def poolList (es : List (Nat × CpInfo)) (last : Nat) : List CpInfo := es.foldr (fun e r => gap e.1 (e.2 :: r)) (gap last [])
def pool (es : List (Nat × CpInfo)) (last : Nat) : Array CpInfo := ⟨poolList es last⟩
def fileOf (pool : Array CpInfo) (this : Nat) (attrs : Array Attribute := #[]) (ms : Array MethodInfo := #[]) (fl : Nat := 33) (sup : Nat := 0) (ifs : Array Nat := #[]) (fds : Array FieldInfo := #[]) : ClassFile where
  minorVersion := 0
  majorVersion := 65
  constantPool := pool
  accessFlags := fl
  thisClass := this
  superClass := sup
  interfaces := ifs
  fields := fds
  methods := ms
  attributes := attrs
def plain (name : String) (sup : Option ClassId) : Class where
  name := name
  kind := .ordinary
  loader := none
  accessFlags := 33
  super := sup
  interfaces := #[]
  cf := none
  fields := #[]
  methods := #[]
  instanceTypes := #[]
  staticTypes := #[]
  resolved := #[]
  callSites := []
  init := .initialized
  statics := none
  mirror := none

def pool0 : Array CpInfo := pool [(5, u "<init>"), (0, u "()V"), (1, .class_ 10), (1, u "java/lang/Object")] 113

def k0m0 : Method := { name := "<init>", desc := "()V", sig := { parameters := [], returnType := none }, accessFlags := 1, code := none }
/-- java/lang/Object -/
def k0 : Class := { plain "java/lang/Object" none with
  accessFlags := 33
  interfaces := #[]
  cf := some (fileOf pool0 8 #[] #[{ accessFlags := 1, nameIndex := 5, descriptorIndex := 6, attributes := #[] }] 33 0 #[] #[])
  fields := #[]
  methods := #[k0m0]
  instanceTypes := #[]
  staticTypes := #[]
  resolved := Array.replicate 124 none
  statics := none }

def pool1 : Array CpInfo := pool [(2, .class_ 4), (1, u "java/lang/Object"), (0, u "<init>"), (0, u "()V"), (0, .integer 4293918720), (0, .integer 1048575), (0, .integer 4160749568), (0, .integer 134217727), (0, .methodref 12 13), (0, .class_ 14), (0, .nameAndType 15 16), (0, u "com/example/wasserstand/wasserstand/log/Varint"), (0, u "sizeOfInt"), (0, u "(I)I"), (0, .methodref 18 19), (0, .class_ 20), (0, .nameAndType 21 16), (0, u "com/example/wasserstand/wasserstand/log/VarintSizeOfIntPinLaw"), (0, u "expected"), (3, u "law"), (0, u "(I)Z")] 2

def k1m0 : Method := { name := "<init>", desc := "()V", sig := { parameters := [], returnType := none }, accessFlags := 2, code := none }
def k1c1 : Code := { maxStack := 2, maxLocals := 1, code := method_2_code, exceptionTable := #[], attributes := #[] }
def k1m1 : Method := { name := "expected", desc := "(I)I", sig := { parameters := [.int], returnType := some .int }, accessFlags := 10, code := some k1c1 }
def k1c2 : Code := { maxStack := 2, maxLocals := 1, code := code, exceptionTable := #[], attributes := #[] }
def k1m2 : Method := { name := "law", desc := "(I)Z", sig := { parameters := [.int], returnType := some .boolean }, accessFlags := 9, code := some k1c2 }
/-- com/example/wasserstand/wasserstand/log/VarintSizeOfIntPinLaw -/
def k1 : Class := { plain "com/example/wasserstand/wasserstand/log/VarintSizeOfIntPinLaw" (some 0) with
  accessFlags := 49
  interfaces := #[]
  cf := some (fileOf pool1 18 #[] #[{ accessFlags := 2, nameIndex := 5, descriptorIndex := 6, attributes := #[] }, { accessFlags := 10, nameIndex := 21, descriptorIndex := 16, attributes := #[] }, { accessFlags := 9, nameIndex := 25, descriptorIndex := 26, attributes := #[] }] 49 2 #[] #[])
  fields := #[]
  methods := #[k1m0, k1m1, k1m2]
  instanceTypes := #[]
  staticTypes := #[]
  resolved := Array.replicate 29 none
  statics := none }

def pool2 : Array CpInfo := pool [(2, .class_ 4), (1, u "java/lang/Object"), (0, u "<init>"), (0, u "()V"), (12, .class_ 20), (0, u "com/example/wasserstand/wasserstand/log/Varint"), (23, u "MAX_INT_BYTES"), (0, u "I"), (2, u "MAX_LONG_BYTES"), (3, u "sizeOfInt"), (0, u "(I)I")] 27

def k2m0 : Method := { name := "<init>", desc := "()V", sig := { parameters := [], returnType := none }, accessFlags := 2, code := none }
def k2c1 : Code := { maxStack := 3, maxLocals := 3, code := prog_150_method_2_code, exceptionTable := #[], attributes := #[] }
def k2m1 : Method := { name := "sizeOfInt", desc := "(I)I", sig := { parameters := [.int], returnType := some .int }, accessFlags := 8, code := some k2c1 }
/-- com/example/wasserstand/wasserstand/log/Varint -/
def k2 : Class := { plain "com/example/wasserstand/wasserstand/log/Varint" (some 0) with
  accessFlags := 48
  interfaces := #[]
  cf := some (fileOf pool2 19 #[] #[{ accessFlags := 2, nameIndex := 5, descriptorIndex := 6, attributes := #[] }, { accessFlags := 8, nameIndex := 52, descriptorIndex := 53, attributes := #[] }] 48 2 #[] #[{ accessFlags := 26, nameIndex := 44, descriptorIndex := 45, attributes := #[] }, { accessFlags := 26, nameIndex := 48, descriptorIndex := 45, attributes := #[] }])
  fields := #[{ name := "MAX_INT_BYTES", type := .int, accessFlags := 26, slot := 0, constantValue := 0 }, { name := "MAX_LONG_BYTES", type := .int, accessFlags := 26, slot := 1, constantValue := 0 }]
  methods := #[k2m0, k2m1]
  instanceTypes := #[]
  staticTypes := #[.int, .int]
  resolved := Array.replicate 81 none
  statics := none }

def pool3 : Array CpInfo := pool [(1, u "java/lang/Cloneable"), (0, .class_ 1), (0, u "java/lang/Object"), (0, .class_ 3)] 3

/-- java/lang/Cloneable -/
def k3 : Class := { plain "java/lang/Cloneable" (some 0) with
  accessFlags := 1537
  interfaces := #[]
  cf := some (fileOf pool3 2 #[] #[] 1537 4 #[] #[])
  fields := #[]
  methods := #[]
  instanceTypes := #[]
  staticTypes := #[]
  resolved := Array.replicate 8 none
  statics := none }

def pool4 : Array CpInfo := pool [(1, u "java/io/Serializable"), (0, .class_ 1), (0, u "java/lang/Object"), (0, .class_ 3)] 3

/-- java/io/Serializable -/
def k4 : Class := { plain "java/io/Serializable" (some 0) with
  accessFlags := 1537
  interfaces := #[]
  cf := some (fileOf pool4 2 #[] #[] 1537 4 #[] #[])
  fields := #[]
  methods := #[]
  instanceTypes := #[]
  staticTypes := #[]
  resolved := Array.replicate 8 none
  statics := none }

/-- the primitive byte -/
def k5 : Class := { plain "byte" none with kind := .primitive 'B', accessFlags := 0x411 }
/-- [B -/
def k6 : Class := { plain "[B" (some 0) with kind := .array 5 .byte, interfaces := #[3, 4], accessFlags := 1041 }

/-- the primitive int -/
def k7 : Class := { plain "int" none with kind := .primitive 'I', accessFlags := 0x411 }
/-- [I -/
def k8 : Class := { plain "[I" (some 0) with kind := .array 7 .int, interfaces := #[3, 4], accessFlags := 1041 }

def heap : Heap := #[]
def classes : Array Class := #[k0, k1, k2, k3, k4, k5, k6, k7, k8]
def interned : List (Array UInt16 × Addr) := []
def slotsUsed : Nat := 0
def theMethod : MethodId := ⟨1, 2⟩
def args0 : Array Value := #[.int 5]
def aboutOver (below : List Frame) : State where
  vm := { classes := classes, interned := interned.toArray }
  heap := heap
  slotsUsed := slotsUsed
  threads := #[{ frames := .invoking theMethod args0 :: below }]
def below0 : List Frame := [.native { method := ⟨0, 0⟩, args := #[] }]
def about1 : State := aboutOver below0
def p0 : Program := .bare "" "" ""
def e0 : Env := launch0.env 0 0 0
theorem w_frames : about1.frames = Frame.invoking theMethod args0 :: below0 := rfl
set_option maxRecDepth 65536 in
theorem w_args : argsFit about1.vm theMethod args0 = true := by decide +kernel
set_option maxRecDepth 65536 in
theorem w_heap : heapFits about1 = true := by decide +kernel
set_option maxRecDepth 65536 in
theorem w_runnable : about1.curStatus? = some .runnable := by decide +kernel
set_option maxRecDepth 65536 in
theorem w_alone : about1.alone = true := by decide +kernel
set_option maxRecDepth 65536 in
theorem w_named : about1.methodNamed? x = some theMethod := by decide +kernel
set_option maxRecDepth 65536 in
theorem w_hears : about1.hears theMethod below0 = true := by decide +kernel
set_option maxRecDepth 65536 in
theorem w_ripe : about1.ripe theMethod args0 below0 = true := by decide +kernel
theorem w_running : about1.status = .running := rfl
set_option maxRecDepth 65536 in
theorem w_room : about1.hasRoom e0.platform room_1 = true :=
  launch0.hasRoom_least _ room_1 (by decide +kernel) (by decide +kernel) (by decide +kernel) (by decide +kernel) (by decide +kernel) (by decide +kernel)
theorem allAtoms_all (ts : List Jvm.Cond) (a : Array Jvm.Value) (st : Jvm.State) : (allAtoms ts).before a st = ts.all (fun c => c.before a st) := by
  induction ts with
  | nil => rfl
  | cons c t ih =>
    show (Jvm.Cond.and c (allAtoms t)).before a st = _
    rw [Jvm.Cond.before_and, ih, List.all_cons]
def words1 : List Jvm.Cond := Jvm.Cond.code x code maxLocals ret :: tables_1
/-- a 'code' word, met by the world's own term for the bytes: nothing is compared byte by byte -/
theorem code_word {y : MethodName} {bytes : ByteArray} {mx : Nat} {rt : Option FieldType} {a : Array Value} {s : State} {m : MethodId} {meth : Method} {c : Code} (h1 : s.methodNamed? y = some m) (h2 : s.vm.method? m = some meth) (h3 : meth.code = some c) (h4 : c.code = bytes)
    (h5 : (c.maxLocals == mx && c.exceptionTable.isEmpty && decide (c.maxStack ≤ mostOperands) && decide (meth.sig.returnType = rt) && !meth.locks && decide (parseMethodDescriptor y.desc = some meth.sig)) = true) : (Jvm.Cond.code y bytes mx rt).before a s = true := by
  simp only [Bool.and_eq_true, beq_iff_eq, Bool.not_eq_true', decide_eq_true_eq] at h5
  obtain ⟨⟨⟨⟨⟨g1, g2⟩, g3⟩, g4⟩, g5⟩, g6⟩ := h5
  simp [Cond.before, Cond.holds, Cond.value, h1, h2, h3, h4, g1, g2, g3, g4, g5, g6]
def isCode : Jvm.Cond → Bool
  | .code _ _ _ _ => true
  | _ => false
theorem all_split {L : List Jvm.Cond} {P : Jvm.Cond → Bool} (h1 : L.all (fun c => isCode c || P c) = true) (h2 : ∀ c ∈ L.filter isCode, P c = true) : L.all P = true := by
  refine List.all_eq_true.mpr fun c hc => ?_
  have h := List.all_eq_true.mp h1 c hc
  rcases Bool.eq_false_or_eq_true (isCode c) with hi | hi
  · exact h2 c (List.mem_filter.mpr ⟨hc, hi⟩)
  · simpa [hi] using h
set_option maxRecDepth 65536 in
theorem w_c0 : (Jvm.Cond.code x code maxLocals ret).before args0 about1 = true := code_word (m := ⟨1, 2⟩) (meth := k1m2) (c := k1c2) (by decide +kernel) rfl rfl rfl (by decide +kernel)
set_option maxRecDepth 65536 in
theorem w_c1 : (Jvm.Cond.code ({ cls := "com/example/wasserstand/wasserstand/log/Varint", name := "sizeOfInt", desc := "(I)I" } : Jvm.MethodName) prog_150_method_2_code (3 : Nat) (Option.some Jvm.ClassFile.FieldType.int)).before args0 about1 = true := code_word (m := ⟨2, 1⟩) (meth := k2m1) (c := k2c1) (by decide +kernel) rfl rfl rfl (by decide +kernel)
set_option maxRecDepth 65536 in
theorem w_c2 : (Jvm.Cond.code ({ cls := "com/example/wasserstand/wasserstand/log/VarintSizeOfIntPinLaw", name := "expected", desc := "(I)I" } : Jvm.MethodName) method_2_code (1 : Nat) (Option.some Jvm.ClassFile.FieldType.int)).before args0 about1 = true := code_word (m := ⟨1, 1⟩) (meth := k1m1) (c := k1c1) (by decide +kernel) rfl rfl rfl (by decide +kernel)
def codes1 : List Jvm.Cond := [Jvm.Cond.code x code maxLocals ret, Jvm.Cond.code ({ cls := "com/example/wasserstand/wasserstand/log/Varint", name := "sizeOfInt", desc := "(I)I" } : Jvm.MethodName) prog_150_method_2_code (3 : Nat) (Option.some Jvm.ClassFile.FieldType.int), Jvm.Cond.code ({ cls := "com/example/wasserstand/wasserstand/log/VarintSizeOfIntPinLaw", name := "expected", desc := "(I)I" } : Jvm.MethodName) method_2_code (1 : Nat) (Option.some Jvm.ClassFile.FieldType.int)]
set_option maxRecDepth 65536 in
theorem codes_eq : words1.filter isCode = codes1 := rfl
theorem w_codes : ∀ c ∈ words1.filter isCode, c.before args0 about1 = true := by
  rw [codes_eq]
  intro c hc
  simp only [codes1, List.mem_cons, List.not_mem_nil, or_false] at hc
  rcases hc with rfl | rfl | rfl
  · exact w_c0
  · exact w_c1
  · exact w_c2
set_option maxRecDepth 65536 in
theorem w_t1 : words1.all (fun c => isCode c || c.before args0 about1) = true := by decide +kernel
theorem w_tables : (allAtoms (Jvm.Cond.code x code maxLocals ret :: tables_1)).before args0 about1 = true := by
  rw [allAtoms_all]
  show words1.all (fun c => c.before args0 about1) = true
  refine all_split ?_ w_codes
  rw [w_t1]
set_option maxRecDepth 65536 in
theorem w_case : (Jvm.Cond.and given_1 narrow_1).before args0 about1 = true := by decide +kernel
theorem w_applies : (headSpec (Jvm.Cond.code x code maxLocals ret :: tables_1) room_1).applies x e0.platform about1 = true :=
  (Spec.applies_iff w_frames).mpr ⟨w_running, w_runnable, w_alone, w_named, w_hears, w_ripe, w_room, w_tables⟩
theorem atStart : AtStart classFile x code maxLocals ret World_1 tables_1 room_1 Calls_1 rest_1 Pre_1 launch0 p0 e0 about1 theMethod args0 below0 :=
  ⟨lists_1, trivial, launch0.admits_env _ _ _, launch0.least_env, fairChoices_fair.cas, fairChoices_fair.clock, w_frames, w_args, w_heap, w_applies, trivial, trivial, w_case⟩
end start1
theorem witness_1 : WitnessClaimed_1 := ⟨start1.p0, start1.e0, start1.about1, start1.theMethod, start1.args0, start1.below0, start1.atStart⟩
end Jvm.Pilot.@@N@@
