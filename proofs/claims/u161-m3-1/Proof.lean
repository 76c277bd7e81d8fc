import JvmDerived
import JvmDerived.Pilot.@@N@@Statement
import JvmDerived.Pilot.@@N@@Code
set_option linter.unusedVariables false
set_option linter.unusedSimpArgs false
namespace Jvm.RoadKit
open Sem ClassFile Op Lib Jvm.Stand Jvm.Free Jvm.LawKit
section New
variable {p : Program} {l : Launch} {e : Env} {R : Room} {s : State} {m : MethodId} {args : Array Value} {below : List Frame} {meth : Method} {c : Code} {T : State} {locs : List Loc} {cells slots : Nat}
theorem retI (X : Stand p l e R s m args below meth c T locs cells slots) (hx : p.tables.exec = Jvm.exec) {pc : Nat} {Ls : Array Slot} {z : Int32} {rest : List Value} (hret : meth.sig.returnType = some .int) (hd : decode c.code pc = .ok (.ireturn, 1)) {fs : List Frame}
    (hl : ∀ (f : JFrame) (acts : List Action), f.method = m → f.locked = none → f.entered = [] → (doReturn e (T.setTop f) acts (some (.int z))).1 = T.setFrames fs) : Steps p.tables e below (T.setTop (mkF m pc Ls (.int z :: rest))) (T.setFrames fs) := by
  have hm' : T.vm.method? m = some meth := X.method'
  have hn : narrow .int (.int z) = .int z := rfl
  show Steps p.tables e below (T.setTop { method := m, pc := pc, locals := Ls, stack := _ :: rest, locked := none }) _
  jvm_step X.here [X.here.top, hx, hd, hm', hret, hn]
  first | (intro acts; rw [hl _ acts rfl rfl rfl]) | rw [hl _ _ rfl rfl rfl]
  exact Steps.refl _
/-- whatever is reached from the one state is reached from the other -/
def Go (p : Program) (e : Env) (below : List Frame) (A B : State) : Prop := ∀ t, Steps p.tables e below B t → Steps p.tables e below A t
end New
end Jvm.RoadKit
/- laws to paste: Road.backV, Road.eqW, Road.chN, Road.codOf (cut by pick.py; bodies as the Statement names them) -/
namespace Jvm.Pilot.@@N@@
namespace StrChars
open Jvm Sem ClassFile Op Lib Jvm.Stand Jvm.Free.XT Jvm.Free.ALB Jvm.Free.JM Jvm.Free
open Jvm.Lib.Cold (StaticIs)
/-- a char array whose places are chars -/
def Ch (a : Addr) (A : Cell) (U : State) : Prop := Arr .char a A U ∧ Typed .char A
theorem Ch.mv {a : Addr} {A : Cell} {U U' : State} (h : Ch a A U) (hal : U.vm.Alike U'.vm) (hh : U'.heap = U.heap) : Ch a A U' := ⟨h.1.mv hal hh, h.2⟩
theorem Ch.keep {a : Addr} {A : Cell} {U U' : State} (h : Ch a A U) (hal : U.vm.Alike U'.vm) (hk : U'.heap[a]? = some A) : Ch a A U' := ⟨h.1.keep hal hk, h.2⟩
/-- what place i of a char[]'s cell holds -/
def cv (A : Cell) (i : Nat) : Int32 := match A.slots[i]? with | some (.int x) => x | _ => 0
theorem Ch.get {a : Addr} {A : Cell} {U : State} (h : Ch a A U) {i : Nat} (hi : i < A.slots.size) : A.slots[i]? = some (.int (cv A i)) := by
  have e := Array.getElem?_eq_getElem hi
  have f := h.2 i _ e
  unfold cv; rw [e]
  generalize A.slots[i] = v at f
  cases v <;> simp [fits] at f ⊢
/-- the byte that i2b leaves of a char -/
def lo8 (x : Int32) : Int32 := x.toInt8.toInt32
theorem fits_lo8 (y : Int32) : fits .byte (.int (lo8 y)) = true := by
  have h1 := y.toInt8.le_toInt
  have h2 := y.toInt8.toInt_lt
  simp only [lo8, fits, Bool.and_eq_true, decide_eq_true_eq, Int32.le_iff_toInt_le, Int8.toInt_toInt32, show (-128 : Int32).toInt = -128 from by decide, show (127 : Int32).toInt = 127 from by decide]
  omega
/-- A' is A but that each place j of lo .. hi - 1 holds f j -/
def Laid (A A' : Cell) (lo hi : Nat) (f : Nat → Value) : Prop := A'.cls = A.cls ∧ A'.vm = A.vm ∧ A'.slots.size = A.slots.size ∧ ∀ i, A'.slots[i]? = if lo ≤ i ∧ i < hi then some (f i) else A.slots[i]?
theorem Laid.zero (A : Cell) (lo : Nat) (f : Nat → Value) : Laid A A lo (lo + 0) f := ⟨rfl, rfl, rfl, fun i => by rw [if_neg (by omega)]⟩
theorem Laid.step {A Ak : Cell} {lo k : Nat} {f : Nat → Value} {v : Value} (h : Laid A Ak lo k f) (hlo : lo ≤ k) (hk : k < Ak.slots.size) (hv : v = f k) : Laid A (Ak.setSlot k v) lo (k + 1) f := by
  refine ⟨h.1, h.2.1, by simpa [Cell.setSlot] using h.2.2.1, fun i => ?_⟩
  by_cases e : k = i
  · subst e; rw [Cell.slots_setSlot_self v hk, if_pos (by omega), hv]
  · rw [Cell.slots_setSlot_ne v e, h.2.2.2 i]
    by_cases q : lo ≤ i ∧ i < k
    · rw [if_pos q, if_pos (by omega)]
    · rw [if_neg q, if_neg (by omega)]
def U16 : String := "java/lang/StringUTF16"
namespace Cmp5
def yN : MethodName := ⟨"java/lang/StringUTF16", "compress", "([CI[BII)I"⟩
abbrev yB : ByteArray := jdk_52_method_21_code
theorem d0 : decode yB 0 = .ok (.iconst 0, 1) := by decide +kernel
theorem d1 : decode yB 1 = .ok (.istore 5, 2) := by decide +kernel
theorem d3 : decode yB 3 = .ok (.iload 5, 2) := by decide +kernel
theorem d5 : decode yB 5 = .ok (.iload 4, 2) := by decide +kernel
theorem d7 : decode yB 7 = .ok (.if_icmp (.ge) 37, 3) := by decide +kernel
theorem d10 : decode yB 10 = .ok (.aload_n 0, 1) := by decide +kernel
theorem d11 : decode yB 11 = .ok (.iload_n 1, 1) := by decide +kernel
theorem d12 : decode yB 12 = .ok (.caload, 1) := by decide +kernel
theorem d13 : decode yB 13 = .ok (.istore 6, 2) := by decide +kernel
theorem d15 : decode yB 15 = .ok (.iload 6, 2) := by decide +kernel
theorem d17 : decode yB 17 = .ok (.sipush 255, 3) := by decide +kernel
theorem d20 : decode yB 20 = .ok (.if_icmp (.le) 6, 3) := by decide +kernel
theorem d26 : decode yB 26 = .ok (.aload_n 2, 1) := by decide +kernel
theorem d27 : decode yB 27 = .ok (.iload_n 3, 1) := by decide +kernel
theorem d28 : decode yB 28 = .ok (.iload 6, 2) := by decide +kernel
theorem d30 : decode yB 30 = .ok (.i2b, 1) := by decide +kernel
theorem d31 : decode yB 31 = .ok (.bastore, 1) := by decide +kernel
theorem d32 : decode yB 32 = .ok (.iinc 1 1, 3) := by decide +kernel
theorem d35 : decode yB 35 = .ok (.iinc 3 1, 3) := by decide +kernel
theorem d38 : decode yB 38 = .ok (.iinc 5 1, 3) := by decide +kernel
theorem d41 : decode yB 41 = .ok (.goto (-38), 3) := by decide +kernel
theorem d44 : decode yB 44 = .ok (.iload 4, 2) := by decide +kernel
theorem d46 : decode yB 46 = .ok (.ireturn, 1) := by decide +kernel
def site : List Cond := []
def tab : Cond := tabOf yN yB 7 (some .int) site
def P (b : Addr) (A : Cell) (d : Addr) (B : Cell) (o q len : Nat) (args : Array Value) (s : State) : Prop := args = #[.ref b, .int (Int32.ofNat o), .ref d, .int (Int32.ofNat q), .int (Int32.ofNat len)] ∧ Ch b A s ∧ Arr .byte d B s ∧ b ≠ d ∧ o + len ≤ A.slots.size ∧ q + len ≤ B.slots.size ∧ ∀ i, i < len → ¬ 255 < cv A (o + i)
def E (b : Addr) (A : Cell) (d : Addr) (B : Cell) (o q len : Nat) (r : Option Value) (s u : State) : Prop := r = some (.int (Int32.ofNat len)) ∧ ∃ B', Put d B' s u ∧ Laid B B' q (q + len) (fun j => Value.int (lo8 (cv A (o + (j - q)))))
/-- no char of the range above 255: len; the places written hold each char's low byte -/
theorem law (l : Launch) (b : Addr) (A : Cell) (d : Addr) (B : Cell) (o q len : Nat) : Law l yN 5 5 0 0 yB 7 (some .int) site (P b A d B o q len) (E b A d B o q len) (copyLocs d q len) 0 0 := by
  refine Law.of_walk (plainFor_of_name (by decide +kernel)) (by decide +kernel) (by decide +kernel) (by decide) (fun _ _ h => by rw [h.1]; rfl) (fun _ U U' hal hh h => ⟨h.1, h.2.1.mv hal hh, h.2.2.1.mv hal hh, h.2.2.2⟩) (fun r U U' V V' h1 hal h2 h => ⟨h.1, h.2.elim fun B' q => ⟨B', q.1.mv h1 h2, q.2⟩⟩) ?_
  intro p e s m args below meth c s₁ X0 hexec hbytes hml hret hlk hnm hown hh0 W hP
  obtain ⟨rfl, hA, hB, hne, l1, l2, hp⟩ := hP
  have c1 : Steps p.tables e below (s₁.setTop (entryFrame m #[.ref b, .int (Int32.ofNat o), .ref d, .int (Int32.ofNat q), .int (Int32.ofNat len)] 7)) (s₁.setTop (mkF m 0 #[.val (.ref b), .val (.int (Int32.ofNat o)), .val (.ref d), .val (.int (Int32.ofNat q)), .val (.int (Int32.ofNat len)), .unset, .unset] [])) := entry rfl
  have hA0 := hA.1.mv X0.warmed.alike hh0
  have hB0 := hB.mv X0.warmed.alike hh0
  have a31 := hA.1.2.2.2
  have c2 : Steps p.tables e below (s₁.setTop (entryFrame m #[.ref b, .int (Int32.ofNat o), .ref d, .int (Int32.ofNat q), .int (Int32.ofNat len)] 7)) (s₁.setTop (mkF m 3 #[.val (.ref b), .val (.int (Int32.ofNat o)), .val (.ref d), .val (.int (Int32.ofNat q)), .val (.int (Int32.ofNat len)), .val (.int 0), .unset] [])) := c1.trans (by
    refine iconstV X0.here hexec rfl 0 (hb hbytes d0) (by decide) ?_
    refine XS.istore X0.here hexec rfl (hb hbytes d1) rfl rfl ?_
    exact Steps.refl _)
  have loop : ∀ (r i : Nat), i + r = len → ∀ (z : Slot), (z = .unset ∨ ∃ w, z = .val w ∧ w.category = 1) → ∀ (Tl : State) (Bk : Cell), Stand p l e { frames := 0, locals := 0, cells := 0, slots := 0 } s m #[.ref b, .int (Int32.ofNat o), .ref d, .int (Int32.ofNat q), .int (Int32.ofNat len)] below meth c Tl ([] ++ copyLocs d q i) 0 0 → Put d Bk s₁ Tl → Laid B Bk q (q + i) (fun j => Value.int (lo8 (cv A (o + (j - q))))) →
      Steps p.tables e below (s₁.setTop (entryFrame m #[.ref b, .int (Int32.ofNat o), .ref d, .int (Int32.ofNat q), .int (Int32.ofNat len)] 7)) (Tl.setTop (mkF m 3 #[.val (.ref b), .val (.int (Int32.ofNat (o + i))), .val (.ref d), .val (.int (Int32.ofNat (q + i))), .val (.int (Int32.ofNat len)), .val (.int (Int32.ofNat i)), z] [])) → ∃ (T' : State) (B' : Cell) (z' : Slot), Stand p l e { frames := 0, locals := 0, cells := 0, slots := 0 } s m #[.ref b, .int (Int32.ofNat o), .ref d, .int (Int32.ofNat q), .int (Int32.ofNat len)] below meth c T' ([] ++ copyLocs d q len) 0 0 ∧ Put d B' s₁ T' ∧ Laid B B' q (q + len) (fun j => Value.int (lo8 (cv A (o + (j - q))))) ∧
      Steps p.tables e below (s₁.setTop (entryFrame m #[.ref b, .int (Int32.ofNat o), .ref d, .int (Int32.ofNat q), .int (Int32.ofNat len)] 7)) (T'.setTop (mkF m 3 #[.val (.ref b), .val (.int (Int32.ofNat (o + len))), .val (.ref d), .val (.int (Int32.ofNat (q + len))), .val (.int (Int32.ofNat len)), .val (.int (Int32.ofNat len)), z'] [])) := by
    intro r
    induction r with
    | zero =>
      intro i hi z hz Tl Bk Xl pl fl cl
      have hil : i = len := by omega
      rw [hil] at Xl fl cl
      exact ⟨Tl, Bk, z, Xl, pl, fl, cl⟩
    | succ r ih =>
      intro i hi z hz Tl Bk Xl pl fl cl
      have all := X0.warmed.alike.symm.trans Xl.warmed.alike
      have hAl := hA0.keep all (pl.other hne hA0.1)
      have hBk := hB0.like all pl.1 fl.1 fl.2.1 fl.2.2.1
      have hlt : q + i < Bk.slots.size := by rw [fl.2.2.1]; omega
      have c3 : Steps p.tables e below (s₁.setTop (entryFrame m #[.ref b, .int (Int32.ofNat o), .ref d, .int (Int32.ofNat q), .int (Int32.ofNat len)] 7)) (Tl.setTop (mkF m 12 #[.val (.ref b), .val (.int (Int32.ofNat (o + i))), .val (.ref d), .val (.int (Int32.ofNat (q + i))), .val (.int (Int32.ofNat len)), .val (.int (Int32.ofNat i)), z] [.int (Int32.ofNat (o + i)), .ref b])) := cl.trans (by
        refine XS.iload Xl.here hexec rfl (hb hbytes d3) rfl ?_
        refine XS.iload Xl.here hexec rfl (hb hbytes d5) rfl ?_
        refine XS.icmpNo Xl.here hexec rfl (hb hbytes d7) rfl (ii_ge_f (lt32 (by omega) (by omega))) ?_
        refine XS.aloadN Xl.here hexec rfl (hb hbytes d10) rfl rfl ?_
        refine XS.iloadN Xl.here hexec rfl (hb hbytes d11) rfl ?_
        exact Steps.refl _)
      have c4 : Steps p.tables e below (s₁.setTop (entryFrame m #[.ref b, .int (Int32.ofNat o), .ref d, .int (Int32.ofNat q), .int (Int32.ofNat len)] 7)) (Tl.setTop (mkF m 13 #[.val (.ref b), .val (.int (Int32.ofNat (o + i))), .val (.ref d), .val (.int (Int32.ofNat (q + i))), .val (.int (Int32.ofNat len)), .val (.int (Int32.ofNat i)), z] [.int (cv A (o + i))])) := c3.trans (by
        refine Xl.aget hexec hAl rfl (hA.get (i := o + i) (by omega)) rfl rfl (hb hbytes d12) ?_
        exact Steps.refl _)
      have c5 : Steps p.tables e below (s₁.setTop (entryFrame m #[.ref b, .int (Int32.ofNat o), .ref d, .int (Int32.ofNat q), .int (Int32.ofNat len)] 7)) (Tl.setTop (mkF m 15 #[.val (.ref b), .val (.int (Int32.ofNat (o + i))), .val (.ref d), .val (.int (Int32.ofNat (q + i))), .val (.int (Int32.ofNat len)), .val (.int (Int32.ofNat i)), .val (.int (cv A (o + i)))] [])) := c4.trans (by
        refine XS.istoreS Xl.here hexec rfl (hb hbytes d13) rfl rfl hz ?_
        exact Steps.refl _)
      have c6 : Steps p.tables e below (s₁.setTop (entryFrame m #[.ref b, .int (Int32.ofNat o), .ref d, .int (Int32.ofNat q), .int (Int32.ofNat len)] 7)) (Tl.setTop (mkF m 31 #[.val (.ref b), .val (.int (Int32.ofNat (o + i))), .val (.ref d), .val (.int (Int32.ofNat (q + i))), .val (.int (Int32.ofNat len)), .val (.int (Int32.ofNat i)), .val (.int (cv A (o + i)))] [.int (lo8 (cv A (o + i))), .int (Int32.ofNat (q + i)), .ref d])) := c5.trans (by
        refine XS.iload Xl.here hexec rfl (hb hbytes d15) rfl ?_
        refine sipushV Xl.here hexec rfl 255 (hb hbytes d17) (by decide) ?_
        refine XS.icmpYes Xl.here hexec rfl (pc0 := 20) rfl (hb hbytes d20) rfl (ii_le_t (hp i (by omega))) (by decide) rfl ?_
        refine XS.aloadN Xl.here hexec rfl (hb hbytes d26) rfl rfl ?_
        refine XS.iloadN Xl.here hexec rfl (hb hbytes d27) rfl ?_
        refine XS.iload Xl.here hexec rfl (hb hbytes d28) rfl ?_
        refine i2b Xl.here hexec rfl (hb hbytes d30) rfl ?_
        exact Steps.refl _)
      obtain ⟨T7, X7, p7, st7⟩ := Xl.aput hexec hBk rfl hlt rfl (fits_lo8 (cv A (o + i))) (g := (mkF m 31 #[.val (.ref b), .val (.int (Int32.ofNat (o + i))), .val (.ref d), .val (.int (Int32.ofNat (q + i))), .val (.int (Int32.ofNat len)), .val (.int (Int32.ofNat i)), .val (.int (cv A (o + i)))] [.int (lo8 (cv A (o + i))), .int (Int32.ofNat (q + i)), .ref d])) rfl (rest := []) rfl (hb hbytes d31)
      have c8 : Steps p.tables e below (s₁.setTop (entryFrame m #[.ref b, .int (Int32.ofNat o), .ref d, .int (Int32.ofNat q), .int (Int32.ofNat len)] 7)) (T7.setTop (mkF m 32 #[.val (.ref b), .val (.int (Int32.ofNat (o + i))), .val (.ref d), .val (.int (Int32.ofNat (q + i))), .val (.int (Int32.ofNat len)), .val (.int (Int32.ofNat i)), .val (.int (cv A (o + i)))] [])) := c6.trans (st7 _ (Steps.refl _))
      have c9 : Steps p.tables e below (s₁.setTop (entryFrame m #[.ref b, .int (Int32.ofNat o), .ref d, .int (Int32.ofNat q), .int (Int32.ofNat len)] 7)) (T7.setTop (mkF m 3 #[.val (.ref b), .val (.int (Int32.ofNat (o + i) + 1)), .val (.ref d), .val (.int (Int32.ofNat (q + i) + 1)), .val (.int (Int32.ofNat len)), .val (.int (Int32.ofNat i + 1)), .val (.int (cv A (o + i)))] [])) := c8.trans (by
        refine iincV X7.here hexec rfl 1 (hb hbytes d32) (by decide) rfl rfl ?_
        refine iincV X7.here hexec rfl 1 (hb hbytes d35) (by decide) rfl rfl ?_
        refine iincV X7.here hexec rfl 1 (hb hbytes d38) (by decide) rfl rfl ?_
        refine XS.goto X7.here hexec rfl (pc0 := 41) rfl (hb hbytes d41) (by decide) rfl ?_
        exact Steps.refl _)
      have c10 : Steps p.tables e below (s₁.setTop (entryFrame m #[.ref b, .int (Int32.ofNat o), .ref d, .int (Int32.ofNat q), .int (Int32.ofNat len)] 7)) (T7.setTop (mkF m 3 #[.val (.ref b), .val (.int (Int32.ofNat (o + (i + 1)))), .val (.ref d), .val (.int (Int32.ofNat (q + (i + 1)))), .val (.int (Int32.ofNat len)), .val (.int (Int32.ofNat (i + 1))), .val (.int (cv A (o + i)))] [])) := by
        have := c9
        rw [succ32, succ32, succ32] at this
        exact this
      exact ih (i + 1) (by omega) _ (Or.inr ⟨_, rfl, rfl⟩) T7 _ (by rw [copyLocs_step, ← List.append_assoc]; exact X7) (pl.trans p7) (fl.step (by omega) hlt (by simp)) c10
  obtain ⟨T9, B9, z9, X9, p9, f9, g9⟩ := loop len 0 (by omega) .unset (Or.inl rfl) s₁ B (by simpa [copyLocs] using X0) ⟨hB0.1, fun _ _ => rfl, rfl⟩ (Laid.zero _ _ _) c2
  have c11 : Steps p.tables e below (s₁.setTop (entryFrame m #[.ref b, .int (Int32.ofNat o), .ref d, .int (Int32.ofNat q), .int (Int32.ofNat len)] 7)) (T9.setTop (mkF m 46 #[.val (.ref b), .val (.int (Int32.ofNat (o + len))), .val (.ref d), .val (.int (Int32.ofNat (q + len))), .val (.int (Int32.ofNat len)), .val (.int (Int32.ofNat len)), z9] [.int (Int32.ofNat len)])) := g9.trans (by
    refine XS.iload X9.here hexec rfl (hb hbytes d3) rfl ?_
    refine XS.iload X9.here hexec rfl (hb hbytes d5) rfl ?_
    refine XS.icmpYes X9.here hexec rfl (pc0 := 7) rfl (hb hbytes d7) rfl (ii_ge_t (nlt32 (by omega) (Nat.le_refl _))) (by decide) rfl ?_
    refine XS.iload X9.here hexec rfl (hb hbytes d44) rfl ?_
    exact Steps.refl _)
  exact ⟨T9, some (.int (Int32.ofNat len)), _, _, _, X9, by simp, rfl, rfl, (fun h => by cases h), ⟨rfl, B9, p9.from hh0, f9⟩, fun fs hl => c11.trans (X9.ireturnOut hexec hret rfl (Or.inl rfl) (hb hbytes d46) hl)⟩
end Cmp5
namespace Cmp3
def yN : MethodName := ⟨"java/lang/StringUTF16", "compress", "([CII)[B"⟩
abbrev yB : ByteArray := jdk_52_method_16_code
theorem d0 : decode yB 0 = .ok (.iload_n 2, 1) := by decide +kernel
theorem d1 : decode yB 1 = .ok (.newarray .byte, 2) := by decide +kernel
theorem d3 : decode yB 3 = .ok (.astore_n 3, 1) := by decide +kernel
theorem d4 : decode yB 4 = .ok (.aload_n 0, 1) := by decide +kernel
theorem d5 : decode yB 5 = .ok (.iload_n 1, 1) := by decide +kernel
theorem d6 : decode yB 6 = .ok (.aload_n 3, 1) := by decide +kernel
theorem d7 : decode yB 7 = .ok (.iconst 0, 1) := by decide +kernel
theorem d8 : decode yB 8 = .ok (.iload_n 2, 1) := by decide +kernel
theorem d9 : decode yB 9 = .ok (.invokestatic 115, 3) := by decide +kernel
theorem d12 : decode yB 12 = .ok (.istore 4, 2) := by decide +kernel
theorem d14 : decode yB 14 = .ok (.iload 4, 2) := by decide +kernel
theorem d16 : decode yB 16 = .ok (.iload_n 2, 1) := by decide +kernel
theorem d17 : decode yB 17 = .ok (.if_icmp (.eq) 40, 3) := by decide +kernel
theorem d57 : decode yB 57 = .ok (.aload_n 3, 1) := by decide +kernel
theorem d58 : decode yB 58 = .ok (.areturn, 1) := by decide +kernel
def site : List Cond := [.arrayClass .byte, Cmp5.tab] ++ staticW U16 115 Cmp5.yN
def tab : Cond := tabOf yN yB 6 (some (.array .byte)) site
def P (b : Addr) (A : Cell) (o len : Nat) (args : Array Value) (s : State) : Prop := args = #[.ref b, .int (Int32.ofNat o), .int (Int32.ofNat len)] ∧ Ch b A s ∧ o + len ≤ A.slots.size ∧ len ≤ 536870912 ∧ ∀ i, i < len → ¬ 255 < cv A (o + i)
def E (b : Addr) (A : Cell) (o len : Nat) (r : Option Value) (s u : State) : Prop := NewArr .byte "[B" len (fun j => .int (lo8 (cv A (o + j)))) r s u ∧ u.heap.size = s.heap.size + 1
/-- no char of the range above 255: a new byte[] of their low bytes -/
theorem law (l : Launch) (b : Addr) (A : Cell) (o len : Nat) : Law l yN 3 3 1 18 yB 6 (some (.array .byte)) site (P b A o len) (E b A o len) [] 1 len := by
  refine Law.of_walk (plainFor_of_name (by decide +kernel)) (by decide +kernel) (by decide +kernel) (by decide) (fun _ _ h => by rw [h.1]; rfl) (fun _ U U' hal hh h => ⟨h.1, h.2.1.mv hal hh, h.2.2⟩) (fun r U U' V V' h1 hal h2 h => ⟨NewArr.mv r U U' V V' h1 hal h2 h.1, by rw [h1, h2]; exact h.2⟩) ?_
  intro p e s m args below meth c s₁ X0 hexec hbytes hml hret hlk hnm hown hh0 W hP
  obtain ⟨rfl, hA, l1, l2, hp⟩ := hP
  have a31 := hA.1.2.2.2
  have c1 : Steps p.tables e below (s₁.setTop (entryFrame m #[.ref b, .int (Int32.ofNat o), .int (Int32.ofNat len)] 6)) (s₁.setTop (mkF m 0 #[.val (.ref b), .val (.int (Int32.ofNat o)), .val (.int (Int32.ofNat len)), .unset, .unset, .unset] [])) := entry rfl
  have c2 : Steps p.tables e below (s₁.setTop (entryFrame m #[.ref b, .int (Int32.ofNat o), .int (Int32.ofNat len)] 6)) (s₁.setTop (mkF m 1 #[.val (.ref b), .val (.int (Int32.ofNat o)), .val (.int (Int32.ofNat len)), .unset, .unset, .unset] [.int (Int32.ofNat len)])) := c1.trans (by
    refine XS.iloadN X0.here hexec rfl (hb hbytes d0) rfl ?_
    exact Steps.refl _)
  obtain ⟨T3, B3, X3, ba3, bs3, bv3, bh3, bf3, st3⟩ := X0.anew hexec (atype := .byte) (wk W (.arrayClass .byte)) rfl (by show len * 1 ≤ _; omega) (by omega) (g := (mkF m 1 #[.val (.ref b), .val (.int (Int32.ofNat o)), .val (.int (Int32.ofNat len)), .unset, .unset, .unset] [.int (Int32.ofNat len)])) rfl (hb hbytes d1) (rest := []) rfl (Nat.le_refl _) (by show 0 + len ≤ len; omega)
  rw [hh0] at ba3 st3
  have kp3 : XT.Kept s T3 := (XT.Kept.of_eq hh0).push bh3
  have hA3 := hA.keep X3.warmed.alike (kp3 _ _ hA.1.1)
  have hne : b ≠ s.heap.size := hA.1.ne
  have c4 : Steps p.tables e below (s₁.setTop (entryFrame m #[.ref b, .int (Int32.ofNat o), .int (Int32.ofNat len)] 6)) (T3.setTop (mkF m 3 #[.val (.ref b), .val (.int (Int32.ofNat o)), .val (.int (Int32.ofNat len)), .unset, .unset, .unset] [.ref s.heap.size])) := c2.trans (st3 _ (Steps.refl _))
  have c5 : Steps p.tables e below (s₁.setTop (entryFrame m #[.ref b, .int (Int32.ofNat o), .int (Int32.ofNat len)] 6)) (T3.setTop (mkF m 9 #[.val (.ref b), .val (.int (Int32.ofNat o)), .val (.int (Int32.ofNat len)), .val (.ref s.heap.size), .unset, .unset] [.int (Int32.ofNat len), .int 0, .ref s.heap.size, .int (Int32.ofNat o), .ref b])) := c4.trans (by
    refine XS.astoreN X3.here hexec rfl (hb hbytes d3) rfl rfl rfl ?_
    refine XS.aloadN X3.here hexec rfl (hb hbytes d4) rfl rfl ?_
    refine XS.iloadN X3.here hexec rfl (hb hbytes d5) rfl ?_
    refine XS.aloadN X3.here hexec rfl (hb hbytes d6) rfl rfl ?_
    refine iconstV X3.here hexec rfl 0 (hb hbytes d7) (by decide) ?_
    refine XS.iloadN X3.here hexec rfl (hb hbytes d8) rfl ?_
    exact Steps.refl _)
  obtain ⟨v6, T6, X6, E6, g6⟩ := X3.callS hexec (Cmp5.law l b A s.heap.size B3 o 0 len) hown (wks W (staticW U16 115 Cmp5.yN)) (wk W Cmp5.tab) (W := 0) (Nat.le_of_ble_eq_true rfl) (Nat.le_of_ble_eq_true rfl) (Nat.le_refl _) (by show 0 + len + 0 ≤ len; omega) (g := (mkF m 9 #[.val (.ref b), .val (.int (Int32.ofNat o)), .val (.int (Int32.ofNat len)), .val (.ref s.heap.size), .unset, .unset] [.int (Int32.ofNat len), .int (Int32.ofNat 0), .ref s.heap.size, .int (Int32.ofNat o), .ref b])) rfl (by rw [hml]; rfl) c5 (argsL := [.ref b, .int (Int32.ofNat o), .ref s.heap.size, .int (Int32.ofNat 0), .int (Int32.ofNat len)]) (rest := []) rfl rfl (by show 2 * 0 + 0 ≤ _; decide) (hb hbytes d9) (⟨rfl, hA3, ba3, hne, l1, by rw [bs3]; simp, hp⟩)
  obtain ⟨rfl, B6, p6, f6⟩ := E6
  have c7 : Steps p.tables e below (s₁.setTop (entryFrame m #[.ref b, .int (Int32.ofNat o), .int (Int32.ofNat len)] 6)) (T6.setTop (mkF m 12 #[.val (.ref b), .val (.int (Int32.ofNat o)), .val (.int (Int32.ofNat len)), .val (.ref s.heap.size), .unset, .unset] [.int (Int32.ofNat len)])) := g6
  have c8 : Steps p.tables e below (s₁.setTop (entryFrame m #[.ref b, .int (Int32.ofNat o), .int (Int32.ofNat len)] 6)) (T6.setTop (mkF m 58 #[.val (.ref b), .val (.int (Int32.ofNat o)), .val (.int (Int32.ofNat len)), .val (.ref s.heap.size), .val (.int (Int32.ofNat len)), .unset] [.ref s.heap.size])) := c7.trans (by
    refine XS.istore X6.here hexec rfl (hb hbytes d12) rfl rfl ?_
    refine XS.iload X6.here hexec rfl (hb hbytes d14) rfl ?_
    refine XS.iloadN X6.here hexec rfl (hb hbytes d16) rfl ?_
    refine XS.icmpYes X6.here hexec rfl (pc0 := 17) rfl (hb hbytes d17) rfl (ii_eq_t rfl) (by decide) rfl ?_
    refine XS.aloadN X6.here hexec rfl (hb hbytes d57) rfl rfl ?_
    exact Steps.refl _)
  have X8 := X6.wide (L' := []) (cells' := 1) (slots' := len) (fun x hx hlt => by
    simp only [List.nil_append, copyLocs, List.mem_map, List.mem_range] at hx
    obtain ⟨i, -, rfl⟩ := hx
    exact absurd hlt (Nat.lt_irrefl _)) (Nat.le_refl _) (by omega)
  exact ⟨T6, some (.ref s.heap.size), _, _, _, X8, rfl, rfl, rfl, (fun h => by cases h), ⟨⟨rfl, B6, ba3.like (X3.warmed.alike.symm.trans X6.warmed.alike) p6.1 f6.1 f6.2.1 f6.2.2.1, f6.2.1.trans bv3, by rw [X6.warmed.alike.findClass, f6.1]; exact bf3, by rw [f6.2.2.1, bs3]; simp, fun j hj => by rw [f6.2.2.2 j, if_pos (by omega)]; rfl, kp3.put p6 (Nat.le_refl _)⟩, by rw [p6.2.2, bh3, hh0]; simp⟩, fun fs hl => c8.trans (X8.areturnOut hexec rfl hret rfl (hb hbytes d58) hl)⟩
end Cmp3
namespace CodL
def yN : MethodName := ⟨"java/lang/StringUTF16", "coderFromArrayLen", "([BI)B"⟩
abbrev yB : ByteArray := jdk_52_method_15_code
theorem d0 : decode yB 0 = .ok (.iload_n 1, 1) := by decide +kernel
theorem d1 : decode yB 1 = .ok (.aload_n 0, 1) := by decide +kernel
theorem d2 : decode yB 2 = .ok (.arraylength, 1) := by decide +kernel
theorem d3 : decode yB 3 = .ok (.isub, 1) := by decide +kernel
theorem d4 : decode yB 4 = .ok (.bipush 31, 2) := by decide +kernel
theorem d6 : decode yB 6 = .ok (.iushr, 1) := by decide +kernel
theorem d7 : decode yB 7 = .ok (.i2b, 1) := by decide +kernel
theorem d8 : decode yB 8 = .ok (.ireturn, 1) := by decide +kernel
def site : List Cond := []
def tab : Cond := tabOf yN yB 2 (some .byte) site
def P (d : Addr) (B : Cell) (args : Array Value) (s : State) : Prop := args = #[.ref d, .int (Int32.ofNat B.slots.size)] ∧ Arr .byte d B s
def E (r : Option Value) (s u : State) : Prop := XT.PureE (some (.int 0)) r s u
/-- an array as long as the number of chars: LATIN1 -/
theorem law (l : Launch) (d : Addr) (B : Cell) : Law l yN 2 2 0 0 yB 2 (some .byte) site (P d B) E [] 0 0 := by
  refine Law.of_walk (plainFor_of_name (by decide +kernel)) (by decide +kernel) (by decide +kernel) (by decide) (fun _ _ h => by rw [h.1]; rfl) (fun _ U U' hal hh h => ⟨h.1, h.2.mv hal hh⟩) (fun r U U' V V' h1 hal h2 h => XT.PureE.mv r U U' V V' h1 hal h2 h) ?_
  intro p e s m args below meth c s₁ X0 hexec hbytes hml hret hlk hnm hown hh0 W hP
  obtain ⟨rfl, hB⟩ := hP
  have hB0 := hB.mv X0.warmed.alike hh0
  have c1 : Steps p.tables e below (s₁.setTop (entryFrame m #[.ref d, .int (Int32.ofNat B.slots.size)] 2)) (s₁.setTop (mkF m 0 #[.val (.ref d), .val (.int (Int32.ofNat B.slots.size))] [])) := entry rfl
  have c2 : Steps p.tables e below (s₁.setTop (entryFrame m #[.ref d, .int (Int32.ofNat B.slots.size)] 2)) (s₁.setTop (mkF m 2 #[.val (.ref d), .val (.int (Int32.ofNat B.slots.size))] [.ref d, .int (Int32.ofNat B.slots.size)])) := c1.trans (by
    refine XS.iloadN X0.here hexec rfl (hb hbytes d0) rfl ?_
    refine XS.aloadN X0.here hexec rfl (hb hbytes d1) rfl rfl ?_
    exact Steps.refl _)
  have c3 : Steps p.tables e below (s₁.setTop (entryFrame m #[.ref d, .int (Int32.ofNat B.slots.size)] 2)) (s₁.setTop (mkF m 8 #[.val (.ref d), .val (.int (Int32.ofNat B.slots.size))] [.int (lo8 (ushr (Int32.ofNat B.slots.size - Int32.ofNat B.slots.size) 31))])) := c2.trans (by
    refine X0.alen hexec hB0 rfl rfl (hb hbytes d2) ?_
    refine XS.isub X0.here hexec rfl (hb hbytes d3) rfl ?_
    refine bipushV X0.here hexec rfl 31 (hb hbytes d4) (by decide) ?_
    refine iushr X0.here hexec rfl (hb hbytes d6) rfl ?_
    refine i2b X0.here hexec rfl (hb hbytes d7) rfl ?_
    exact Steps.refl _)
  have e0 : lo8 (ushr (Int32.ofNat B.slots.size - Int32.ofNat B.slots.size) 31) = 0 := by rw [Int32.sub_self]; decide
  rw [e0] at c3
  exact ⟨s₁, some (.int 0), _, _, _, X0, rfl, rfl, rfl, (fun h => by cases h), ⟨rfl, hh0⟩, fun fs hl => c3.trans (X0.ireturnOut hexec hret rfl (Or.inr (Or.inr (Or.inl rfl))) (hb hbytes d8) hl)⟩
end CodL
/-- the String at a is Latin-1 over a new byte[] (the heap's one new cell): the low bytes of the len chars of A from o on; every cell but a is kept -/
def Got (a : Addr) (D : Cell) (fV fC : Field) (A : Cell) (o len : Nat) (r : Option Value) (s u : State) : Prop := r = none ∧ ∃ D' V : Cell, Blank "java/lang/String" a D' u ∧ Same D D' [fV.slot, fC.slot] ∧ D'.slots[fV.slot]? = some (.ref s.heap.size) ∧ D'.slots[fC.slot]? = some (.int 0) ∧ Arr .byte s.heap.size V u ∧ V.vm = .none ∧ u.vm.findClass "[B" = some V.cls ∧ V.slots.size = len ∧ (∀ j, j < len → V.slots[j]? = some (.int (lo8 (cv A (o + j))))) ∧ (∀ (y : Addr) (c : Cell), y ≠ a → s.heap[y]? = some c → u.heap[y]? = some c) ∧ u.heap.size = s.heap.size + 1
theorem Got.mv {a : Addr} {D A : Cell} {fV fC : Field} {o len : Nat} : ∀ r (U U' V V' : State), U'.heap = U.heap → V.vm.Alike V'.vm → V'.heap = V.heap → Got a D fV fC A o len r U V → Got a D fV fC A o len r U' V' :=
  fun r U U' V V' h1 hal h2 ⟨e0, D', X, a1, a2, a3, a4, a5, a6, a7, a8, a9, a10, a11⟩ => ⟨e0, D', X, a1.mv hal h2, a2, by rw [h1]; exact a3, a4, by rw [h1]; exact a5.mv hal h2, a6, by rw [hal.findClass]; exact a7, a8, a9, by rw [h1, h2]; exact a10, by rw [h1, h2]; exact a11⟩
namespace New4
def yN : MethodName := ⟨"java/lang/String", "<init>", "([CIILjava/lang/Void;)V"⟩
abbrev yB : ByteArray := jdk_42_method_149_code
theorem d0 : decode yB 0 = .ok (.aload_n 0, 1) := by decide +kernel
theorem d1 : decode yB 1 = .ok (.invokespecial 1, 3) := by decide +kernel
theorem d4 : decode yB 4 = .ok (.iload_n 3, 1) := by decide +kernel
theorem d5 : decode yB 5 = .ok (.ifCond (.ne) 22, 3) := by decide +kernel
theorem d27 : decode yB 27 = .ok (.getstatic 38, 3) := by decide +kernel
theorem d30 : decode yB 30 = .ok (.ifCond (.eq) 28, 3) := by decide +kernel
theorem d33 : decode yB 33 = .ok (.aload_n 1, 1) := by decide +kernel
theorem d34 : decode yB 34 = .ok (.iload_n 2, 1) := by decide +kernel
theorem d35 : decode yB 35 = .ok (.iload_n 3, 1) := by decide +kernel
theorem d36 : decode yB 36 = .ok (.invokestatic 177, 3) := by decide +kernel
theorem d39 : decode yB 39 = .ok (.astore 5, 2) := by decide +kernel
theorem d41 : decode yB 41 = .ok (.aload_n 0, 1) := by decide +kernel
theorem d42 : decode yB 42 = .ok (.aload 5, 2) := by decide +kernel
theorem d44 : decode yB 44 = .ok (.iload_n 3, 1) := by decide +kernel
theorem d45 : decode yB 45 = .ok (.invokestatic 47, 3) := by decide +kernel
theorem d48 : decode yB 48 = .ok (.putfield 15, 3) := by decide +kernel
theorem d51 : decode yB 51 = .ok (.aload_n 0, 1) := by decide +kernel
theorem d52 : decode yB 52 = .ok (.aload 5, 2) := by decide +kernel
theorem d54 : decode yB 54 = .ok (.putfield 9, 3) := by decide +kernel
theorem d57 : decode yB 57 = .ok (.return_, 1) := by decide +kernel
def site : List Cond := [.fieldLink "java/lang/String" 38 "java/lang/String" "COMPACT_STRINGS" "Z", Cmp3.tab, CodL.tab, .laysFinal "java/lang/String" "java/lang/String" "value" "[B", .fieldLink "java/lang/String" 9 "java/lang/String" "value" "[B", .laysFinal "java/lang/String" "java/lang/String" "coder" "B", .fieldLink "java/lang/String" 15 "java/lang/String" "coder" "B"] ++ objW "java/lang/String" 1 ++ staticW "java/lang/String" 177 Cmp3.yN ++ staticW "java/lang/String" 47 CodL.yN
def tab : Cond := tabOf yN yB 6 none site
def P (a : Addr) (D : Cell) (fV fC : Field) (b : Addr) (A : Cell) (z : Int32) (o len : Nat) (args : Array Value) (s : State) : Prop := args = #[.ref a, .ref b, .int (Int32.ofNat o), .int (Int32.ofNat len), .null] ∧ Blank "java/lang/String" a D s ∧ Found "java/lang/String" "value" "[B" fV s ∧ Found "java/lang/String" "coder" "B" fC s ∧ Ch b A s ∧ StaticIs s "java/lang/String" "COMPACT_STRINGS" "Z" (.int z) ∧ ¬ z = 0 ∧ 0 < len ∧ o + len ≤ A.slots.size ∧ len ≤ 536870912 ∧ ∀ i, i < len → ¬ 255 < cv A (o + i)
def E (a : Addr) (D : Cell) (fV fC : Field) (A : Cell) (o len : Nat) (r : Option Value) (s u : State) : Prop := Got a D fV fC A o len r s u
/-- len > 0, no char of the range above 255: a Latin-1 String of their low bytes -/
theorem law (l : Launch) (a : Addr) (D : Cell) (fV fC : Field) (b : Addr) (A : Cell) (z : Int32) (o len : Nat) : Law l yN 5 4 2 35 yB 6 none site (P a D fV fC b A z o len) (E a D fV fC A o len) [⟨a, fC.slot⟩, ⟨a, fV.slot⟩] 1 len := by
  refine Law.of_walk (plainFor_of_name (by decide +kernel)) (by decide +kernel) (by decide +kernel) (by decide) (fun _ _ h => by rw [h.1]; rfl) (fun _ U U' hal hh h => ⟨h.1, h.2.1.mv hal hh, h.2.2.1.al hal, h.2.2.2.1.al hal, h.2.2.2.2.1.mv hal hh, h.2.2.2.2.2.1.there hal hh, h.2.2.2.2.2.2⟩) (fun r U U' V V' h1 hal h2 h => Got.mv r U U' V V' h1 hal h2 h) ?_
  intro p e s m args below meth c s₁ X0 hexec hbytes hml hret hlk hnm hown hh0 W hP
  obtain ⟨rfl, hB, f1, f2, hA, s1, hz, l0, l1, l2, hp⟩ := hP
  have a31 := hA.1.2.2.2
  have c1 : Steps p.tables e below (s₁.setTop (entryFrame m #[.ref a, .ref b, .int (Int32.ofNat o), .int (Int32.ofNat len), .null] 6)) (s₁.setTop (mkF m 0 #[.val (.ref a), .val (.ref b), .val (.int (Int32.ofNat o)), .val (.int (Int32.ofNat len)), .val .null, .unset] [])) := entry rfl
  have c2 : Steps p.tables e below (s₁.setTop (entryFrame m #[.ref a, .ref b, .int (Int32.ofNat o), .int (Int32.ofNat len), .null] 6)) (s₁.setTop (mkF m 1 #[.val (.ref a), .val (.ref b), .val (.int (Int32.ofNat o)), .val (.int (Int32.ofNat len)), .val .null, .unset] [.ref a])) := c1.trans (by
    refine XS.aloadN X0.here hexec rfl (hb hbytes d0) rfl rfl ?_
    exact Steps.refl _)
  obtain ⟨T3, X3, q3, st3⟩ := X0.oinit hexec hown (wks W (objW "java/lang/String" 1)) (g := (mkF m 1 #[.val (.ref a), .val (.ref b), .val (.int (Int32.ofNat o)), .val (.int (Int32.ofNat len)), .val .null, .unset] [.ref a])) rfl (by rw [hml]; rfl) (rest := []) rfl (hb hbytes d1) (W := 0) (by show 2 * 0 + 0 ≤ _; decide) (Nat.le_of_ble_eq_true rfl) (Nat.le_of_ble_eq_true rfl)
  have hh3 := q3.trans hh0
  have c4 : Steps p.tables e below (s₁.setTop (entryFrame m #[.ref a, .ref b, .int (Int32.ofNat o), .int (Int32.ofNat len), .null] 6)) (T3.setTop (mkF m 27 #[.val (.ref a), .val (.ref b), .val (.int (Int32.ofNat o)), .val (.int (Int32.ofNat len)), .val .null, .unset] [])) := (c2.trans (st3 _ (Steps.refl _))).trans (by
    refine XS.iloadN X3.here hexec rfl (hb hbytes d4) rfl ?_
    refine XS.ifYes X3.here hexec rfl (pc0 := 5) rfl (hb hbytes d5) rfl (i0_ne_t (nz32 (by omega) l0)) (by decide) rfl ?_
    exact Steps.refl _)
  obtain ⟨T5, X5, q5, st5⟩ := X3.sget hexec hown (wk W (.fieldLink "java/lang/String" 38 "java/lang/String" "COMPACT_STRINGS" "Z")) s1 (fun _ _ h => by rw [hh3]; exact h) (g := (mkF m 27 #[.val (.ref a), .val (.ref b), .val (.int (Int32.ofNat o)), .val (.int (Int32.ofNat len)), .val .null, .unset] [])) rfl (hb hbytes d27)
  have hh5 := q5.trans hh3
  have c6 : Steps p.tables e below (s₁.setTop (entryFrame m #[.ref a, .ref b, .int (Int32.ofNat o), .int (Int32.ofNat len), .null] 6)) (T5.setTop (mkF m 30 #[.val (.ref a), .val (.ref b), .val (.int (Int32.ofNat o)), .val (.int (Int32.ofNat len)), .val .null, .unset] [.int z])) := c4.trans (st5 _ (Steps.refl _))
  have c7 : Steps p.tables e below (s₁.setTop (entryFrame m #[.ref a, .ref b, .int (Int32.ofNat o), .int (Int32.ofNat len), .null] 6)) (T5.setTop (mkF m 36 #[.val (.ref a), .val (.ref b), .val (.int (Int32.ofNat o)), .val (.int (Int32.ofNat len)), .val .null, .unset] [.int (Int32.ofNat len), .int (Int32.ofNat o), .ref b])) := c6.trans (by
    refine XS.ifNo X5.here hexec rfl (hb hbytes d30) rfl (i0_eq_f hz) ?_
    refine XS.aloadN X5.here hexec rfl (hb hbytes d33) rfl rfl ?_
    refine XS.iloadN X5.here hexec rfl (hb hbytes d34) rfl ?_
    refine XS.iloadN X5.here hexec rfl (hb hbytes d35) rfl ?_
    exact Steps.refl _)
  obtain ⟨v8, T8, X8, E8, g8⟩ := X5.callS hexec (Cmp3.law l b A o len) hown (wks W (staticW "java/lang/String" 177 Cmp3.yN)) (wk W Cmp3.tab) (W := 0) (Nat.le_of_ble_eq_true rfl) (Nat.le_of_ble_eq_true rfl) (Nat.le_refl _) (by show 0 + len ≤ len; omega) (g := (mkF m 36 #[.val (.ref a), .val (.ref b), .val (.int (Int32.ofNat o)), .val (.int (Int32.ofNat len)), .val .null, .unset] [.int (Int32.ofNat len), .int (Int32.ofNat o), .ref b])) rfl (by rw [hml]; rfl) c7 (argsL := [.ref b, .int (Int32.ofNat o), .int (Int32.ofNat len)]) (rest := []) rfl rfl (by show 2 * 0 + 0 ≤ _; decide) (hb hbytes d36) (⟨rfl, hA.mv X5.warmed.alike hh5, l1, l2, hp⟩)
  obtain ⟨e8, z8⟩ := E8
  obtain ⟨rfl, N, n1, n2, n3, n4, n5, n6⟩ := NewArr.mv _ T5 s _ _ hh5.symm (Vm.Alike.refl _) rfl e8
  rw [hh5] at z8
  have hB1 := hB.keep X8.warmed.alike (n6 _ _ hB.1)
  have hne : s.heap.size ≠ a := (Nat.ne_of_lt (Array.getElem?_eq_some_iff.mp hB.1).1).symm
  have c9 : Steps p.tables e below (s₁.setTop (entryFrame m #[.ref a, .ref b, .int (Int32.ofNat o), .int (Int32.ofNat len), .null] 6)) (T8.setTop (mkF m 39 #[.val (.ref a), .val (.ref b), .val (.int (Int32.ofNat o)), .val (.int (Int32.ofNat len)), .val .null, .unset] [.ref s.heap.size])) := g8
  have c10 : Steps p.tables e below (s₁.setTop (entryFrame m #[.ref a, .ref b, .int (Int32.ofNat o), .int (Int32.ofNat len), .null] 6)) (T8.setTop (mkF m 45 #[.val (.ref a), .val (.ref b), .val (.int (Int32.ofNat o)), .val (.int (Int32.ofNat len)), .val .null, .val (.ref s.heap.size)] [.int (Int32.ofNat N.slots.size), .ref s.heap.size, .ref a])) := by
    have hc : Steps p.tables e below (s₁.setTop (entryFrame m #[.ref a, .ref b, .int (Int32.ofNat o), .int (Int32.ofNat len), .null] 6)) (T8.setTop (mkF m 45 #[.val (.ref a), .val (.ref b), .val (.int (Int32.ofNat o)), .val (.int (Int32.ofNat len)), .val .null, .val (.ref s.heap.size)] [.int (Int32.ofNat len), .ref s.heap.size, .ref a])) := c9.trans (by
      refine XS.astore X8.here hexec rfl (hb hbytes d39) rfl rfl rfl ?_
      refine XS.aloadN X8.here hexec rfl (hb hbytes d41) rfl rfl ?_
      refine XS.aload X8.here hexec rfl (hb hbytes d42) rfl rfl ?_
      refine XS.iloadN X8.here hexec rfl (hb hbytes d44) rfl ?_
      exact Steps.refl _)
    rw [n4]; exact hc
  obtain ⟨v11, T11, X11, E11, g11⟩ := X8.callS hexec (CodL.law l s.heap.size N) hown (wks W (staticW "java/lang/String" 47 CodL.yN)) (wk W CodL.tab) (W := 1) (Nat.le_of_ble_eq_true rfl) (Nat.le_of_ble_eq_true rfl) (Nat.le_refl _) (by show 0 + len + 0 ≤ len; omega) (g := (mkF m 45 #[.val (.ref a), .val (.ref b), .val (.int (Int32.ofNat o)), .val (.int (Int32.ofNat len)), .val .null, .val (.ref s.heap.size)] [.int (Int32.ofNat N.slots.size), .ref s.heap.size, .ref a])) rfl (by rw [hml]; rfl) c10 (argsL := [.ref s.heap.size, .int (Int32.ofNat N.slots.size)]) (rest := [.ref a]) rfl rfl (by show 2 * 0 + (1 + 0) ≤ _; decide) (hb hbytes d45) (⟨rfl, n1⟩)
  obtain ⟨rfl, q11⟩ := E11
  have hB11 := hB1.mv (X8.warmed.alike.symm.trans X11.warmed.alike) q11
  have c12 : Steps p.tables e below (s₁.setTop (entryFrame m #[.ref a, .ref b, .int (Int32.ofNat o), .int (Int32.ofNat len), .null] 6)) (T11.setTop (mkF m 48 #[.val (.ref a), .val (.ref b), .val (.int (Int32.ofNat o)), .val (.int (Int32.ofNat len)), .val .null, .val (.ref s.heap.size)] [.int 0, .ref a])) := g11
  obtain ⟨T13, X13, p13, bl13, sl13, st13⟩ := X11.finit hexec hown (wk W (.fieldLink "java/lang/String" 15 "java/lang/String" "coder" "B")) (Or.inr ⟨_, (wk W (.laysFinal "java/lang/String" "java/lang/String" "coder" "B"))⟩) (Or.inl ⟨rfl, hnm⟩) f2 (Or.inl rfl) hB11 (t := .byte) (by decide +kernel) rfl (g := (mkF m 48 #[.val (.ref a), .val (.ref b), .val (.int (Int32.ofNat o)), .val (.int (Int32.ofNat len)), .val .null, .val (.ref s.heap.size)] [.int 0, .ref a])) rfl (rest := []) rfl (hb hbytes d48)
  have c14 : Steps p.tables e below (s₁.setTop (entryFrame m #[.ref a, .ref b, .int (Int32.ofNat o), .int (Int32.ofNat len), .null] 6)) (T13.setTop (mkF m 54 #[.val (.ref a), .val (.ref b), .val (.int (Int32.ofNat o)), .val (.int (Int32.ofNat len)), .val .null, .val (.ref s.heap.size)] [.ref s.heap.size, .ref a])) := (c12.trans (st13 _ (Steps.refl _))).trans (by
    refine XS.aloadN X13.here hexec rfl (hb hbytes d51) rfl rfl ?_
    refine XS.aload X13.here hexec rfl (hb hbytes d52) rfl rfl ?_
    exact Steps.refl _)
  obtain ⟨T15, X15, p15, bl15, sl15, st15⟩ := X13.finit hexec hown (wk W (.fieldLink "java/lang/String" 9 "java/lang/String" "value" "[B")) (Or.inr ⟨_, (wk W (.laysFinal "java/lang/String" "java/lang/String" "value" "[B"))⟩) (Or.inl ⟨rfl, hnm⟩) f1 (Or.inl rfl) bl13 (t := (.array .byte)) (by decide +kernel) rfl (g := (mkF m 54 #[.val (.ref a), .val (.ref b), .val (.int (Int32.ofNat o)), .val (.int (Int32.ofNat len)), .val .null, .val (.ref s.heap.size)] [.ref s.heap.size, .ref a])) rfl (rest := []) rfl (hb hbytes d54)
  have c16 : Steps p.tables e below (s₁.setTop (entryFrame m #[.ref a, .ref b, .int (Int32.ofNat o), .int (Int32.ofNat len), .null] 6)) (T15.setTop (mkF m 57 #[.val (.ref a), .val (.ref b), .val (.int (Int32.ofNat o)), .val (.int (Int32.ofNat len)), .val .null, .val (.ref s.heap.size)] [])) := c14.trans (st15 _ (Steps.refl _))
  have ap := apart (Or.inr ⟨_, (wk W (.laysFinal "java/lang/String" "java/lang/String" "value" "[B"))⟩) (Or.inr ⟨_, (wk W (.laysFinal "java/lang/String" "java/lang/String" "coder" "B"))⟩) f1 f2 (t₁ := .array .byte) (t₂ := .byte) (by decide +kernel) (by decide +kernel) (by decide)
  have al := X8.warmed.alike.symm.trans X15.warmed.alike
  have n7 : T11.heap[s.heap.size]? = some N := by rw [q11]; exact n1.1
  exact ⟨T15, none, _, _, _, X15, by simp, rfl, by omega, (fun _ => rfl), ⟨rfl, _, N, bl15, ((Same.refl D _).set _ (by simp)).set _ (by simp), sl15, (Cell.slots_setSlot_ne _ ap).trans sl13, n1.keep al (p15.other hne (p13.other hne n7)), n2, by rw [al.findClass]; exact n3, n4, n5, fun y c h1 h2 => p15.other h1 (p13.other h1 (by rw [q11]; exact n6 y c h2)), by rw [p15.2.2, p13.2.2, q11]; exact z8⟩, fun fs hl => c16.trans (X15.returnOut hexec hret (hb hbytes d57) hl)⟩
end New4
namespace New1
def yN : MethodName := ⟨"java/lang/String", "<init>", "([C)V"⟩
abbrev yB : ByteArray := jdk_42_method_3_code
theorem d0 : decode yB 0 = .ok (.aload_n 0, 1) := by decide +kernel
theorem d1 : decode yB 1 = .ok (.aload_n 1, 1) := by decide +kernel
theorem d2 : decode yB 2 = .ok (.iconst 0, 1) := by decide +kernel
theorem d3 : decode yB 3 = .ok (.aload_n 1, 1) := by decide +kernel
theorem d4 : decode yB 4 = .ok (.arraylength, 1) := by decide +kernel
theorem d5 : decode yB 5 = .ok (.aconst_null, 1) := by decide +kernel
theorem d6 : decode yB 6 = .ok (.invokespecial 27, 3) := by decide +kernel
theorem d9 : decode yB 9 = .ok (.return_, 1) := by decide +kernel
def site : List Cond := [New4.tab] ++ initW "java/lang/String" 27 New4.yN
def tab : Cond := tabOf yN yB 2 none site
def P (a : Addr) (D : Cell) (fV fC : Field) (b : Addr) (A : Cell) (z : Int32) (args : Array Value) (s : State) : Prop := args = #[.ref a, .ref b] ∧ Blank "java/lang/String" a D s ∧ Found "java/lang/String" "value" "[B" fV s ∧ Found "java/lang/String" "coder" "B" fC s ∧ Ch b A s ∧ StaticIs s "java/lang/String" "COMPACT_STRINGS" "Z" (.int z) ∧ ¬ z = 0 ∧ 0 < A.slots.size ∧ A.slots.size ≤ 536870912 ∧ ∀ i, i < A.slots.size → ¬ 255 < cv A i
def E (a : Addr) (D : Cell) (fV fC : Field) (A : Cell) (r : Option Value) (s u : State) : Prop := Got a D fV fC A 0 A.slots.size r s u
/-- new String(chars), not empty, no char above 255: a Latin-1 String of their low bytes -/
theorem law (l : Launch) (a : Addr) (D : Cell) (fV fC : Field) (b : Addr) (A : Cell) (z : Int32) : Law l yN 2 1 3 52 yB 2 none site (P a D fV fC b A z) (E a D fV fC A) [⟨a, fC.slot⟩, ⟨a, fV.slot⟩] 1 A.slots.size := by
  refine Law.of_walk (plainFor_of_name (by decide +kernel)) (by decide +kernel) (by decide +kernel) (by decide) (fun _ _ h => by rw [h.1]; rfl) (fun _ U U' hal hh h => ⟨h.1, h.2.1.mv hal hh, h.2.2.1.al hal, h.2.2.2.1.al hal, h.2.2.2.2.1.mv hal hh, h.2.2.2.2.2.1.there hal hh, h.2.2.2.2.2.2⟩) (fun r U U' V V' h1 hal h2 h => Got.mv r U U' V V' h1 hal h2 h) ?_
  intro p e s m args below meth c s₁ X0 hexec hbytes hml hret hlk hnm hown hh0 W hP
  obtain ⟨rfl, hB, f1, f2, hA, s1, hz, l0, l2, hp⟩ := hP
  have c1 : Steps p.tables e below (s₁.setTop (entryFrame m #[.ref a, .ref b] 2)) (s₁.setTop (mkF m 0 #[.val (.ref a), .val (.ref b)] [])) := entry rfl
  have c2 : Steps p.tables e below (s₁.setTop (entryFrame m #[.ref a, .ref b] 2)) (s₁.setTop (mkF m 6 #[.val (.ref a), .val (.ref b)] [.null, .int (Int32.ofNat A.slots.size), .int 0, .ref b, .ref a])) := c1.trans (by
    refine XS.aloadN X0.here hexec rfl (hb hbytes d0) rfl rfl ?_
    refine XS.aloadN X0.here hexec rfl (hb hbytes d1) rfl rfl ?_
    refine iconstV X0.here hexec rfl 0 (hb hbytes d2) (by decide) ?_
    refine XS.aloadN X0.here hexec rfl (hb hbytes d3) rfl rfl ?_
    refine X0.alen hexec (hA.1.mv X0.warmed.alike hh0) rfl rfl (hb hbytes d4) ?_
    refine XS.aconstNull X0.here hexec rfl (hb hbytes d5) ?_
    exact Steps.refl _)
  obtain ⟨v3, T3, X3, E3, g3⟩ := X0.callN hexec (New4.law l a D fV fC b A z 0 A.slots.size) rfl hown (wks W (initW "java/lang/String" 27 New4.yN)) (W New4.tab (by simp only [site, List.mem_cons, List.mem_append, true_or, or_true])) (W := 0) (Nat.le_of_ble_eq_true rfl) (Nat.le_of_ble_eq_true rfl) (Nat.le_refl _) (by show 0 + A.slots.size ≤ A.slots.size; omega) (g := (mkF m 6 #[.val (.ref a), .val (.ref b)] [.null, .int (Int32.ofNat A.slots.size), .int (Int32.ofNat 0), .ref b, .ref a])) rfl (by rw [hml]; rfl) c2 (argsL := [.ref b, .int (Int32.ofNat 0), .int (Int32.ofNat A.slots.size), .null]) (rest := []) rfl rfl (by show 2 * 0 + 0 ≤ _; decide) (hb hbytes d6) (⟨rfl, hB.mv X0.warmed.alike hh0, f1.al X0.warmed.alike, f2.al X0.warmed.alike, hA.mv X0.warmed.alike hh0, s1.there X0.warmed.alike hh0, hz, l0, by omega, l2, fun i hi => by rw [Nat.zero_add]; exact hp i hi⟩)
  have e0 := Got.mv _ s₁ s _ _ hh0.symm (Vm.Alike.refl _) rfl E3
  obtain rfl := e0.1
  have c4 : Steps p.tables e below (s₁.setTop (entryFrame m #[.ref a, .ref b] 2)) (T3.setTop (mkF m 9 #[.val (.ref a), .val (.ref b)] [])) := g3
  exact ⟨T3, none, _, _, _, X3, by simp, rfl, by omega, (fun _ => rfl), e0, fun fs hl => c4.trans (X3.returnOut hexec hret (hb hbytes d9) hl)⟩
theorem pays {l : Launch} {R : Room} {p : Program} {e : Env} {below : List Frame} {s : State} {sargs : Array Value} {len W : Nat} (a : Addr) (D : Cell) (fV fC : Field) (b : Addr) (A : Cell) (z : Int32) (htab : tab.before sargs s = true) (hfr : 4 ≤ R.frames) (hlo : W + 65 ≤ R.locals) :
    Back l R p e below s sargs yN len W (fun A₁ a₁ => A₁.cells + 1 ≤ R.cells ∧ A₁.slots + A.slots.size ≤ R.slots ∧ P a D fV fC b A z a₁ A₁.U) (fun A₁ _ v₁ B₁ => E a D fV fC A v₁ A₁.U B₁.U ∧ B₁.locs = A₁.locs ++ [⟨a, fC.slot⟩, ⟨a, fV.slot⟩] ∧ B₁.cells = A₁.cells + 1 ∧ B₁.slots = A₁.slots + A.slots.size) :=
  (law l a D fV fC b A z).pays htab hfr (by omega)
end New1
/-- the byte, read back as charAt reads it, is the char -/
theorem lo8_mask {x : Int32} (h0 : ¬ x < 0) (h1 : ¬ 255 < x) : lo8 x &&& 255 = x := by
  have t : ∀ k : Fin 256, lo8 (Int32.ofNat k.val) &&& 255 = Int32.ofNat k.val := by decide +kernel
  rw [Int32.lt_iff_toInt_lt] at h0 h1
  have e0 : (0 : Int32).toInt = 0 := rfl
  have e1 : (255 : Int32).toInt = 255 := rfl
  obtain ⟨k, hk⟩ : ∃ k : Nat, x.toInt = k := ⟨x.toInt.toNat, by omega⟩
  have hx : x = Int32.ofNat k := Int32.toInt_inj.mp (by rw [hk, Int32.toInt_ofNat_small (by omega)])
  rw [hx]
  exact t ⟨k, by omega⟩
end StrChars
namespace StrChars.Road
open Jvm Sem ClassFile Op Lib Jvm.Stand Jvm.Free Jvm.Free.XT
open Jvm.Lib.Cold (StaticIs)
abbrev ST : String := "java/lang/String"
/-- every table word that New1's law asks, flat -/
abbrev words : List Jvm.Cond := [.code New1.yN New1.yB 2 none, .initialized ST, .methodLink ST 27 New4.yN, .instanceMethod New4.yN,
  .code New4.yN New4.yB 6 none, .fieldLink ST 38 ST "COMPACT_STRINGS" "Z", .laysFinal ST ST "value" "[B", .fieldLink ST 9 ST "value" "[B", .laysFinal ST ST "coder" "B", .fieldLink ST 15 ST "coder" "B",
  .methodLink ST 1 Lib.objectInit, .instanceMethod Lib.objectInit, .code Lib.objectInit ⟨#[0xb1]⟩ 1 none, .methodLink ST 177 Cmp3.yN, .static Cmp3.yN, .methodLink ST 47 CodL.yN, .static CodL.yN,
  .code Cmp3.yN Cmp3.yB 6 (some (.array .byte)), .initialized U16, .arrayClass .byte, .methodLink U16 115 Cmp5.yN, .static Cmp5.yN, .code Cmp5.yN Cmp5.yB 7 (some .int), .code CodL.yN CodL.yB 2 (some .byte)]
theorem tab_of {a : Array Value} {s : State} (h : ∀ w ∈ words, w.before a s = true) : New1.tab.before a s = true := by
  have h5 : Cmp5.tab.before a s = true := unparts (wk h (.code Cmp5.yN Cmp5.yB 7 (some .int))) (wks h (.initialized Cmp5.yN.cls :: Cmp5.site))
  have hc : CodL.tab.before a s = true := unparts (wk h (.code CodL.yN CodL.yB 2 (some .byte))) (wks h (.initialized CodL.yN.cls :: CodL.site))
  have q5 : ∀ w ∈ Cmp5.tab :: words, w.before a s = true := fun w hw => (List.mem_cons.mp hw).elim (fun e => e ▸ h5) (h w)
  have h3 : Cmp3.tab.before a s = true := unparts (wk q5 (.code Cmp3.yN Cmp3.yB 6 (some (.array .byte)))) (wks q5 (.initialized Cmp3.yN.cls :: Cmp3.site))
  have q3 : ∀ w ∈ Cmp3.tab :: CodL.tab :: words, w.before a s = true := fun w hw => (List.mem_cons.mp hw).elim (fun e => e ▸ h3) fun hw => (List.mem_cons.mp hw).elim (fun e => e ▸ hc) (h w)
  have h4 : New4.tab.before a s = true := unparts (wk q3 (.code New4.yN New4.yB 6 none)) (wks q3 (.initialized New4.yN.cls :: New4.site))
  have q4 : ∀ w ∈ New4.tab :: words, w.before a s = true := fun w hw => (List.mem_cons.mp hw).elim (fun e => e ▸ h4) (h w)
  exact unparts (wk q4 (.code New1.yN New1.yB 2 none)) (wks q4 (.initialized New1.yN.cls :: New1.site))
/-- the words ride from the start Z to the walk's own state -/
theorem moved {Z s : State} {a0 args : Array Value} (hZ : Z.Warmed39 s.vm) (hw : ∀ d ∈ words, d.before a0 Z = true) : ∀ d ∈ words, d.before args s = true := fun d hd => by
  have q := hw d hd
  have t : ∀ d ∈ words, d = .arrayClass .byte ∨ (d.onTables && d.keepsFace) = true := by decide +kernel
  rcases t d hd with rfl | t
  · exact RoadKit.mvA hZ q
  · exact RoadKit.mv hZ q t
/-- WHAT COMES BACK, over the tables of the start Z: h the heap at the call, h' behind it -/
def Q (Z : State) (x : Addr) (A : Cell) (h : Heap) (v : Option Value) (h' : Heap) (L : List Loc) : Prop := v = none ∧ (∀ y ∈ L, y.base = x) ∧ RoadKit.Keep h h' [x] ∧ h'.size = h.size + 1 ∧ RoadKit.Exa Z h' x ST ∧ RoadKit.Fld Z h' x ST "value" "[B" (.ref h.size) ∧ RoadKit.Fld Z h' x ST "coder" "B" (.int 0) ∧
  (∃ V : Cell, RoadKit.Arr Z h' h.size V .byte ∧ V.vm = .none ∧ Z.vm.findClass "[B" = some V.cls ∧ V.slots.size = A.slots.size ∧ ∀ j, j < A.slots.size → V.slots[j]? = some (.int (lo8 (cv A j)))) ∧
  ∀ (O n d : String) (w : Value), RoadKit.Fld Z h x O n d w → RoadKit.slotOf Z O n d ≠ RoadKit.slotOf Z ST "value" "[B" → RoadKit.slotOf Z O n d ≠ RoadKit.slotOf Z ST "coder" "B" → RoadKit.Fld Z h' x O n d w
/-- **new String(chars) AT A CALL, IN THE ROAD'S FORM**: for specialBack behind newO: x the fresh String, b the char[] with the cell A -/
theorem back {p : Program} {l : Launch} {e : Env} {R : Room} {s : State} {args : Array Value} {below : List Frame} {len W : Nat} {Z : State} {a0 : Array Value} {h : Heap} (hZ : Z.Warmed39 s.vm) (hw : ∀ d ∈ words, d.before a0 Z = true) {kI : Nat} (wi : (Jvm.Cond.instantiable ST kI).before a0 Z = true)
    {x b : Addr} {A : Cell} {z : Int32} {v0 c0 : Value} (E : RoadKit.Exa Z h x ST) (V : RoadKit.Fld Z h x ST "value" "[B" v0) (C : RoadKit.Fld Z h x ST "coder" "B" c0) (K : RoadKit.Arr Z h b A .char) (hty : Typed .char A) (S : RoadKit.Sta Z h ST "COMPACT_STRINGS" "Z" (.int z)) (hz : ¬ z = 0)
    (l0 : 0 < A.slots.size) (l2 : A.slots.size ≤ 536870912) (hp : ∀ i, i < A.slots.size → ¬ 255 < cv A i) (hfr : 4 ≤ R.frames) (hlo : W + 65 ≤ R.locals) :
    Back l R p e below s args New1.yN len W (fun P a => a = #[.ref x, .ref b] ∧ P.U.heap = h ∧ P.cells + 1 ≤ R.cells ∧ P.slots + A.slots.size ≤ R.slots)
      (fun P _ v B => ∃ L, Q Z x A h v B.U.heap L ∧ B.locs = P.locs ++ L ∧ B.cells = P.cells + 1 ∧ B.slots = P.slots + A.slots.size) := by
  intro m meth c P g ig mk a X hg hsize hdg hW hn hp'
  obtain ⟨rfl, rfl, r1, r2⟩ := hp'
  have al : Z.vm.Alike P.U.vm := hZ.alike.trans X.warmed.alike
  obtain ⟨D, cfV, kV, iV, fV, hD, gV, stV, knV, obV, asV, slV⟩ := id V
  obtain ⟨D', cfC, kC, iC, fC, hD', gC, stC, -, -, asC, slC⟩ := id C
  cases hD.symm.trans hD'
  obtain ⟨D2, kD, e1, e2, e3, e4, e5⟩ := id E
  cases hD.symm.trans e1
  obtain ⟨c2, k2, i1, i2, i3, -⟩ := Cond.instantiable_spec wi
  cases e2.symm.trans i1
  cases e3.symm.trans i2
  obtain ⟨kU, u1, u2⟩ := al.2.2 _ _ e3
  have hB : Blank ST x D P.U := ⟨hD, ⟨knV, fun q hq => by rw [hq] at obV; cases obV⟩, by rw [al.findClass]; exact e2, kU, u1, by rw [u2]; exact i3, by rw [u2]; exact e5 i3⟩
  have F1 : Found ST "value" "[B" fV P.U := ⟨SBG.found_only al ⟨cfV, kV, iV, gV⟩, stV⟩
  have F2 : Found ST "coder" "B" fC P.U := ⟨SBG.found_only al ⟨cfC, kC, iC, gC⟩, stC⟩
  have hA : Ch b A P.U := ⟨⟨K.1, State.isArrayOf_alike al K.2.1, K.2.2, by omega⟩, hty⟩
  have hS : StaticIs P.U ST "COMPACT_STRINGS" "Z" (.int z) := by
    obtain ⟨cfS, iS, kS, fS, st, cS, t1, t2, t3, t4, t5, t6, t7⟩ := S
    exact StaticIs.there (s := { Z with heap := P.U.heap }) ⟨cfS, iS, kS, fS, st, cS, t1, t2, t3, t4, t5, (fun q => by rw [q] at t6; cases t6), t7⟩ al rfl
  obtain ⟨v, B, X', ⟨⟨hv, E', V', q1, q2, q3, q4, q5, q6, q7, q8, q9, q10, q11⟩, hl, hc, hs⟩, st⟩ := New1.pays x D fV fC b A z (tab_of (moved hZ hw)) hfr hlo m meth c P g ig mk _ X hg hsize hdg hW hn ⟨r1, r2, rfl, hB, F1, F2, hA, hS, hz, l0, l2, hp⟩
  have al' : Z.vm.Alike B.U.vm := hZ.alike.trans X'.warmed.alike
  have hsz : E'.slots.size = D.slots.size := by
    obtain ⟨-, -, -, kB, w1, w2, w3⟩ := q1
    obtain ⟨kB', y1, y2⟩ := al'.2.2 _ _ e3
    rw [q2.2.1] at w1
    cases w1.symm.trans y1
    rw [w3, e5 i3, y2]
  refine ⟨v, B, X', ⟨_, ⟨hv, ?_, ⟨by omega, fun y cy hy hn' => q10 y cy (by simpa using hn') hy, fun y cy hy => ?_⟩, q11, ⟨E', _, q1.1, by rw [q2.2.1]; exact e2, by rw [q2.2.1]; exact e3, by rw [q2.1]; exact obV, fun _ => by rw [hsz]; exact e5 i3⟩,
    ⟨E', cfV, kV, iV, fV, q1.1, gV, stV, by rw [q2.1]; exact knV, by rw [q2.1]; exact obV, by rw [q2.2.1]; exact asV, q3⟩, ⟨E', cfC, kC, iC, fC, q1.1, gC, stC, by rw [q2.1]; exact knV, by rw [q2.1]; exact obV, by rw [q2.2.1]; exact asC, q4⟩,
    ⟨V', ⟨q5.1, State.isArrayOf_alike al'.symm q5.2.1, q5.2.2.1⟩, q6, by rw [← al'.findClass]; exact q7, q8, fun j hj => by have := q9 j hj; rwa [Nat.zero_add] at this⟩, fun O n d w F n1 n2 => ?_⟩, hl, hc, hs⟩, st⟩
  · intro y hy
    simp only [List.mem_cons, List.not_mem_nil, or_false] at hy
    rcases hy with rfl | rfl <;> rfl
  · by_cases q : y = x
    · subst q
      cases hD.symm.trans hy
      exact ⟨E', q1.1, q2.2.1, q2.1, hsz⟩
    · exact ⟨cy, q10 y cy q hy, rfl, rfl, rfl⟩
  · obtain ⟨D3, cf, k, i, f, g1, g2, g3, g4, g5, g6, g7⟩ := F
    cases hD.symm.trans g1
    simp only [RoadKit.slotOf, g2, gV, gC, Option.map_some, Option.getD_some] at n1 n2
    exact ⟨E', cf, k, i, f, q1.1, g2, g3, by rw [q2.1]; exact g4, by rw [q2.1]; exact g5, by rw [q2.2.1]; exact g6, by rw [q2.2.2 f.slot (by simp [n1, n2])]; exact g7⟩
end StrChars.Road
namespace StrChars.Road
open Jvm Sem ClassFile Op Lib Jvm.Stand Jvm.Free Jvm.Free.XT
/-- WHAT COMES BACK, the byte[] as a list of values -/
def QA (Z : State) (x : Addr) (zn : Int32) (cs : List Int32) (h : Heap) (v : Option Value) (h' : Heap) (L : List Loc) : Prop := v = none ∧ (∀ y ∈ L, y.base = x) ∧ RoadKit.Keep h h' [x] ∧ h'.size = h.size + 1 ∧ RoadKit.Exa Z h' x ST ∧ RoadKit.Fld Z h' x ST "value" "[B" (.ref h.size) ∧ RoadKit.Fld Z h' x ST "coder" "B" (.int 0) ∧
  (∃ kb, Z.vm.findClass "[B" = some kb ∧ RoadKit.Arv Z h' h.size kb .byte zn (cs.map fun c => .int (lo8 c)) (.int 0)) ∧
  ∀ (O n d : String) (w : Value), RoadKit.Fld Z h x O n d w → RoadKit.slotOf Z O n d ≠ RoadKit.slotOf Z ST "value" "[B" → RoadKit.slotOf Z O n d ≠ RoadKit.slotOf Z ST "coder" "B" → RoadKit.Fld Z h' x O n d w
/-- **new String(chars) AT A CALL, THE ARRAYS AS LISTS**: the char[] at b holds cs, not empty, no char above 255 -/
theorem backArv {p : Program} {l : Launch} {e : Env} {R : Room} {s : State} {args : Array Value} {below : List Frame} {len W : Nat} {Z : State} {a0 : Array Value} {h : Heap} (hZ : Z.Warmed39 s.vm) (hw : ∀ d ∈ words, d.before a0 Z = true) {kI : Nat} (wi : (Jvm.Cond.instantiable ST kI).before a0 Z = true)
    {x b : Addr} {k : ClassId} {zn z : Int32} {cs : List Int32} {dv v0 c0 : Value} (E : RoadKit.Exa Z h x ST) (V : RoadKit.Fld Z h x ST "value" "[B" v0) (C : RoadKit.Fld Z h x ST "coder" "B" c0) (K : RoadKit.Arv Z h b k .char zn (cs.map Value.int) dv) (S : RoadKit.Sta Z h ST "COMPACT_STRINGS" "Z" (.int z)) (hz : ¬ z = 0)
    (hlen : zn.toNatClampNeg = cs.length) (h0 : 0 < cs.length) (hbig : cs.length ≤ 536870912) (hall : ∀ c ∈ cs, ¬ 255 < c) (hfr : 4 ≤ R.frames) (hlo : W + 65 ≤ R.locals) :
    Back l R p e below s args New1.yN len W (fun P a => a = #[.ref x, .ref b] ∧ P.U.heap = h ∧ P.cells + 1 ≤ R.cells ∧ P.slots + cs.length ≤ R.slots)
      (fun P _ v B => ∃ L, QA Z x zn cs h v B.U.heap L ∧ B.locs = P.locs ++ L ∧ B.cells = P.cells + 1 ∧ B.slots = P.slots + cs.length) := by
  obtain ⟨A, K1, K2, K3, K4, K5, K6⟩ := K
  have e : A.slots.size = cs.length := K3.trans hlen
  have hat : ∀ (i : Nat) (hi : i < cs.length), A.slots[i]? = some (.int cs[i]) := fun i hi => by rw [K5 i (by omega)]; simp [List.getD_eq_getElem?_getD, hi]
  have hcv : ∀ (i : Nat) (hi : i < cs.length), cv A i = cs[i] := fun i hi => by unfold cv; rw [hat i hi]
  have hty : Typed .char A := fun i v hv => by
    have hi : i < A.slots.size := (Array.getElem?_eq_some_iff.mp hv).1
    have q := K5 i hi
    rw [hv] at q
    rw [Option.some.inj q]
    exact K6 i hi
  refine Back.mono (back hZ hw wi E V C K1 hty S hz (by omega) (by omega) (fun i hi => by rw [hcv i (by omega)]; exact hall _ (List.getElem_mem _)) hfr hlo) (fun P a hp => ⟨hp.1, hp.2.1, hp.2.2.1, by rw [e]; exact hp.2.2.2⟩) (fun P a v B hp hq => ?_)
  obtain ⟨L, ⟨q1, q2, q3, q4, q5, q6, q7, ⟨V', v1, v2, v3, v4, v5⟩, q9⟩, hl, hc, hs⟩ := hq
  refine ⟨L, ⟨q1, q2, q3, q4, q5, q6, q7, ⟨V'.cls, v3, V', v1, rfl, by rw [v4, e, hlen], K4, fun i hi => ?_, fun i hi => ?_⟩, q9⟩, hl, hc, by rw [hs, e]⟩
  · have hi' : i < cs.length := by omega
    rw [v5 i (by omega), hcv i hi']; simp [List.getD_eq_getElem?_getD, hi']
  · have hi' : i < cs.length := by omega
    simp only [List.getD_eq_getElem?_getD, List.getElem?_map, List.getElem?_eq_getElem hi', Option.map_some, Option.getD_some]
    exact fits_lo8 _
end StrChars.Road
namespace StrChars.Road
open Jvm Sem ClassFile Op Lib Jvm.Stand Jvm.Free Jvm.Free.XT
/-- WHAT COMES BACK, in the writer's own shape -/
def QV (Z : State) (x : Addr) (N : Int32) (bs : List Int32) (h : Heap) (n0 : Nat) (v : Option Value) (h' : Heap) (L : List Loc) : Prop := v = none ∧ RoadKit.Fr n0 L ∧ RoadKit.Keep h h' [x] ∧ RoadKit.Exa Z h' x ST ∧ RoadKit.Fld Z h' x ST "coder" "B" (.int 0) ∧
  ∃ (t : Addr) (kb : ClassId), n0 ≤ t ∧ h.size ≤ t ∧ ¬ t = x ∧ RoadKit.Fld Z h' x ST "value" "[B" (.ref t) ∧ RoadKit.Arv Z h' t kb .byte N (bs.map Value.int) (.int 0)
/-- **new String(chars) AT A CALL, FOR THE WRITER**: a char[] of n known ints, each 0 to 255 -/
theorem backV {p : Program} {l : Launch} {e : Env} {R : Room} {s : State} {args : Array Value} {below : List Frame} {len W : Nat} {Z : State} {a0 : Array Value} {h : Heap} (hZ : Z.Warmed39 s.vm) (hw : ∀ d ∈ words, d.before a0 Z = true) {kI : Nat} (wi : (Jvm.Cond.instantiable ST kI).before a0 Z = true)
    {x b : Addr} {kC : ClassId} {cs bs : List Int32} {d v0 c0 : Value} {z N : Int32} {n n0 : Nat} (hx0 : n0 ≤ x) (hh0 : n0 ≤ h.size) (E : RoadKit.Exa Z h x ST) (V : RoadKit.Fld Z h x ST "value" "[B" v0) (C : RoadKit.Fld Z h x ST "coder" "B" c0) (K : RoadKit.Arv Z h b kC .char N (cs.map Value.int) d) (S : RoadKit.Sta Z h ST "COMPACT_STRINGS" "Z" (.int z)) (hz : ¬ z = 0)
    (hn : cs.length = n) (hN : N = Int32.ofNat n) (l0 : 0 < n) (l2 : n ≤ 4000) (hp : ∀ c ∈ cs, ¬ c < 0 ∧ ¬ (255 : Int32) < c) (hb : bs = cs.map (fun c => c.toInt8.toInt32)) (hfr : 4 ≤ R.frames) (hlo : W + 65 ≤ R.locals) :
    Back l R p e below s args (⟨"java/lang/String", "<init>", "([C)V"⟩ : MethodName) len W (fun P a => a = #[.ref x, .ref b] ∧ P.U.heap = h ∧ P.cells + 1 ≤ R.cells ∧ P.slots + n ≤ R.slots)
      (fun P _ v B => ∃ L, QV Z x N bs h n0 v B.U.heap L ∧ B.locs = P.locs ++ L ∧ B.cells = P.cells + 1 ∧ B.slots = P.slots + n) := by
  subst hn hN hb
  refine Back.mono (backArv hZ hw wi E V C K S hz (n32 (by omega)) l0 (by omega) (fun c hc => (hp c hc).2) hfr hlo) (fun P a hp => hp) (fun P a v B hp hq => ?_)
  obtain ⟨L, ⟨q1, q2, q3, q4, q5, q6, q7, ⟨kb, v1, v2⟩, q9⟩, hl, hc, hs⟩ := hq
  exact ⟨L, ⟨q1, fun y hy => by rw [q2 y hy]; exact hx0, q3, q5, q7, h.size, kb, hh0, Nat.le_refl _, Nat.ne_of_gt E.lt, q6, by rw [List.map_map]; exact v2⟩, hl, hc, hs⟩
end StrChars.Road
namespace StrChars
open Jvm Sem ClassFile Op Lib Jvm.Stand Jvm.Free.XT Jvm.Free.ALB Jvm.Free.JM Jvm.Free
open Jvm.Lib.Cold (StaticIs)
def hi8 (x : Int32) : Int32 := lo8 (x >>> ((8 : Int32) &&& 31))
/-- what StringUTF16.getChar makes of two bytes -/
def pairCh (u v : Int32) : Int32 := (((u &&& 255) <<< ((0 : Int32) &&& 31)) ||| ((v &&& 255) <<< ((8 : Int32) &&& 31))).toUInt32.toUInt16.toUInt32.toInt32
theorem lo8_and (x : Int32) : (lo8 x &&& 255).toBitVec.toNat = x.toBitVec.toNat % 256 := by
  have h : (lo8 x).toBitVec = (x.toBitVec.signExtend 8).signExtend 32 := by rw [lo8, Int8.toBitVec_toInt32, Int32.toBitVec_toInt8]
  rw [Int32.toBitVec_and, BitVec.toNat_and, h]
  have e : ((x.toBitVec.signExtend 8).signExtend 32).toNat % 256 = x.toBitVec.toNat % 256 := by
    rw [BitVec.toNat_signExtend]
    have hlt := x.toBitVec.isLt
    simp only [BitVec.toNat_setWidth, BitVec.toNat_signExtend]
    split <;> split <;> omega
  rw [← e]
  exact Nat.and_two_pow_sub_one_eq_mod _ 8
theorem pair_says {c : Int32} (h0 : ¬ c < 0) (h1 : ¬ 65535 < c) : pairCh (lo8 c) (hi8 c) = c := by
  rw [Int32.lt_iff_toInt_lt] at h0 h1
  have e0 : (0 : Int32).toInt = 0 := rfl
  have e1 : (65535 : Int32).toInt = 65535 := rfl
  have hc : c.toInt = c.toBitVec.toNat := by
    have := c.toBitVec.isLt
    have e : c.toInt = c.toBitVec.toInt := rfl
    rw [e] at h0 h1
    rw [e]
    rw [BitVec.toInt_eq_toNat_cond] at h0 h1 ⊢
    split at h0 <;> split <;> omega
  have hn : c.toBitVec.toNat < 65536 := by omega
  have a1 := lo8_and c
  have a2 : (hi8 c &&& 255).toBitVec.toNat = c.toBitVec.toNat / 256 := by
    rw [hi8, lo8_and]
    have e : ((8 : Int32) &&& 31) = 8 := by decide
    rw [e, Int32.toBitVec_shiftRight]
    have e2 : ((8 : Int32).toBitVec.smod 32) = 8#32 := by decide
    rw [e2, BitVec.sshiftRight_eq', BitVec.toNat_sshiftRight_of_msb_false (by rw [BitVec.msb_eq_false_iff_two_mul_lt]; omega)]
    show c.toBitVec.toNat >>> 8 % 256 = _
    rw [Nat.shiftRight_eq_div_pow]
    omega
  unfold pairCh
  apply Int32.toBitVec_inj.mp
  apply BitVec.eq_of_toNat_eq
  have f0 : ((0 : Int32) &&& 31) = 0 := by decide
  have f8 : ((8 : Int32) &&& 31) = 8 := by decide
  rw [f0, f8]
  have g : (((lo8 c &&& 255) <<< (0 : Int32)) ||| ((hi8 c &&& 255) <<< (8 : Int32))).toBitVec.toNat = c.toBitVec.toNat := by
    rw [Int32.toBitVec_or, Int32.toBitVec_shiftLeft, Int32.toBitVec_shiftLeft]
    have s0 : ((0 : Int32).toBitVec.smod 32) = 0#32 := by decide
    have s8 : ((8 : Int32).toBitVec.smod 32) = 8#32 := by decide
    rw [s0, s8, BitVec.toNat_or]
    simp only [BitVec.shiftLeft_eq', BitVec.toNat_shiftLeft, a1, a2]
    show (c.toBitVec.toNat % 256) <<< 0 % 2 ^ 32 ||| (c.toBitVec.toNat / 256) <<< 8 % 2 ^ 32 = _
    rw [Nat.shiftLeft_zero, Nat.mod_eq_of_lt (show c.toBitVec.toNat % 256 < 2 ^ 32 by omega), Nat.mod_eq_of_lt (show (c.toBitVec.toNat / 256) <<< 8 < 2 ^ 32 by rw [Nat.shiftLeft_eq]; omega), Nat.or_comm, ← Nat.shiftLeft_add_eq_or_of_lt (by omega), Nat.shiftLeft_eq]
    omega
  show BitVec.toNat (((((lo8 c &&& 255) <<< (0 : Int32)) ||| ((hi8 c &&& 255) <<< (8 : Int32))).toBitVec.setWidth 16).setWidth 32) = _
  rw [BitVec.toNat_setWidth, BitVec.toNat_setWidth, g]
  omega
end StrChars
namespace StrChars
open Jvm Sem ClassFile Op Lib Jvm.Stand Jvm.Free.XT Jvm.Free.ALB Jvm.Free.JM Jvm.Free
open Jvm.Lib.Cold (StaticIs)
/-- charAt's cast of a byte read back -/
def chr8 (u : Int32) : Int32 := (u &&& 255).toUInt32.toUInt16.toUInt32.toInt32
theorem chr8_lo8 {c : Int32} (h0 : ¬ c < 0) (h1 : ¬ 255 < c) : chr8 (lo8 c) = c := by
  have t : ∀ k : Fin 256, (Int32.ofNat k.val).toUInt32.toUInt16.toUInt32.toInt32 = Int32.ofNat k.val := by decide +kernel
  unfold chr8
  rw [lo8_mask h0 h1]
  rw [Int32.lt_iff_toInt_lt] at h0 h1
  have e0 : (0 : Int32).toInt = 0 := rfl
  have e1 : (255 : Int32).toInt = 255 := rfl
  obtain ⟨k, hk⟩ : ∃ k : Nat, c.toInt = k := ⟨c.toInt.toNat, by omega⟩
  have hx : c = Int32.ofNat k := Int32.toInt_inj.mp (by rw [hk, Int32.toInt_ofNat_small (by omega)])
  rw [hx]
  exact t ⟨k, by omega⟩
theorem narrow_ch {c : Int32} (h0 : ¬ c < 0) (h1 : ¬ 65535 < c) : narrow .char (.int c) = .int c := by
  have q : narrow .char (.int (pairCh (lo8 c) (hi8 c))) = .int (pairCh (lo8 c) (hi8 c)) := narrow_c _
  rwa [pair_says h0 h1] at q
/-- the array's cell V codes the n chars f 0 .. f (n - 1) by the coder cd, as the JDK does: coder 1 just where some char is above 255 -/
def Cod (cd : Int32) (n : Nat) (f : Nat → Int32) (V : Cell) : Prop := (cd = 0 ∧ V.slots.size = n ∧ ∀ j, j < n → V.slots[j]? = some (.int (lo8 (f j))) ∧ ¬ 255 < f j) ∨ (cd = 1 ∧ V.slots.size = 2 * n ∧ (∀ j, j < n → V.slots[2 * j]? = some (.int (lo8 (f j))) ∧ V.slots[2 * j + 1]? = some (.int (hi8 (f j)))) ∧ ∃ j, j < n ∧ 255 < f j)
theorem Cod.cd {cd : Int32} {n : Nat} {f : Nat → Int32} {V : Cell} (h : Cod cd n f V) : cd = 0 ∨ cd = 1 := h.imp (fun q => q.1) fun q => q.1
/-- **x is a String of the n chars f 0 .. f (n - 1)**, Latin-1 or UTF-16; its array at t has the cell V -/
def Txt (x t : Addr) (V : Cell) (cd : Int32) (n : Nat) (f : Nat → Int32) (U : State) : Prop := Exact "java/lang/String" x U ∧ Has x "java/lang/String" "value" "[B" (.ref t) U ∧ Has x "java/lang/String" "coder" "B" (.int cd) U ∧ XT.Arr .byte t V U ∧ Cod cd n f V ∧ ∀ j, j < n → ¬ f j < 0 ∧ ¬ 65535 < f j
theorem Txt.mv {x t : Addr} {V : Cell} {cd : Int32} {n : Nat} {f : Nat → Int32} {U U' : State} (h : Txt x t V cd n f U) (hal : U.vm.Alike U'.vm) (hh : U'.heap = U.heap) : Txt x t V cd n f U' := ⟨h.1.mv hal hh, h.2.1.mv hal hh, h.2.2.1.mv hal hh, h.2.2.2.1.mv hal hh, h.2.2.2.2⟩
namespace IsL
def yN : MethodName := ⟨"java/lang/String", "isLatin1", "()Z"⟩
abbrev yB : ByteArray := jdk_42_method_154_code
theorem d0 : decode yB 0 = .ok (.getstatic 38, 3) := by decide +kernel
theorem d3 : decode yB 3 = .ok (.ifCond (.eq) 14, 3) := by decide +kernel
theorem d6 : decode yB 6 = .ok (.aload_n 0, 1) := by decide +kernel
theorem d7 : decode yB 7 = .ok (.getfield 15, 3) := by decide +kernel
theorem d10 : decode yB 10 = .ok (.ifCond (.ne) 7, 3) := by decide +kernel
theorem d13 : decode yB 13 = .ok (.iconst 1, 1) := by decide +kernel
theorem d14 : decode yB 14 = .ok (.goto 4, 3) := by decide +kernel
theorem d17 : decode yB 17 = .ok (.iconst 0, 1) := by decide +kernel
theorem d18 : decode yB 18 = .ok (.ireturn, 1) := by decide +kernel
def site : List Cond := [.fieldLink "java/lang/String" 38 "java/lang/String" "COMPACT_STRINGS" "Z", .fieldLink "java/lang/String" 15 "java/lang/String" "coder" "B"]
def tab : Cond := tabOf yN yB 1 (some .boolean) site
def P (x : Addr) (cd z : Int32) (args : Array Value) (s : State) : Prop := args = #[.ref x] ∧ Has x "java/lang/String" "coder" "B" (.int cd) s ∧ (cd = 0 ∨ cd = 1) ∧ StaticIs s "java/lang/String" "COMPACT_STRINGS" "Z" (.int z) ∧ ¬ z = 0
def E (cd : Int32) (r : Option Value) (s u : State) : Prop := XT.PureE (some (.int (1 - cd))) r s u
theorem law (l : Launch) (x : Addr) (cd z : Int32) : Law l yN 1 0 0 0 yB 1 (some .boolean) site (P x cd z) (E cd) [] 0 0 := by
  refine Law.of_walk (plainFor_of_name (by decide +kernel)) (by decide +kernel) (by decide +kernel) (by decide) (fun _ _ h => by rw [h.1]; rfl) (fun _ U U' hal hh h => ⟨h.1, h.2.1.mv hal hh, h.2.2.1, h.2.2.2.1.there hal hh, h.2.2.2.2⟩) (fun r U U' V V' h1 hal h2 h => XT.PureE.mv r U U' V V' h1 hal h2 h) ?_
  intro p e s m args below meth c s₁ X0 hexec hbytes hml hret hlk hnm hown hh0 W hP
  obtain ⟨rfl, hx, hc, s1, hz⟩ := hP
  have c1 : Steps p.tables e below (s₁.setTop (entryFrame m #[.ref x] 1)) (s₁.setTop (mkF m 0 #[.val (.ref x)] [])) := entry rfl
  obtain ⟨T2, X2, q2, st2⟩ := X0.sget hexec hown (wk W (.fieldLink "java/lang/String" 38 "java/lang/String" "COMPACT_STRINGS" "Z")) s1 (fun _ _ h => by rw [hh0]; exact h) (g := (mkF m 0 #[.val (.ref x)] [])) rfl (hb hbytes d0)
  have hh2 := q2.trans hh0
  have c3 : Steps p.tables e below (s₁.setTop (entryFrame m #[.ref x] 1)) (T2.setTop (mkF m 7 #[.val (.ref x)] [.ref x])) := (c1.trans (st2 _ (Steps.refl _))).trans (by
    refine XS.ifNo X2.here hexec rfl (hb hbytes d3) rfl (i0_eq_f hz) ?_
    refine XS.aloadN X2.here hexec rfl (hb hbytes d6) rfl rfl ?_
    exact Steps.refl _)
  obtain ⟨T4, X4, q4, st4⟩ := X2.hget hexec hown (wk W (.fieldLink "java/lang/String" 15 "java/lang/String" "coder" "B")) (hx.mv X2.warmed.alike hh2) (g := (mkF m 7 #[.val (.ref x)] [.ref x])) rfl (rest := []) rfl (hb hbytes d7)
  have c5 : Steps p.tables e below (s₁.setTop (entryFrame m #[.ref x] 1)) (T4.setTop (mkF m 10 #[.val (.ref x)] [.int cd])) := c3.trans (st4 _ (Steps.refl _))
  have c6 : Steps p.tables e below (s₁.setTop (entryFrame m #[.ref x] 1)) (T4.setTop (mkF m 18 #[.val (.ref x)] [.int (1 - cd)])) := by
    rcases hc with rfl | rfl
    · exact c5.trans (by
        refine XS.ifNo X4.here hexec rfl (hb hbytes d10) rfl (i0_ne_f rfl) ?_
        refine iconstV X4.here hexec rfl 1 (hb hbytes d13) (by decide) ?_
        refine XS.goto X4.here hexec rfl (pc0 := 14) rfl (hb hbytes d14) (by decide) rfl ?_
        exact Steps.refl _)
    · exact c5.trans (by
        refine XS.ifYes X4.here hexec rfl (pc0 := 10) rfl (hb hbytes d10) rfl (i0_ne_t (by decide)) (by decide) rfl ?_
        refine iconstV X4.here hexec rfl 0 (hb hbytes d17) (by decide) ?_
        exact Steps.refl _)
  exact ⟨T4, some (.int (1 - cd)), _, _, _, X4, rfl, rfl, rfl, (fun h => by cases h), ⟨rfl, q4.trans hh2⟩, fun fs hl => c6.trans (X4.ireturnOut hexec hret (by rcases hc with rfl | rfl <;> rfl) (Or.inr (Or.inl rfl)) (hb hbytes d18) hl)⟩
end IsL
namespace LChA
def yN : MethodName := ⟨"java/lang/StringLatin1", "charAt", "([BI)C"⟩
abbrev yB : ByteArray := jdk_43_method_2_code
theorem d0 : decode yB 0 = .ok (.iload_n 1, 1) := by decide +kernel
theorem d1 : decode yB 1 = .ok (.aload_n 0, 1) := by decide +kernel
theorem d2 : decode yB 2 = .ok (.arraylength, 1) := by decide +kernel
theorem d3 : decode yB 3 = .ok (.invokestatic 9, 3) := by decide +kernel
theorem d6 : decode yB 6 = .ok (.aload_n 0, 1) := by decide +kernel
theorem d7 : decode yB 7 = .ok (.iload_n 1, 1) := by decide +kernel
theorem d8 : decode yB 8 = .ok (.baload, 1) := by decide +kernel
theorem d9 : decode yB 9 = .ok (.sipush 255, 3) := by decide +kernel
theorem d12 : decode yB 12 = .ok (.iand, 1) := by decide +kernel
theorem d13 : decode yB 13 = .ok (.i2c, 1) := by decide +kernel
theorem d14 : decode yB 14 = .ok (.ireturn, 1) := by decide +kernel
def site : List Cond := [JO.Str_checkIndex.tab] ++ staticW "java/lang/StringLatin1" 9 JO.Str_checkIndex.yN
def tab : Cond := tabOf yN yB 2 (some .char) site
def P (t : Addr) (V : Cell) (i : Nat) (u : Int32) (fm : Value) (args : Array Value) (s : State) : Prop := args = #[.ref t, .int (Int32.ofNat i)] ∧ XT.Arr .byte t V s ∧ V.slots[i]? = some (.int u) ∧ (StaticIs s "jdk/internal/util/Preconditions" "SIOOBE_FORMATTER" "Ljava/util/function/BiFunction;" fm ∧ fm.isRef = true)
def E (u : Int32) (r : Option Value) (s w : State) : Prop := XT.PureE (some (.int (chr8 u))) r s w
theorem law (l : Launch) (t : Addr) (V : Cell) (i : Nat) (u : Int32) (fm : Value) : Law l yN 2 2 2 27 yB 2 (some .char) site (P t V i u fm) (E u) [] 0 0 := by
  refine Law.of_walk (plainFor_of_name (by decide +kernel)) (by decide +kernel) (by decide +kernel) (by decide) (fun _ _ h => by rw [h.1]; rfl) (fun _ U U' hal hh h => ⟨h.1, h.2.1.mv hal hh, h.2.2.1, h.2.2.2.1.there hal hh, h.2.2.2.2⟩) (fun r U U' V V' h1 hal h2 h => XT.PureE.mv r U U' V V' h1 hal h2 h) ?_
  intro p e s m args below meth c s₁ X0 hexec hbytes hml hret hlk hnm hown hh0 W hP
  obtain ⟨rfl, hV, hu, s1, rf⟩ := hP
  have v31 := hV.2.2.2
  have hi : i < V.slots.size := (Array.getElem?_eq_some_iff.mp hu).1
  have c1 : Steps p.tables e below (s₁.setTop (entryFrame m #[.ref t, .int (Int32.ofNat i)] 2)) (s₁.setTop (mkF m 0 #[.val (.ref t), .val (.int (Int32.ofNat i))] [])) := entry rfl
  have c2 : Steps p.tables e below (s₁.setTop (entryFrame m #[.ref t, .int (Int32.ofNat i)] 2)) (s₁.setTop (mkF m 3 #[.val (.ref t), .val (.int (Int32.ofNat i))] [.int (Int32.ofNat V.slots.size), .int (Int32.ofNat i)])) := c1.trans (by
    refine XS.iloadN X0.here hexec rfl (hb hbytes d0) rfl ?_
    refine XS.aloadN X0.here hexec rfl (hb hbytes d1) rfl rfl ?_
    refine X0.alen hexec (hV.mv X0.warmed.alike hh0) rfl rfl (hb hbytes d2) ?_
    exact Steps.refl _)
  obtain ⟨v3, T3, X3, E3, g3⟩ := X0.callS hexec (JO.Str_checkIndex.law l (Int32.ofNat i) (Int32.ofNat V.slots.size) fm) hown (wks W (staticW "java/lang/StringLatin1" 9 JO.Str_checkIndex.yN)) (wk W JO.Str_checkIndex.tab) (W := 0) (Nat.le_of_ble_eq_true rfl) (Nat.le_of_ble_eq_true rfl) (Nat.le_refl _) (Nat.le_refl _) (g := (mkF m 3 #[.val (.ref t), .val (.int (Int32.ofNat i))] [.int (Int32.ofNat V.slots.size), .int (Int32.ofNat i)])) rfl (by rw [hml]; rfl) c2 (argsL := [.int (Int32.ofNat i), .int (Int32.ofNat V.slots.size)]) (rest := []) rfl rfl (by show 2 * 0 + 0 ≤ _; decide) (hb hbytes d3) (⟨rfl, rf, s1.there X0.warmed.alike hh0, Int32.ofNat_not_neg (by omega), lt32 v31 hi⟩)
  obtain ⟨rfl, q3⟩ := E3
  have hh3 := q3.trans hh0
  have c4 : Steps p.tables e below (s₁.setTop (entryFrame m #[.ref t, .int (Int32.ofNat i)] 2)) (T3.setTop (mkF m 14 #[.val (.ref t), .val (.int (Int32.ofNat i))] [.int (chr8 u)])) := Steps.trans g3 (by
    refine XS.aloadN X3.here hexec rfl (hb hbytes d6) rfl rfl ?_
    refine XS.iloadN X3.here hexec rfl (hb hbytes d7) rfl ?_
    refine X3.aget hexec (hV.mv X3.warmed.alike hh3) rfl hu rfl rfl (hb hbytes d8) ?_
    refine sipushV X3.here hexec rfl 255 (hb hbytes d9) (by decide) ?_
    refine XS.iand X3.here hexec rfl (hb hbytes d12) rfl ?_
    refine i2c X3.here hexec rfl (hb hbytes d13) rfl ?_
    exact Steps.refl _)
  exact ⟨T3, some (.int (chr8 u)), _, _, _, X3, rfl, rfl, rfl, (fun h => by cases h), ⟨rfl, hh3⟩, fun fs hl => c4.trans (X3.ireturnOut hexec hret (narrow_c _) (Or.inr (Or.inr (Or.inr (Or.inl rfl)))) (hb hbytes d14) hl)⟩
end LChA
end StrChars
namespace StrChars.Road
open Jvm Sem ClassFile Op Lib Jvm.Stand Jvm.Free Jvm.Free.XT
open Jvm.Lib.Cold (StaticIs)
theorem consq {a : Array Value} {s : State} {c : Jvm.Cond} {L : List Jvm.Cond} (h0 : c.before a s = true) (h : ∀ w ∈ L, w.before a s = true) : ∀ w ∈ c :: L, w.before a s = true := fun w hw => (List.mem_cons.mp hw).elim (fun e => e ▸ h0) (h w)
/-- the bytes of the chars cs, low before high -/
def wideBytes : List Int32 → List Value
  | [] => []
  | c :: cs => .int (lo8 c) :: .int (hi8 c) :: wideBytes cs
theorem wide_lo (d : Value) : ∀ (cs : List Int32) (j : Nat), j < cs.length → (wideBytes cs).getD (2 * j) d = .int (lo8 (cs.getD j 0))
  | [], j, h => absurd h (Nat.not_lt_zero j)
  | c :: cs, 0, _ => rfl
  | c :: cs, j + 1, h => by
    have q := wide_lo d cs j (by simpa using h)
    rw [show 2 * (j + 1) = 2 * j + 1 + 1 from by omega]
    simpa [wideBytes] using q
theorem wide_hi (d : Value) : ∀ (cs : List Int32) (j : Nat), j < cs.length → (wideBytes cs).getD (2 * j + 1) d = .int (hi8 (cs.getD j 0))
  | [], j, h => absurd h (Nat.not_lt_zero j)
  | c :: cs, 0, _ => rfl
  | c :: cs, j + 1, h => by
    have q := wide_hi d cs j (by simpa using h)
    rw [show 2 * (j + 1) + 1 = 2 * j + 1 + 1 + 1 from by omega]
    simpa [wideBytes] using q
theorem low_at (d : Value) (cs : List Int32) (j : Nat) (h : j < cs.length) : (cs.map fun c => Value.int (lo8 c)).getD j d = .int (lo8 (cs.getD j 0)) := by
  simp [List.getD_eq_getElem?_getD, h]
/-- an array of N2 bytes vs codes the chars cs by the coder cd -/
def CodA (cs : List Int32) (cd N2 : Int32) (vs : List Value) : Prop := (cd = 0 ∧ N2 = Int32.ofNat cs.length ∧ vs = (cs.map fun c => Value.int (lo8 c)) ∧ ∀ c ∈ cs, ¬ 255 < c) ∨ (cd = 1 ∧ N2 = Int32.ofNat (2 * cs.length) ∧ vs = wideBytes cs ∧ ∃ c ∈ cs, 255 < c)
theorem CodA.cod {cs : List Int32} {cd N2 : Int32} {vs : List Value} {V : Cell} (h : CodA cs cd N2 vs) (hn : 2 * cs.length < 2 ^ 31) (hs : V.slots.size = N2.toNatClampNeg) (hv : RoadKit.Has V vs (.int 0)) : Cod cd cs.length (fun j => cs.getD j 0) V := by
  rcases h with ⟨rfl, rfl, rfl, h⟩ | ⟨rfl, rfl, rfl, c, hc, hw⟩
  · rw [n32 (by omega)] at hs
    exact Or.inl ⟨rfl, hs, fun j hj => ⟨by rw [hv j (by omega), low_at _ _ _ hj], by
      have e : cs.getD j 0 = cs[j] := by simp [List.getD_eq_getElem?_getD, hj]
      show ¬ 255 < cs.getD j 0
      rw [e]; exact h _ (List.getElem_mem _)⟩⟩
  · rw [n32 (by omega)] at hs
    obtain ⟨j, hj, rfl⟩ := List.getElem_of_mem hc
    exact Or.inr ⟨rfl, hs, fun j hj => ⟨by rw [hv _ (by omega), wide_lo _ _ _ hj], by rw [hv _ (by omega), wide_hi _ _ _ hj]⟩, j, hj, by
      have e : cs.getD j 0 = cs[j] := by simp [List.getD_eq_getElem?_getD, hj]
      show 255 < cs.getD j 0
      rw [e]; exact hw⟩
/-- an object of exactly java/lang/String, its two fields found: as the laws ask it -/
theorem strObj {Z U : State} {a0 : Array Value} {kI : Nat} (wi : (Jvm.Cond.instantiable ST kI).before a0 Z = true) (al : Z.vm.Alike U.vm) {x : Addr} {v0 c0 : Value} (E : RoadKit.Exa Z U.heap x ST) (V : RoadKit.Fld Z U.heap x ST "value" "[B" v0) (C : RoadKit.Fld Z U.heap x ST "coder" "B" c0) :
    ∃ (D : Cell) (fV fC : Field), Blank ST x D U ∧ Found ST "value" "[B" fV U ∧ Found ST "coder" "B" fC U ∧ D.slots[fV.slot]? = some v0 ∧ D.slots[fC.slot]? = some c0 ∧ RoadKit.slotOf Z ST "value" "[B" = fV.slot ∧ RoadKit.slotOf Z ST "coder" "B" = fC.slot := by
  obtain ⟨D, cfV, kV, iV, fV, hD, gV, stV, knV, obV, asV, slV⟩ := V
  obtain ⟨D', cfC, kC, iC, fC, hD', gC, stC, -, -, asC, slC⟩ := C
  cases hD.symm.trans hD'
  obtain ⟨D2, kD, e1, e2, e3, e4, e5⟩ := E
  cases hD.symm.trans e1
  obtain ⟨c2, k2, i1, i2, i3, -⟩ := Cond.instantiable_spec wi
  cases e2.symm.trans i1
  cases e3.symm.trans i2
  obtain ⟨kU, u1, u2⟩ := al.2.2 _ _ e3
  exact ⟨D, fV, fC, ⟨hD, ⟨knV, fun q hq => by rw [hq] at obV; cases obV⟩, by rw [al.findClass]; exact e2, kU, u1, by rw [u2]; exact i3, by rw [u2]; exact e5 i3⟩, ⟨SBG.found_only al ⟨cfV, kV, iV, gV⟩, stV⟩, ⟨SBG.found_only al ⟨cfC, kC, iC, gC⟩, stC⟩, slV, slC, by simp [RoadKit.slotOf, gV], by simp [RoadKit.slotOf, gC]⟩
theorem sta_is {Z U : State} (al : Z.vm.Alike U.vm) {C n d : String} {v : Value} (S : RoadKit.Sta Z U.heap C n d v) : StaticIs U C n d v := by
  obtain ⟨cfS, iS, kS, fS, st, cS, t1, t2, t3, t4, t5, t6, t7⟩ := S
  exact StaticIs.there (s := { Z with heap := U.heap }) ⟨cfS, iS, kS, fS, st, cS, t1, t2, t3, t4, t5, (fun q => by rw [q] at t6; cases t6), t7⟩ al rfl
end StrChars.Road
namespace StrChars
open Jvm Sem ClassFile Op Lib Jvm.Stand Jvm.Free.XT Jvm.Free.ALB Jvm.Free.JM Jvm.Free
open Jvm.Lib.Cold (StaticIs)
/-- what place i of a byte[]'s cell holds -/
def yv (A : Cell) (i : Nat) : Int32 := match A.slots[i]? with | some (.int x) => x | _ => 0
theorem yv_get {a : Addr} {A : Cell} {U : State} (h : XT.Arr .byte a A U) (ht : Typed .byte A) {i : Nat} (hi : i < A.slots.size) : A.slots[i]? = some (.int (yv A i)) := by
  have e := Array.getElem?_eq_getElem hi
  have f := ht i _ e
  unfold yv; rw [e]
  generalize A.slots[i] = v at f
  cases v <;> simp [fits] at f ⊢
/-- the two arrays are equal, place for place -/
def EqC (A B : Cell) : Prop := A.slots.size = B.slots.size ∧ ∀ i, i < A.slots.size → yv A i = yv B i
/-- a boolean that says whether p -/
def Says01 (q : Prop) (r : Option Value) (s u : State) : Prop := ∃ v : Int32, r = some (.int v) ∧ u.heap = s.heap ∧ ((v = 1 ∧ q) ∨ (v = 0 ∧ ¬ q))
theorem Says01.mv {q : Prop} : ∀ r (U U' V V' : State), U'.heap = U.heap → V.vm.Alike V'.vm → V'.heap = V.heap → Says01 q r U V → Says01 q r U' V' :=
  fun r U U' V V' h1 _ h2 ⟨v, a, b, c⟩ => ⟨v, a, by rw [h1, h2]; exact b, c⟩
namespace LEq
def yN : MethodName := ⟨"java/lang/StringLatin1", "equals", "([B[B)Z"⟩
abbrev yB : ByteArray := jdk_43_method_13_code
theorem d0 : decode yB 0 = .ok (.aload_n 0, 1) := by decide +kernel
theorem d1 : decode yB 1 = .ok (.arraylength, 1) := by decide +kernel
theorem d2 : decode yB 2 = .ok (.aload_n 1, 1) := by decide +kernel
theorem d3 : decode yB 3 = .ok (.arraylength, 1) := by decide +kernel
theorem d4 : decode yB 4 = .ok (.if_icmp (.ne) 30, 3) := by decide +kernel
theorem d7 : decode yB 7 = .ok (.iconst 0, 1) := by decide +kernel
theorem d8 : decode yB 8 = .ok (.istore_n 2, 1) := by decide +kernel
theorem d9 : decode yB 9 = .ok (.iload_n 2, 1) := by decide +kernel
theorem d10 : decode yB 10 = .ok (.aload_n 0, 1) := by decide +kernel
theorem d11 : decode yB 11 = .ok (.arraylength, 1) := by decide +kernel
theorem d12 : decode yB 12 = .ok (.if_icmp (.ge) 20, 3) := by decide +kernel
theorem d15 : decode yB 15 = .ok (.aload_n 0, 1) := by decide +kernel
theorem d16 : decode yB 16 = .ok (.iload_n 2, 1) := by decide +kernel
theorem d17 : decode yB 17 = .ok (.baload, 1) := by decide +kernel
theorem d18 : decode yB 18 = .ok (.aload_n 1, 1) := by decide +kernel
theorem d19 : decode yB 19 = .ok (.iload_n 2, 1) := by decide +kernel
theorem d20 : decode yB 20 = .ok (.baload, 1) := by decide +kernel
theorem d21 : decode yB 21 = .ok (.if_icmp (.eq) 5, 3) := by decide +kernel
theorem d24 : decode yB 24 = .ok (.iconst 0, 1) := by decide +kernel
theorem d25 : decode yB 25 = .ok (.ireturn, 1) := by decide +kernel
theorem d26 : decode yB 26 = .ok (.iinc 2 1, 3) := by decide +kernel
theorem d29 : decode yB 29 = .ok (.goto (-20), 3) := by decide +kernel
theorem d32 : decode yB 32 = .ok (.iconst 1, 1) := by decide +kernel
theorem d33 : decode yB 33 = .ok (.ireturn, 1) := by decide +kernel
theorem d34 : decode yB 34 = .ok (.iconst 0, 1) := by decide +kernel
theorem d35 : decode yB 35 = .ok (.ireturn, 1) := by decide +kernel
def site : List Cond := []
def tab : Cond := tabOf yN yB 3 (some .boolean) site
def P (a : Addr) (A : Cell) (b : Addr) (B : Cell) (args : Array Value) (s : State) : Prop := args = #[.ref a, .ref b] ∧ XT.Arr .byte a A s ∧ Typed .byte A ∧ XT.Arr .byte b B s ∧ Typed .byte B
/-- whether two byte[] are equal, place for place -/
theorem law (l : Launch) (a : Addr) (A : Cell) (b : Addr) (B : Cell) : Law l yN 2 2 0 0 yB 3 (some .boolean) site (P a A b B) (Says01 (EqC A B)) [] 0 0 := by
  refine Law.of_walk (plainFor_of_name (by decide +kernel)) (by decide +kernel) (by decide +kernel) (by decide) (fun _ _ h => by rw [h.1]; rfl) (fun _ U U' hal hh h => ⟨h.1, h.2.1.mv hal hh, h.2.2.1, h.2.2.2.1.mv hal hh, h.2.2.2.2⟩) (fun r U U' V V' h1 hal h2 h => Says01.mv r U U' V V' h1 hal h2 h) ?_
  intro p e s m args below meth c s₁ X0 hexec hbytes hml hret hlk hnm hown hh0 W hP
  obtain ⟨rfl, hA, tA, hB, tB⟩ := hP
  have a31 := hA.2.2.2
  have b31 := hB.2.2.2
  have hA0 := hA.mv X0.warmed.alike hh0
  have hB0 := hB.mv X0.warmed.alike hh0
  have c1 : Steps p.tables e below (s₁.setTop (entryFrame m #[.ref a, .ref b] 3)) (s₁.setTop (mkF m 0 #[.val (.ref a), .val (.ref b), .unset] [])) := entry rfl
  have c2 : Steps p.tables e below (s₁.setTop (entryFrame m #[.ref a, .ref b] 3)) (s₁.setTop (mkF m 4 #[.val (.ref a), .val (.ref b), .unset] [.int (Int32.ofNat B.slots.size), .int (Int32.ofNat A.slots.size)])) := c1.trans (by
    refine XS.aloadN X0.here hexec rfl (hb hbytes d0) rfl rfl ?_
    refine X0.alen hexec hA0 rfl rfl (hb hbytes d1) ?_
    refine XS.aloadN X0.here hexec rfl (hb hbytes d2) rfl rfl ?_
    refine X0.alen hexec hB0 rfl rfl (hb hbytes d3) ?_
    exact Steps.refl _)
  by_cases hs : A.slots.size = B.slots.size
  · have c3 : Steps p.tables e below (s₁.setTop (entryFrame m #[.ref a, .ref b] 3)) (s₁.setTop (mkF m 9 #[.val (.ref a), .val (.ref b), .val (.int 0)] [])) := c2.trans (by
      refine XS.icmpNo X0.here hexec rfl (hb hbytes d4) rfl (ii_ne_f (by rw [hs])) ?_
      refine iconstV X0.here hexec rfl 0 (hb hbytes d7) (by decide) ?_
      refine XS.istoreN X0.here hexec rfl (hb hbytes d8) rfl rfl ?_
      exact Steps.refl _)
    have loop : ∀ (r i : Nat), i + r = A.slots.size → (∀ j, j < i → yv A j = yv B j) → Steps p.tables e below (s₁.setTop (entryFrame m #[.ref a, .ref b] 3)) (s₁.setTop (mkF m 9 #[.val (.ref a), .val (.ref b), .val (.int (Int32.ofNat i))] [])) → ∃ (pc : Nat) (Ls : Array Slot) (v : Int32), (pc = 25 ∨ pc = 33) ∧ ((v = 1 ∧ EqC A B) ∨ (v = 0 ∧ ¬ EqC A B)) ∧ Steps p.tables e below (s₁.setTop (entryFrame m #[.ref a, .ref b] 3)) (s₁.setTop (mkF m pc Ls [.int v])) := by
      intro r
      induction r with
      | zero =>
        intro i hi he cl
        exact ⟨33, _, 1, Or.inr rfl, Or.inl ⟨rfl, hs, fun j hj => he j (by omega)⟩, cl.trans (by
          refine XS.iloadN X0.here hexec rfl (hb hbytes d9) rfl ?_
          refine XS.aloadN X0.here hexec rfl (hb hbytes d10) rfl rfl ?_
          refine X0.alen hexec hA0 rfl rfl (hb hbytes d11) ?_
          refine XS.icmpYes X0.here hexec rfl (pc0 := 12) rfl (hb hbytes d12) rfl (ii_ge_t (nlt32 (by omega) (by omega))) (by decide) rfl ?_
          refine iconstV X0.here hexec rfl 1 (hb hbytes d32) (by decide) ?_
          exact Steps.refl _)⟩
      | succ r ih =>
        intro i hi he cl
        have c4 : Steps p.tables e below (s₁.setTop (entryFrame m #[.ref a, .ref b] 3)) (s₁.setTop (mkF m 21 #[.val (.ref a), .val (.ref b), .val (.int (Int32.ofNat i))] [.int (yv B i), .int (yv A i)])) := cl.trans (by
          refine XS.iloadN X0.here hexec rfl (hb hbytes d9) rfl ?_
          refine XS.aloadN X0.here hexec rfl (hb hbytes d10) rfl rfl ?_
          refine X0.alen hexec hA0 rfl rfl (hb hbytes d11) ?_
          refine XS.icmpNo X0.here hexec rfl (hb hbytes d12) rfl (ii_ge_f (lt32 (by omega) (by omega))) ?_
          refine XS.aloadN X0.here hexec rfl (hb hbytes d15) rfl rfl ?_
          refine XS.iloadN X0.here hexec rfl (hb hbytes d16) rfl ?_
          refine X0.aget hexec hA0 rfl (yv_get hA tA (i := i) (by omega)) rfl rfl (hb hbytes d17) ?_
          refine XS.aloadN X0.here hexec rfl (hb hbytes d18) rfl rfl ?_
          refine XS.iloadN X0.here hexec rfl (hb hbytes d19) rfl ?_
          refine X0.aget hexec hB0 rfl (yv_get hB tB (i := i) (by omega)) rfl rfl (hb hbytes d20) ?_
          exact Steps.refl _)
        by_cases hv : yv A i = yv B i
        · have c5 : Steps p.tables e below (s₁.setTop (entryFrame m #[.ref a, .ref b] 3)) (s₁.setTop (mkF m 9 #[.val (.ref a), .val (.ref b), .val (.int (Int32.ofNat i + 1))] [])) := c4.trans (by
            refine XS.icmpYes X0.here hexec rfl (pc0 := 21) rfl (hb hbytes d21) rfl (ii_eq_t hv) (by decide) rfl ?_
            refine iincV X0.here hexec rfl 1 (hb hbytes d26) (by decide) rfl rfl ?_
            refine XS.goto X0.here hexec rfl (pc0 := 29) rfl (hb hbytes d29) (by decide) rfl ?_
            exact Steps.refl _)
          rw [succ32] at c5
          exact ih (i + 1) (by omega) (fun j hj => by
            by_cases e : j = i
            · rw [e]; exact hv
            · exact he j (by omega)) c5
        · exact ⟨25, _, 0, Or.inl rfl, Or.inr ⟨rfl, fun q => hv (q.2 i (by omega))⟩, c4.trans (by
            refine XS.icmpNo X0.here hexec rfl (hb hbytes d21) rfl (ii_eq_f hv) ?_
            refine iconstV X0.here hexec rfl 0 (hb hbytes d24) (by decide) ?_
            exact Steps.refl _)⟩
    obtain ⟨pc, Ls, v, hpc, hv, cz⟩ := loop A.slots.size 0 (by omega) (fun j hj => absurd hj (Nat.not_lt_zero j)) c3
    have nv : narrow .boolean (.int v) = .int v := by rcases hv with ⟨rfl, -⟩ | ⟨rfl, -⟩ <;> rfl
    rcases hpc with rfl | rfl
    · exact ⟨s₁, some (.int v), _, _, _, X0, rfl, rfl, rfl, (fun h => by cases h), ⟨v, rfl, hh0, hv⟩, fun fs hl => cz.trans (X0.ireturnOut hexec hret nv (Or.inr (Or.inl rfl)) (hb hbytes d25) hl)⟩
    · exact ⟨s₁, some (.int v), _, _, _, X0, rfl, rfl, rfl, (fun h => by cases h), ⟨v, rfl, hh0, hv⟩, fun fs hl => cz.trans (X0.ireturnOut hexec hret nv (Or.inr (Or.inl rfl)) (hb hbytes d33) hl)⟩
  · have c3 : Steps p.tables e below (s₁.setTop (entryFrame m #[.ref a, .ref b] 3)) (s₁.setTop (mkF m 35 #[.val (.ref a), .val (.ref b), .unset] [.int 0])) := c2.trans (by
      refine XS.icmpYes X0.here hexec rfl (pc0 := 4) rfl (hb hbytes d4) rfl (ii_ne_t (ne32 a31 b31 hs)) (by decide) rfl ?_
      refine iconstV X0.here hexec rfl 0 (hb hbytes d34) (by decide) ?_
      exact Steps.refl _)
    exact ⟨s₁, some (.int 0), _, _, _, X0, rfl, rfl, rfl, (fun h => by cases h), ⟨0, rfl, hh0, Or.inr ⟨rfl, fun q => hs q.1⟩⟩, fun fs hl => c3.trans (X0.ireturnOut hexec hret rfl (Or.inr (Or.inl rfl)) (hb hbytes d35) hl)⟩
end LEq
theorem Cod.ty {cd : Int32} {n : Nat} {f : Nat → Int32} {V : Cell} (h : Cod cd n f V) : Typed .byte V := fun i v hv => by
  have hi : i < V.slots.size := (Array.getElem?_eq_some_iff.mp hv).1
  rcases h with ⟨-, k1, k2⟩ | ⟨-, k1, k2, -⟩
  · rw [(k2 i (by omega)).1] at hv; cases hv; exact fits_lo8 _
  · rcases Nat.mod_two_eq_zero_or_one i with e | e
    · obtain ⟨j, rfl⟩ : ∃ j, i = 2 * j := ⟨i / 2, by omega⟩
      rw [(k2 j (by omega)).1] at hv; cases hv; exact fits_lo8 _
    · obtain ⟨j, rfl⟩ : ∃ j, i = 2 * j + 1 := ⟨i / 2, by omega⟩
      rw [(k2 j (by omega)).2] at hv; cases hv; exact fits_lo8 _
/-- the same text -/
def SameT (n : Nat) (f : Nat → Int32) (k : Nat) (g : Nat → Int32) : Prop := n = k ∧ ∀ j, j < n → f j = g j
theorem lo8_inj {x y : Int32} (h0 : ¬ x < 0) (h1 : ¬ 255 < x) (k0 : ¬ y < 0) (k1 : ¬ 255 < y) (h : lo8 x = lo8 y) : x = y := by
  rw [← lo8_mask h0 h1, ← lo8_mask k0 k1, h]
/-- arrays coded by one coder are equal just where the texts are -/
theorem Cod.eqv {cd : Int32} {n k : Nat} {f g : Nat → Int32} {V V' : Cell} (h : Cod cd n f V) (h' : Cod cd k g V') (hf : ∀ j, j < n → ¬ f j < 0 ∧ ¬ 65535 < f j) (hg : ∀ j, j < k → ¬ g j < 0 ∧ ¬ 65535 < g j) : EqC V V' ↔ SameT n f k g := by
  have yvv : ∀ {W : Cell} {i : Nat} {x : Int32}, W.slots[i]? = some (.int x) → yv W i = x := fun q => by unfold yv; rw [q]
  rcases h with ⟨rfl, k1, k2⟩ | ⟨rfl, k1, k2, -⟩
  · rcases h' with ⟨-, m1, m2⟩ | ⟨e, -⟩
    · constructor
      · rintro ⟨e1, e2⟩
        refine ⟨by omega, fun j hj => ?_⟩
        have q := e2 j (by omega)
        rw [yvv (k2 j hj).1, yvv (m2 j (by omega)).1] at q
        exact lo8_inj (hf j hj).1 (k2 j hj).2 (hg j (by omega)).1 (m2 j (by omega)).2 q
      · rintro ⟨rfl, e2⟩
        refine ⟨by omega, fun j hj => ?_⟩
        rw [yvv (k2 j (by omega)).1, yvv (m2 j (by omega)).1, e2 j (by omega)]
    · exact absurd e (by decide)
  · rcases h' with ⟨e, -⟩ | ⟨-, m1, m2, -⟩
    · exact absurd e (by decide)
    · constructor
      · rintro ⟨e1, e2⟩
        refine ⟨by omega, fun j hj => ?_⟩
        have q1 := e2 (2 * j) (by omega)
        have q2 := e2 (2 * j + 1) (by omega)
        rw [yvv (k2 j hj).1, yvv (m2 j (by omega)).1] at q1
        rw [yvv (k2 j hj).2, yvv (m2 j (by omega)).2] at q2
        rw [← pair_says (hf j hj).1 (hf j hj).2, ← pair_says (hg j (by omega)).1 (hg j (by omega)).2, q1, q2]
      · rintro ⟨rfl, e2⟩
        refine ⟨by omega, fun i hi => ?_⟩
        rcases Nat.mod_two_eq_zero_or_one i with e | e
        · obtain ⟨j, rfl⟩ : ∃ j, i = 2 * j := ⟨i / 2, by omega⟩
          rw [yvv (k2 j (by omega)).1, yvv (m2 j (by omega)).1, e2 j (by omega)]
        · obtain ⟨j, rfl⟩ : ∃ j, i = 2 * j + 1 := ⟨i / 2, by omega⟩
          rw [yvv (k2 j (by omega)).2, yvv (m2 j (by omega)).2, e2 j (by omega)]
/-- two codings differ: so do the texts -/
theorem Cod.dif {cd cd' : Int32} {n k : Nat} {f g : Nat → Int32} {V V' : Cell} (h : Cod cd n f V) (h' : Cod cd' k g V') (hne : ¬ cd = cd') : ¬ SameT n f k g := by
  rintro ⟨rfl, e⟩
  rcases h with ⟨rfl, -, k2⟩ | ⟨rfl, -, -, j, hj, hw⟩
  · rcases h' with ⟨rfl, -⟩ | ⟨-, -, -, j, hj, hw⟩
    · exact hne rfl
    · exact (k2 j hj).2 (by rw [e j hj]; exact hw)
  · rcases h' with ⟨-, -, m2⟩ | ⟨rfl, -⟩
    · exact (m2 j hj).2 (by rw [← e j hj]; exact hw)
    · exact hne rfl
/-- an object of exactly C is an instance of C -/
theorem cinst {p : Program} {l : Launch} {e : Env} {R : Room} {s : State} {m : MethodId} {args : Array Value} {below : List Frame} {meth : Method} {c : Code} {T : State} {locs : List Loc} {cells slots : Nat} (X : Stand p l e R s m args below meth c T locs cells slots) (hexec : p.tables.exec = Jvm.exec) {own C : String} {index : Nat} (hown : s.vm.findClass own = some m.cls) (hlink : (Cond.classLink own index C).before args s = true) {a : Addr} (hE : Exact C a T)
    {g : JFrame} (hg : g.method = m) {rest : List Value} (hstack : g.stack = .ref a :: rest) (hdg : decode c.code g.pc = .ok (.instanceof index, 3)) :
    ∃ T', Stand p l e R s m args below meth c T' locs cells slots ∧ T'.heap = T.heap ∧ ∀ target, Steps p.tables e below (T'.setTop { g with pc := g.pc + 3, stack := .int 1 :: rest }) target → Steps p.tables e below (T.setTop g) target := by
  obtain ⟨cB, h1, D, h2, h3, h4⟩ := hE
  have h1' : s.vm.findClass C = some cB := by rw [← X.warmed.alike.findClass]; exact h1
  obtain ⟨vm', X', st⟩ := X.instanceofYes hexec hown hlink h2 h4 h1' (by rw [h3]; exact Jvm.Free.SB.assignable_self _ _) hg hstack hdg
  exact ⟨_, X', rfl, st⟩
theorem cself {p : Program} {l : Launch} {e : Env} {R : Room} {s : State} {m : MethodId} {args : Array Value} {below : List Frame} {meth : Method} {c : Code} {T : State} {locs : List Loc} {cells slots : Nat} (X : Stand p l e R s m args below meth c T locs cells slots) (hexec : p.tables.exec = Jvm.exec) {own C : String} {index : Nat} (hown : s.vm.findClass own = some m.cls) (hlink : (Cond.classLink own index C).before args s = true) {a : Addr} (hE : Exact C a T)
    {g : JFrame} (hg : g.method = m) {rest : List Value} (hstack : g.stack = .ref a :: rest) (hdg : decode c.code g.pc = .ok (.checkcast index, 3)) :
    ∃ T', Stand p l e R s m args below meth c T' locs cells slots ∧ T'.heap = T.heap ∧ ∀ target, Steps p.tables e below (T'.setTop { g with pc := g.pc + 3, stack := .ref a :: rest }) target → Steps p.tables e below (T.setTop g) target := by
  obtain ⟨cB, h1, D, h2, h3, h4⟩ := hE
  have h1' : s.vm.findClass C = some cB := by rw [← X.warmed.alike.findClass]; exact h1
  obtain ⟨vm', X', st⟩ := X.checkcastYes hexec hown hlink h2 h4 h1' (by rw [h3]; exact Jvm.Free.SB.assignable_self _ _) hg hstack hdg
  exact ⟨_, X', rfl, fun t h => st t (by rw [← hstack] at h; exact h)⟩
namespace SEq
def yN : MethodName := ⟨"java/lang/String", "equals", "(Ljava/lang/Object;)Z"⟩
abbrev yB : ByteArray := jdk_42_method_66_code
theorem d0 : decode yB 0 = .ok (.aload_n 0, 1) := by decide +kernel
theorem d1 : decode yB 1 = .ok (.aload_n 1, 1) := by decide +kernel
theorem d2 : decode yB 2 = .ok (.if_acmp (.ne) 5, 3) := by decide +kernel
theorem d5 : decode yB 5 = .ok (.iconst 1, 1) := by decide +kernel
theorem d6 : decode yB 6 = .ok (.ireturn, 1) := by decide +kernel
theorem d7 : decode yB 7 = .ok (.aload_n 1, 1) := by decide +kernel
theorem d8 : decode yB 8 = .ok (.instanceof 10, 3) := by decide +kernel
theorem d11 : decode yB 11 = .ok (.ifCond (.eq) 43, 3) := by decide +kernel
theorem d14 : decode yB 14 = .ok (.aload_n 1, 1) := by decide +kernel
theorem d15 : decode yB 15 = .ok (.checkcast 10, 3) := by decide +kernel
theorem d18 : decode yB 18 = .ok (.astore_n 2, 1) := by decide +kernel
theorem d19 : decode yB 19 = .ok (.getstatic 38, 3) := by decide +kernel
theorem d22 : decode yB 22 = .ok (.ifCond (.eq) 14, 3) := by decide +kernel
theorem d25 : decode yB 25 = .ok (.aload_n 0, 1) := by decide +kernel
theorem d26 : decode yB 26 = .ok (.getfield 15, 3) := by decide +kernel
theorem d29 : decode yB 29 = .ok (.aload_n 2, 1) := by decide +kernel
theorem d30 : decode yB 30 = .ok (.getfield 15, 3) := by decide +kernel
theorem d33 : decode yB 33 = .ok (.if_icmp (.ne) 21, 3) := by decide +kernel
theorem d36 : decode yB 36 = .ok (.aload_n 0, 1) := by decide +kernel
theorem d37 : decode yB 37 = .ok (.getfield 9, 3) := by decide +kernel
theorem d40 : decode yB 40 = .ok (.aload_n 2, 1) := by decide +kernel
theorem d41 : decode yB 41 = .ok (.getfield 9, 3) := by decide +kernel
theorem d44 : decode yB 44 = .ok (.invokestatic 541, 3) := by decide +kernel
theorem d47 : decode yB 47 = .ok (.ifCond (.eq) 7, 3) := by decide +kernel
theorem d50 : decode yB 50 = .ok (.iconst 1, 1) := by decide +kernel
theorem d51 : decode yB 51 = .ok (.goto 4, 3) := by decide +kernel
theorem d54 : decode yB 54 = .ok (.iconst 0, 1) := by decide +kernel
theorem d55 : decode yB 55 = .ok (.ireturn, 1) := by decide +kernel
def site : List Cond := [.classLink "java/lang/String" 10 "java/lang/String", .fieldLink "java/lang/String" 38 "java/lang/String" "COMPACT_STRINGS" "Z", .fieldLink "java/lang/String" 15 "java/lang/String" "coder" "B", .fieldLink "java/lang/String" 9 "java/lang/String" "value" "[B", LEq.tab] ++ staticW "java/lang/String" 541 LEq.yN
def tab : Cond := tabOf yN yB 3 (some .boolean) site
def P (x t : Addr) (V : Cell) (cd : Int32) (n : Nat) (f : Nat → Int32) (y t' : Addr) (V' : Cell) (cd' : Int32) (k : Nat) (g : Nat → Int32) (z : Int32) (args : Array Value) (s : State) : Prop := args = #[.ref x, .ref y] ∧ Txt x t V cd n f s ∧ Txt y t' V' cd' k g s ∧ StaticIs s "java/lang/String" "COMPACT_STRINGS" "Z" (.int z) ∧ ¬ z = 0
/-- equals(Object) of two Strings: whether the texts are the same -/
theorem law (l : Launch) (x t : Addr) (V : Cell) (cd : Int32) (n : Nat) (f : Nat → Int32) (y t' : Addr) (V' : Cell) (cd' : Int32) (k : Nat) (g : Nat → Int32) (z : Int32) : Law l yN 2 1 1 14 yB 3 (some .boolean) site (P x t V cd n f y t' V' cd' k g z) (Says01 (SameT n f k g)) [] 0 0 := by
  refine Law.of_walk (plainFor_of_name (by decide +kernel)) (by decide +kernel) (by decide +kernel) (by decide) (fun _ _ h => by rw [h.1]; rfl) (fun _ U U' hal hh h => ⟨h.1, h.2.1.mv hal hh, h.2.2.1.mv hal hh, h.2.2.2.1.there hal hh, h.2.2.2.2⟩) (fun r U U' V V' h1 hal h2 h => Says01.mv r U U' V V' h1 hal h2 h) ?_
  intro p e s m args below meth c s₁ X0 hexec hbytes hml hret hlk hnm hown hh0 W hP
  obtain ⟨rfl, hx, hy, s1, hz⟩ := hP
  have c1 : Steps p.tables e below (s₁.setTop (entryFrame m #[.ref x, .ref y] 3)) (s₁.setTop (mkF m 2 #[.val (.ref x), .val (.ref y), .unset] [.ref y, .ref x])) := Steps.trans (entry rfl) (by
    show Steps p.tables e below (s₁.setTop (mkF m 0 #[.val (.ref x), .val (.ref y), .unset] [])) _
    refine XS.aloadN X0.here hexec rfl (hb hbytes d0) rfl rfl ?_
    refine XS.aloadN X0.here hexec rfl (hb hbytes d1) rfl rfl ?_
    exact Steps.refl _)
  by_cases hxy : x = y
  · have c2 : Steps p.tables e below (s₁.setTop (entryFrame m #[.ref x, .ref y] 3)) (s₁.setTop (mkF m 6 #[.val (.ref x), .val (.ref y), .unset] [.int 1])) := c1.trans (by
      refine acmpNo X0.here hexec rfl (hb hbytes d2) rfl rfl rfl (by simp [acmp, hxy]) ?_
      refine iconstV X0.here hexec rfl 1 (hb hbytes d5) (by decide) ?_
      exact Steps.refl _)
    subst hxy
    have ec : cd = cd' := by
      obtain ⟨D, fd, a1, a2, a3⟩ := hx.2.2.1
      obtain ⟨D', fd', b1, b2, b3⟩ := hy.2.2.1
      cases a1.symm.trans b1
      obtain ⟨q1, q2, q3, q4⟩ := a2.1
      obtain ⟨r1, r2, r3, r4⟩ := b2.1
      cases q4.symm.trans r4
      cases a3.symm.trans b3; rfl
    have et : t = t' := by
      obtain ⟨D, fd, a1, a2, a3⟩ := hx.2.1
      obtain ⟨D', fd', b1, b2, b3⟩ := hy.2.1
      cases a1.symm.trans b1
      obtain ⟨q1, q2, q3, q4⟩ := a2.1
      obtain ⟨r1, r2, r3, r4⟩ := b2.1
      cases q4.symm.trans r4
      cases a3.symm.trans b3; rfl
    subst ec et
    have ev : V = V' := by cases hx.2.2.2.1.1.symm.trans hy.2.2.2.1.1; rfl
    subst ev
    have hs : SameT n f k g := (Cod.eqv hx.2.2.2.2.1 hy.2.2.2.2.1 hx.2.2.2.2.2 hy.2.2.2.2.2).mp ⟨rfl, fun _ _ => rfl⟩
    exact ⟨s₁, some (.int 1), _, _, _, X0, rfl, rfl, rfl, (fun h => by cases h), ⟨1, rfl, hh0, Or.inl ⟨rfl, hs⟩⟩, fun fs hl => c2.trans (X0.ireturnOut hexec hret rfl (Or.inr (Or.inl rfl)) (hb hbytes d6) hl)⟩
  · have c2 : Steps p.tables e below (s₁.setTop (entryFrame m #[.ref x, .ref y] 3)) (s₁.setTop (mkF m 8 #[.val (.ref x), .val (.ref y), .unset] [.ref y])) := c1.trans (by
      refine acmpYes X0.here hexec rfl (pc0 := 2) rfl (hb hbytes d2) rfl rfl rfl (by simp [acmp, hxy]) (by decide) rfl ?_
      refine XS.aloadN X0.here hexec rfl (hb hbytes d7) rfl rfl ?_
      exact Steps.refl _)
    obtain ⟨T3, X3, q3, st3⟩ := cinst X0 hexec hown (wk W (.classLink "java/lang/String" 10 "java/lang/String")) (hy.mv X0.warmed.alike hh0).1 (g := (mkF m 8 #[.val (.ref x), .val (.ref y), .unset] [.ref y])) rfl (rest := []) rfl (hb hbytes d8)
    have hh3 := q3.trans hh0
    have c4 : Steps p.tables e below (s₁.setTop (entryFrame m #[.ref x, .ref y] 3)) (T3.setTop (mkF m 15 #[.val (.ref x), .val (.ref y), .unset] [.ref y])) := (c2.trans (st3 _ (Steps.refl _))).trans (by
      refine XS.ifNo X3.here hexec rfl (hb hbytes d11) rfl (i0_eq_f (by decide)) ?_
      refine XS.aloadN X3.here hexec rfl (hb hbytes d14) rfl rfl ?_
      exact Steps.refl _)
    obtain ⟨T5, X5, q5, st5⟩ := cself X3 hexec hown (wk W (.classLink "java/lang/String" 10 "java/lang/String")) (hy.mv X3.warmed.alike hh3).1 (g := (mkF m 15 #[.val (.ref x), .val (.ref y), .unset] [.ref y])) rfl (rest := []) rfl (hb hbytes d15)
    have hh5 := q5.trans hh3
    have c6 : Steps p.tables e below (s₁.setTop (entryFrame m #[.ref x, .ref y] 3)) (T5.setTop (mkF m 19 #[.val (.ref x), .val (.ref y), .val (.ref y)] [])) := (c4.trans (st5 _ (Steps.refl _))).trans (by
      refine XS.astoreN X5.here hexec rfl (hb hbytes d18) rfl rfl rfl ?_
      exact Steps.refl _)
    obtain ⟨T7, X7, q7, st7⟩ := X5.sget hexec hown (wk W (.fieldLink "java/lang/String" 38 "java/lang/String" "COMPACT_STRINGS" "Z")) s1 (fun _ _ h => by rw [hh5]; exact h) (g := (mkF m 19 #[.val (.ref x), .val (.ref y), .val (.ref y)] [])) rfl (hb hbytes d19)
    have hh7 := q7.trans hh5
    have c8 : Steps p.tables e below (s₁.setTop (entryFrame m #[.ref x, .ref y] 3)) (T7.setTop (mkF m 26 #[.val (.ref x), .val (.ref y), .val (.ref y)] [.ref x])) := (c6.trans (st7 _ (Steps.refl _))).trans (by
      refine XS.ifNo X7.here hexec rfl (hb hbytes d22) rfl (i0_eq_f hz) ?_
      refine XS.aloadN X7.here hexec rfl (hb hbytes d25) rfl rfl ?_
      exact Steps.refl _)
    obtain ⟨T9, X9, q9, st9⟩ := X7.hget hexec hown (wk W (.fieldLink "java/lang/String" 15 "java/lang/String" "coder" "B")) (hx.mv X7.warmed.alike hh7).2.2.1 (g := (mkF m 26 #[.val (.ref x), .val (.ref y), .val (.ref y)] [.ref x])) rfl (rest := []) rfl (hb hbytes d26)
    have hh9 := q9.trans hh7
    have c10 : Steps p.tables e below (s₁.setTop (entryFrame m #[.ref x, .ref y] 3)) (T9.setTop (mkF m 30 #[.val (.ref x), .val (.ref y), .val (.ref y)] [.ref y, .int cd])) := (c8.trans (st9 _ (Steps.refl _))).trans (by
      refine XS.aloadN X9.here hexec rfl (hb hbytes d29) rfl rfl ?_
      exact Steps.refl _)
    obtain ⟨T11, X11, q11, st11⟩ := X9.hget hexec hown (wk W (.fieldLink "java/lang/String" 15 "java/lang/String" "coder" "B")) (hy.mv X9.warmed.alike hh9).2.2.1 (g := (mkF m 30 #[.val (.ref x), .val (.ref y), .val (.ref y)] [.ref y, .int cd])) rfl (rest := [.int cd]) rfl (hb hbytes d30)
    have hh11 := q11.trans hh9
    have c12 : Steps p.tables e below (s₁.setTop (entryFrame m #[.ref x, .ref y] 3)) (T11.setTop (mkF m 33 #[.val (.ref x), .val (.ref y), .val (.ref y)] [.int cd', .int cd])) := c10.trans (st11 _ (Steps.refl _))
    by_cases hcd : cd = cd'
    · subst hcd
      have c13 : Steps p.tables e below (s₁.setTop (entryFrame m #[.ref x, .ref y] 3)) (T11.setTop (mkF m 37 #[.val (.ref x), .val (.ref y), .val (.ref y)] [.ref x])) := c12.trans (by
        refine XS.icmpNo X11.here hexec rfl (hb hbytes d33) rfl (ii_ne_f rfl) ?_
        refine XS.aloadN X11.here hexec rfl (hb hbytes d36) rfl rfl ?_
        exact Steps.refl _)
      obtain ⟨T14, X14, q14, st14⟩ := X11.hget hexec hown (wk W (.fieldLink "java/lang/String" 9 "java/lang/String" "value" "[B")) (hx.mv X11.warmed.alike hh11).2.1 (g := (mkF m 37 #[.val (.ref x), .val (.ref y), .val (.ref y)] [.ref x])) rfl (rest := []) rfl (hb hbytes d37)
      have hh14 := q14.trans hh11
      have c15 : Steps p.tables e below (s₁.setTop (entryFrame m #[.ref x, .ref y] 3)) (T14.setTop (mkF m 41 #[.val (.ref x), .val (.ref y), .val (.ref y)] [.ref y, .ref t])) := (c13.trans (st14 _ (Steps.refl _))).trans (by
        refine XS.aloadN X14.here hexec rfl (hb hbytes d40) rfl rfl ?_
        exact Steps.refl _)
      obtain ⟨T16, X16, q16, st16⟩ := X14.hget hexec hown (wk W (.fieldLink "java/lang/String" 9 "java/lang/String" "value" "[B")) (hy.mv X14.warmed.alike hh14).2.1 (g := (mkF m 41 #[.val (.ref x), .val (.ref y), .val (.ref y)] [.ref y, .ref t])) rfl (rest := [.ref t]) rfl (hb hbytes d41)
      have hh16 := q16.trans hh14
      have c17 : Steps p.tables e below (s₁.setTop (entryFrame m #[.ref x, .ref y] 3)) (T16.setTop (mkF m 44 #[.val (.ref x), .val (.ref y), .val (.ref y)] [.ref t', .ref t])) := c15.trans (st16 _ (Steps.refl _))
      obtain ⟨v18, T18, X18, E18, g18⟩ := X16.callS hexec (LEq.law l t V t' V') hown (wks W (staticW "java/lang/String" 541 LEq.yN)) (wk W LEq.tab) (W := 0) (Nat.le_of_ble_eq_true rfl) (Nat.le_of_ble_eq_true rfl) (Nat.le_refl _) (Nat.le_refl _) (g := (mkF m 44 #[.val (.ref x), .val (.ref y), .val (.ref y)] [.ref t', .ref t])) rfl (by rw [hml]; rfl) c17 (argsL := [.ref t, .ref t']) (rest := []) rfl rfl (by show 2 * 0 + 0 ≤ _; decide) (hb hbytes d44) (⟨rfl, hx.2.2.2.1.mv X16.warmed.alike hh16, hx.2.2.2.2.1.ty, hy.2.2.2.1.mv X16.warmed.alike hh16, hy.2.2.2.2.1.ty⟩)
      obtain ⟨v, rfl, q18, hv⟩ := E18
      have iff := Cod.eqv hx.2.2.2.2.1 hy.2.2.2.2.1 hx.2.2.2.2.2 hy.2.2.2.2.2
      rcases hv with ⟨rfl, he⟩ | ⟨rfl, he⟩
      · have c19 : Steps p.tables e below (s₁.setTop (entryFrame m #[.ref x, .ref y] 3)) (T18.setTop (mkF m 55 #[.val (.ref x), .val (.ref y), .val (.ref y)] [.int 1])) := Steps.trans g18 (by
          refine XS.ifNo X18.here hexec rfl (hb hbytes d47) rfl (i0_eq_f (by decide)) ?_
          refine iconstV X18.here hexec rfl 1 (hb hbytes d50) (by decide) ?_
          refine XS.goto X18.here hexec rfl (pc0 := 51) rfl (hb hbytes d51) (by decide) rfl ?_
          exact Steps.refl _)
        exact ⟨T18, some (.int 1), _, _, _, X18, rfl, rfl, rfl, (fun h => by cases h), ⟨1, rfl, q18.trans hh16, Or.inl ⟨rfl, iff.mp he⟩⟩, fun fs hl => c19.trans (X18.ireturnOut hexec hret rfl (Or.inr (Or.inl rfl)) (hb hbytes d55) hl)⟩
      · have c19 : Steps p.tables e below (s₁.setTop (entryFrame m #[.ref x, .ref y] 3)) (T18.setTop (mkF m 55 #[.val (.ref x), .val (.ref y), .val (.ref y)] [.int 0])) := Steps.trans g18 (by
          refine XS.ifYes X18.here hexec rfl (pc0 := 47) rfl (hb hbytes d47) rfl (i0_eq_t rfl) (by decide) rfl ?_
          refine iconstV X18.here hexec rfl 0 (hb hbytes d54) (by decide) ?_
          exact Steps.refl _)
        exact ⟨T18, some (.int 0), _, _, _, X18, rfl, rfl, rfl, (fun h => by cases h), ⟨0, rfl, q18.trans hh16, Or.inr ⟨rfl, fun q => he (iff.mpr q)⟩⟩, fun fs hl => c19.trans (X18.ireturnOut hexec hret rfl (Or.inr (Or.inl rfl)) (hb hbytes d55) hl)⟩
    · have c13 : Steps p.tables e below (s₁.setTop (entryFrame m #[.ref x, .ref y] 3)) (T11.setTop (mkF m 55 #[.val (.ref x), .val (.ref y), .val (.ref y)] [.int 0])) := c12.trans (by
        refine XS.icmpYes X11.here hexec rfl (pc0 := 33) rfl (hb hbytes d33) rfl (ii_ne_t hcd) (by decide) rfl ?_
        refine iconstV X11.here hexec rfl 0 (hb hbytes d54) (by decide) ?_
        exact Steps.refl _)
      exact ⟨T11, some (.int 0), _, _, _, X11, rfl, rfl, rfl, (fun h => by cases h), ⟨0, rfl, hh11, Or.inr ⟨rfl, Cod.dif hx.2.2.2.2.1 hy.2.2.2.2.1 hcd⟩⟩, fun fs hl => c13.trans (X11.ireturnOut hexec hret rfl (Or.inr (Or.inl rfl)) (hb hbytes d55) hl)⟩
theorem pays {l : Launch} {R : Room} {p : Program} {e : Env} {below : List Frame} {s : State} {sargs : Array Value} {len W : Nat} (x t : Addr) (V : Cell) (cd : Int32) (n : Nat) (f : Nat → Int32) (y t' : Addr) (V' : Cell) (cd' : Int32) (k : Nat) (g : Nat → Int32) (z : Int32) (htab : tab.before sargs s = true) (hfr : 2 ≤ R.frames) (hlo : W + 28 ≤ R.locals) :
    Back l R p e below s sargs yN len W (fun A₁ a₁ => A₁.cells + 0 ≤ R.cells ∧ A₁.slots + 0 ≤ R.slots ∧ P x t V cd n f y t' V' cd' k g z a₁ A₁.U) (fun A₁ _ v₁ B₁ => Says01 (SameT n f k g) v₁ A₁.U B₁.U ∧ B₁.locs = A₁.locs ++ [] ∧ B₁.cells = A₁.cells + 0 ∧ B₁.slots = A₁.slots + 0) :=
  (law l x t V cd n f y t' V' cd' k g z).pays htab hfr (by omega)
end SEq
end StrChars
namespace StrChars.Road
open Jvm Sem ClassFile Op Lib Jvm.Stand Jvm.Free Jvm.Free.XT
open Jvm.Lib.Cold (StaticIs)
/-- the words of String.equals(Object) -/
abbrev wordsEq : List Jvm.Cond := [.code SEq.yN SEq.yB 3 (some .boolean), .initialized ST, .classLink ST 10 ST, .fieldLink ST 38 ST "COMPACT_STRINGS" "Z", .fieldLink ST 15 ST "coder" "B", .fieldLink ST 9 ST "value" "[B", .methodLink ST 541 LEq.yN, .static LEq.yN, .code LEq.yN LEq.yB 3 (some .boolean), .initialized "java/lang/StringLatin1"]
theorem tabEq_of {a : Array Value} {s : State} (h : ∀ w ∈ wordsEq, w.before a s = true) : SEq.tab.before a s = true := by
  have hl : LEq.tab.before a s = true := unparts (wk h (.code LEq.yN LEq.yB 3 (some .boolean))) (wks h (.initialized LEq.yN.cls :: LEq.site))
  have q := consq hl h
  exact unparts (wk q (.code SEq.yN SEq.yB 3 (some .boolean))) (wks q (.initialized SEq.yN.cls :: SEq.site))
theorem movedEq {Z s : State} {a0 args : Array Value} (hZ : Z.Warmed39 s.vm) (hw : ∀ d ∈ wordsEq, d.before a0 Z = true) : ∀ d ∈ wordsEq, d.before args s = true := fun d hd => by
  have t : ∀ d ∈ wordsEq, (d.onTables && d.keepsFace) = true := by decide +kernel
  exact RoadKit.mv hZ (hw d hd) (t d hd)
/-- the road's facts of a String, as the laws ask it -/
theorem txt_of {Z U : State} {a0 : Array Value} {kI : Nat} (wi : (Jvm.Cond.instantiable ST kI).before a0 Z = true) (al : Z.vm.Alike U.vm) {x t : Addr} {kb : ClassId} {cs : List Int32} {cd N2 : Int32} {vs : List Value} (E : RoadKit.Exa Z U.heap x ST) (V : RoadKit.Fld Z U.heap x ST "value" "[B" (.ref t)) (C : RoadKit.Fld Z U.heap x ST "coder" "B" (.int cd)) (K : RoadKit.Arv Z U.heap t kb .byte N2 vs (.int 0)) (hc : CodA cs cd N2 vs) (hb : ∀ c ∈ cs, ¬ c < 0 ∧ ¬ (65535 : Int32) < c) (l2 : cs.length ≤ 4000) :
    ∃ A, Txt x t A cd cs.length (fun j => cs.getD j 0) U := by
  obtain ⟨A, K1, K2, K3, K4, K5, K6⟩ := K
  have hcod := hc.cod (by omega) K3 K5
  obtain ⟨D, fV, fC, hB, F1, F2, g1, g2, -, -⟩ := strObj wi al E V C
  exact ⟨A, ⟨_, hB.2.2.1, D, hB.1, rfl, by cases q : D.vm <;> first | rfl | exact absurd q (hB.2.1.2 _)⟩, Has.of hB F1 g1, Has.of hB F2 g2, ⟨K1.1, State.isArrayOf_alike al K1.2.1, K1.2.2, by rcases hcod with ⟨-, q, -⟩ | ⟨-, q, -⟩ <;> omega⟩, hcod, fun j hj => by
    have e : cs.getD j 0 = cs[j] := by simp [List.getD_eq_getElem?_getD, hj]
    show ¬ cs.getD j 0 < 0 ∧ ¬ 65535 < cs.getD j 0
    rw [e]; exact hb _ (List.getElem_mem _)⟩
theorem same_list (cs ds : List Int32) : SameT cs.length (fun j => cs.getD j 0) ds.length (fun j => ds.getD j 0) ↔ cs = ds := by
  constructor
  · rintro ⟨e, q⟩
    refine List.ext_getElem e fun j h1 h2 => ?_
    have := q j h1
    simpa [List.getD_eq_getElem?_getD, h1, h2] using this
  · rintro rfl
    exact ⟨rfl, fun _ _ => rfl⟩
/-- **equals(Object) OF TWO SUCH STRINGS**: 1 just where the chars are the same -/
theorem eqW {p : Program} {l : Launch} {e : Env} {R : Room} {s : State} {args : Array Value} {below : List Frame} {len W : Nat} {Z : State} {a0 : Array Value} {h : Heap} (hZ : Z.Warmed39 s.vm) (hw : ∀ d ∈ wordsEq, d.before a0 Z = true) {kI : Nat} (wi : (Jvm.Cond.instantiable ST kI).before a0 Z = true)
    {x t : Addr} {kb : ClassId} {cs : List Int32} {cd N2 : Int32} {vs : List Value} (E : RoadKit.Exa Z h x ST) (V : RoadKit.Fld Z h x ST "value" "[B" (.ref t)) (C : RoadKit.Fld Z h x ST "coder" "B" (.int cd)) (K : RoadKit.Arv Z h t kb .byte N2 vs (.int 0)) (hc : CodA cs cd N2 vs) (hb : ∀ c ∈ cs, ¬ c < 0 ∧ ¬ (65535 : Int32) < c) (l2 : cs.length ≤ 4000)
    {y t' : Addr} {kb' : ClassId} {ds : List Int32} {cd' N2' : Int32} {vs' : List Value} (E' : RoadKit.Exa Z h y ST) (V' : RoadKit.Fld Z h y ST "value" "[B" (.ref t')) (C' : RoadKit.Fld Z h y ST "coder" "B" (.int cd')) (K' : RoadKit.Arv Z h t' kb' .byte N2' vs' (.int 0)) (hc' : CodA ds cd' N2' vs') (hb' : ∀ c ∈ ds, ¬ c < 0 ∧ ¬ (65535 : Int32) < c) (l2' : ds.length ≤ 4000)
    {z : Int32} (S : RoadKit.Sta Z h ST "COMPACT_STRINGS" "Z" (.int z)) (hz : ¬ z = 0) (hfr : 2 ≤ R.frames) (hlo : W + 28 ≤ R.locals) :
    Back l R p e below s args (⟨"java/lang/String", "equals", "(Ljava/lang/Object;)Z"⟩ : MethodName) len W (fun P a => a = #[.ref x, .ref y] ∧ P.U.heap = h ∧ P.cells + 0 ≤ R.cells ∧ P.slots + 0 ≤ R.slots)
      (fun P _ v B => ∃ L, (((v = some (.int 1) ∧ cs = ds) ∨ (v = some (.int 0) ∧ ¬ cs = ds)) ∧ L = [] ∧ B.U.heap = h) ∧ B.locs = P.locs ++ L ∧ B.cells = P.cells + 0 ∧ B.slots = P.slots + 0) := by
  intro m meth c P g ig mk a X hg hsize hdg hW hn hp'
  obtain ⟨rfl, rfl, r1, r2⟩ := hp'
  have al : Z.vm.Alike P.U.vm := hZ.alike.trans X.warmed.alike
  obtain ⟨A, hx⟩ := txt_of wi al E V C K hc hb l2
  obtain ⟨A', hy⟩ := txt_of wi al E' V' C' K' hc' hb' l2'
  obtain ⟨v, B, X', ⟨⟨w, hv, hh, hq⟩, hl, hk, hs⟩, st⟩ := SEq.pays x t A cd cs.length (fun j => cs.getD j 0) y t' A' cd' ds.length (fun j => ds.getD j 0) z (tabEq_of (movedEq hZ hw)) hfr hlo m meth c P g ig mk _ X hg hsize hdg hW hn ⟨r1, r2, rfl, hx, hy, sta_is al S, hz⟩
  refine ⟨v, B, X', ⟨[], ⟨?_, rfl, hh⟩, hl, hk, hs⟩, st⟩
  rcases hq with ⟨rfl, q⟩ | ⟨rfl, q⟩
  · exact Or.inl ⟨hv, (same_list cs ds).mp q⟩
  · exact Or.inr ⟨hv, fun e => q ((same_list cs ds).mpr e)⟩
end StrChars.Road
namespace StrChars
open Jvm Sem ClassFile Op Lib Jvm.Stand Jvm.Free.XT Jvm.Free.ALB Jvm.Free.JM Jvm.Free
open Jvm.Lib.Cold (StaticIs)
namespace ChN
def yN : MethodName := ⟨"java/lang/String", "charAt", "(I)C"⟩
abbrev yB : ByteArray := jdk_42_method_56_code
theorem d0 : decode yB 0 = .ok (.aload_n 0, 1) := by decide +kernel
theorem d1 : decode yB 1 = .ok (.invokevirtual 492, 3) := by decide +kernel
theorem d4 : decode yB 4 = .ok (.ifCond (.eq) 12, 3) := by decide +kernel
theorem d7 : decode yB 7 = .ok (.aload_n 0, 1) := by decide +kernel
theorem d8 : decode yB 8 = .ok (.getfield 9, 3) := by decide +kernel
theorem d11 : decode yB 11 = .ok (.iload_n 1, 1) := by decide +kernel
theorem d12 : decode yB 12 = .ok (.invokestatic 495, 3) := by decide +kernel
theorem d15 : decode yB 15 = .ok (.ireturn, 1) := by decide +kernel
def site : List Cond := [.fieldLink "java/lang/String" 9 "java/lang/String" "value" "[B", IsL.tab, LChA.tab] ++ virtW "java/lang/String" 492 "java/lang/String" IsL.yN IsL.yN ++ staticW "java/lang/String" 495 LChA.yN
def tab : Cond := tabOf yN yB 2 (some .char) site
def P (x t : Addr) (V : Cell) (n : Nat) (f : Nat → Int32) (z : Int32) (fm : Value) (i : Nat) (args : Array Value) (s : State) : Prop := args = #[.ref x, .int (Int32.ofNat i)] ∧ Txt x t V 0 n f s ∧ i < n ∧ StaticIs s "java/lang/String" "COMPACT_STRINGS" "Z" (.int z) ∧ ¬ z = 0 ∧ StaticIs s "jdk/internal/util/Preconditions" "SIOOBE_FORMATTER" "Ljava/util/function/BiFunction;" fm ∧ fm.isRef = true
def E (f : Nat → Int32) (i : Nat) (r : Option Value) (s u : State) : Prop := XT.PureE (some (.int (f i))) r s u
/-- charAt(i) of a Latin-1 String of n chars, i < n: f i -/
theorem law (l : Launch) (x t : Addr) (V : Cell) (n : Nat) (f : Nat → Int32) (z : Int32) (fm : Value) (i : Nat) : Law l yN 2 1 3 40 yB 2 (some .char) site (P x t V n f z fm i) (E f i) [] 0 0 := by
  refine Law.of_walk (plainFor_of_name (by decide +kernel)) (by decide +kernel) (by decide +kernel) (by decide) (fun _ _ h => by rw [h.1]; rfl) (fun _ U U' hal hh h => ⟨h.1, h.2.1.mv hal hh, h.2.2.1, h.2.2.2.1.there hal hh, h.2.2.2.2.1, h.2.2.2.2.2.1.there hal hh, h.2.2.2.2.2.2⟩) (fun r U U' V V' h1 hal h2 h => XT.PureE.mv r U U' V V' h1 hal h2 h) ?_
  intro p e s m args below meth c s₁ X0 hexec hbytes hml hret hlk hnm hown hh0 W hP
  obtain ⟨rfl, hx, hi, s1, hz, s3, rf⟩ := hP
  have v31 := hx.2.2.2.1.2.2.2
  have hr := hx.2.2.2.2.2 i hi
  have hx0 := hx.mv X0.warmed.alike hh0
  have c1 : Steps p.tables e below (s₁.setTop (entryFrame m #[.ref x, .int (Int32.ofNat i)] 2)) (s₁.setTop (mkF m 1 #[.val (.ref x), .val (.int (Int32.ofNat i))] [.ref x])) := Steps.trans (entry rfl) (by
    show Steps p.tables e below (s₁.setTop (mkF m 0 #[.val (.ref x), .val (.int (Int32.ofNat i))] [])) _
    refine XS.aloadN X0.here hexec rfl (hb hbytes d0) rfl rfl ?_
    exact Steps.refl _)
  obtain ⟨v2, T2, X2, E2, g2⟩ := X0.callV hexec (IsL.law l x 0 z) hown (wks W (virtW "java/lang/String" 492 "java/lang/String" IsL.yN IsL.yN)) rfl (by decide) (wk W IsL.tab) (W := 0) (Nat.le_of_ble_eq_true rfl) (Nat.le_of_ble_eq_true rfl) (Nat.le_refl _) (Nat.le_refl _) (hx0.1.fc X0.warmed.alike) hx0.1.is (g := (mkF m 1 #[.val (.ref x), .val (.int (Int32.ofNat i))] [.ref x])) rfl (by rw [hml]; rfl) c1 (argsL := []) (rest := []) rfl rfl (by show 2 * 0 + 0 ≤ _; decide) (hb hbytes d1) (⟨rfl, hx0.2.2.1, hx.2.2.2.2.1.cd, s1.there X0.warmed.alike hh0, hz⟩)
  obtain ⟨rfl, q2⟩ := E2
  have hh2 := q2.trans hh0
  have hx2 := hx.mv X2.warmed.alike hh2
  obtain ⟨-, k1, k2⟩ | ⟨k0, -⟩ := hx.2.2.2.2.1
  · have c3 : Steps p.tables e below (s₁.setTop (entryFrame m #[.ref x, .int (Int32.ofNat i)] 2)) (T2.setTop (mkF m 8 #[.val (.ref x), .val (.int (Int32.ofNat i))] [.ref x])) := Steps.trans g2 (by
      refine XS.ifNo X2.here hexec rfl (hb hbytes d4) rfl (i0_eq_f (by decide)) ?_
      refine XS.aloadN X2.here hexec rfl (hb hbytes d7) rfl rfl ?_
      exact Steps.refl _)
    obtain ⟨T4, X4, q4, st4⟩ := X2.hget hexec hown (wk W (.fieldLink "java/lang/String" 9 "java/lang/String" "value" "[B")) hx2.2.1 (g := (mkF m 8 #[.val (.ref x), .val (.int (Int32.ofNat i))] [.ref x])) rfl (rest := []) rfl (hb hbytes d8)
    have hh4 := q4.trans hh2
    have c5 : Steps p.tables e below (s₁.setTop (entryFrame m #[.ref x, .int (Int32.ofNat i)] 2)) (T4.setTop (mkF m 12 #[.val (.ref x), .val (.int (Int32.ofNat i))] [.int (Int32.ofNat i), .ref t])) := (c3.trans (st4 _ (Steps.refl _))).trans (by
      refine XS.iloadN X4.here hexec rfl (hb hbytes d11) rfl ?_
      exact Steps.refl _)
    obtain ⟨v6, T6, X6, E6, g6⟩ := X4.callS hexec (LChA.law l t V i (lo8 (f i)) fm) hown (wks W (staticW "java/lang/String" 495 LChA.yN)) (wk W LChA.tab) (W := 0) (Nat.le_of_ble_eq_true rfl) (Nat.le_of_ble_eq_true rfl) (Nat.le_refl _) (Nat.le_refl _) (g := (mkF m 12 #[.val (.ref x), .val (.int (Int32.ofNat i))] [.int (Int32.ofNat i), .ref t])) rfl (by rw [hml]; rfl) c5 (argsL := [.ref t, .int (Int32.ofNat i)]) (rest := []) rfl rfl (by show 2 * 0 + 0 ≤ _; decide) (hb hbytes d12) (⟨rfl, hx.2.2.2.1.mv X4.warmed.alike hh4, (k2 i hi).1, s3.there X4.warmed.alike hh4, rf⟩)
    obtain ⟨rfl, q6⟩ := E6
    rw [chr8_lo8 hr.1 (k2 i hi).2] at g6
    exact ⟨T6, some (.int (f i)), _, _, _, X6, rfl, rfl, rfl, (fun h => by cases h), ⟨rfl, q6.trans hh4⟩, fun fs hl => Steps.trans g6 (X6.ireturnOut hexec hret (narrow_ch hr.1 hr.2) (Or.inr (Or.inr (Or.inr (Or.inl rfl)))) (hb hbytes d15) hl)⟩
  · exact absurd k0 (by decide)
theorem pays {l : Launch} {R : Room} {p : Program} {e : Env} {below : List Frame} {s : State} {sargs : Array Value} {len W : Nat} (x t : Addr) (V : Cell) (n : Nat) (f : Nat → Int32) (z : Int32) (fm : Value) (i : Nat) (htab : tab.before sargs s = true) (hfr : 4 ≤ R.frames) (hlo : W + 53 ≤ R.locals) :
    Back l R p e below s sargs yN len W (fun A₁ a₁ => A₁.cells + 0 ≤ R.cells ∧ A₁.slots + 0 ≤ R.slots ∧ P x t V n f z fm i a₁ A₁.U) (fun A₁ _ v₁ B₁ => E f i v₁ A₁.U B₁.U ∧ B₁.locs = A₁.locs ++ [] ∧ B₁.cells = A₁.cells + 0 ∧ B₁.slots = A₁.slots + 0) :=
  (law l x t V n f z fm i).pays htab hfr (by omega)
end ChN
end StrChars
namespace StrChars.Road
open Jvm Sem ClassFile Op Lib Jvm.Stand Jvm.Free Jvm.Free.XT
open Jvm.Lib.Cold (StaticIs)
/-- the words of String.charAt(int), the Latin-1 road alone -/
abbrev wordsChN : List Jvm.Cond := [.code ChN.yN ChN.yB 2 (some .char), .initialized ST, .fieldLink ST 9 ST "value" "[B", .fieldLink ST 38 ST "COMPACT_STRINGS" "Z", .fieldLink ST 15 ST "coder" "B", .code IsL.yN IsL.yB 1 (some .boolean), .methodLink ST 492 IsL.yN, .declares IsL.yN, .selects ST IsL.yN IsL.yN, .instanceMethod IsL.yN,
  .methodLink ST 495 LChA.yN, .static LChA.yN, .code LChA.yN LChA.yB 2 (some .char), .initialized "java/lang/StringLatin1", .methodLink "java/lang/StringLatin1" 9 JO.Str_checkIndex.yN, .static JO.Str_checkIndex.yN, .code JO.Str_checkIndex.yN JO.Str_checkIndex.yB 2 none,
  .fieldLink ST 1053 "jdk/internal/util/Preconditions" "SIOOBE_FORMATTER" "Ljava/util/function/BiFunction;", .methodLink ST 1059 JC.PreCheck.yN, .static JC.PreCheck.yN, .code JC.PreCheck.yN JC.PreCheck.yB 3 (some .int), .initialized "jdk/internal/util/Preconditions"]
theorem tabChN_of {a : Array Value} {s : State} (h : ∀ w ∈ wordsChN, w.before a s = true) : ChN.tab.before a s = true := by
  have hp : JC.PreCheck.tab.before a s = true := unparts (wk h (.code JC.PreCheck.yN JC.PreCheck.yB 3 (some .int))) (wks h (.initialized JC.PreCheck.yN.cls :: JC.PreCheck.site))
  have qk := consq hp h
  have hk : JO.Str_checkIndex.tab.before a s = true := unparts (wk qk (.code JO.Str_checkIndex.yN JO.Str_checkIndex.yB 2 none)) (wks qk (.initialized JO.Str_checkIndex.yN.cls :: JO.Str_checkIndex.site))
  have ql := consq hk h
  have hl : LChA.tab.before a s = true := unparts (wk ql (.code LChA.yN LChA.yB 2 (some .char))) (wks ql (.initialized LChA.yN.cls :: LChA.site))
  have hi : IsL.tab.before a s = true := unparts (wk h (.code IsL.yN IsL.yB 1 (some .boolean))) (wks h (.initialized IsL.yN.cls :: IsL.site))
  have q := consq hi (consq hl h)
  exact unparts (wk q (.code ChN.yN ChN.yB 2 (some .char))) (wks q (.initialized ChN.yN.cls :: ChN.site))
theorem movedChN {Z s : State} {a0 args : Array Value} (hZ : Z.Warmed39 s.vm) (hw : ∀ d ∈ wordsChN, d.before a0 Z = true) : ∀ d ∈ wordsChN, d.before args s = true := fun d hd => by
  have t : ∀ d ∈ wordsChN, (d.onTables && d.keepsFace) = true := by decide +kernel
  exact RoadKit.mv hZ (hw d hd) (t d hd)
/-- **charAt(i) OF A LATIN-1 STRING**, i < n: the char -/
theorem chN {p : Program} {l : Launch} {e : Env} {R : Room} {s : State} {args : Array Value} {below : List Frame} {len W : Nat} {Z : State} {a0 : Array Value} {h : Heap} (hZ : Z.Warmed39 s.vm) (hw : ∀ d ∈ wordsChN, d.before a0 Z = true) {kI : Nat} (wi : (Jvm.Cond.instantiable ST kI).before a0 Z = true)
    {x t : Addr} {kb : ClassId} {cs : List Int32} {N2 z : Int32} {vs : List Value} {fm : Value} {i : Nat} {j : Int32} (E : RoadKit.Exa Z h x ST) (V : RoadKit.Fld Z h x ST "value" "[B" (.ref t)) (C : RoadKit.Fld Z h x ST "coder" "B" (.int 0)) (K : RoadKit.Arv Z h t kb .byte N2 vs (.int 0)) (hc : CodA cs 0 N2 vs) (hb : ∀ c ∈ cs, ¬ c < 0 ∧ ¬ (65535 : Int32) < c)
    (S : RoadKit.Sta Z h ST "COMPACT_STRINGS" "Z" (.int z)) (hz : ¬ z = 0) (F : RoadKit.Sta Z h "jdk/internal/util/Preconditions" "SIOOBE_FORMATTER" "Ljava/util/function/BiFunction;" fm) (rf : fm.isRef = true) (l2 : cs.length ≤ 4000) (hi : i < cs.length) (hj : j = Int32.ofNat i) (hfr : 4 ≤ R.frames) (hlo : W + 53 ≤ R.locals) :
    Back l R p e below s args (⟨"java/lang/String", "charAt", "(I)C"⟩ : MethodName) len W (fun P a => a = #[.ref x, .int j] ∧ P.U.heap = h ∧ P.cells + 0 ≤ R.cells ∧ P.slots + 0 ≤ R.slots)
      (fun P _ v B => ∃ L, (v = some (.int (cs.getD i 0)) ∧ L = [] ∧ B.U.heap = h) ∧ B.locs = P.locs ++ L ∧ B.cells = P.cells + 0 ∧ B.slots = P.slots + 0) := by
  subst hj
  intro m meth c P g ig mk a X hg hsize hdg hW hn hp'
  obtain ⟨rfl, rfl, r1, r2⟩ := hp'
  have al : Z.vm.Alike P.U.vm := hZ.alike.trans X.warmed.alike
  obtain ⟨A, hx⟩ := txt_of wi al E V C K hc hb l2
  obtain ⟨v, B, X', ⟨⟨hv, hh⟩, hl, hk, hs⟩, st⟩ := ChN.pays x t A cs.length (fun j => cs.getD j 0) z fm i (tabChN_of (movedChN hZ hw)) hfr hlo m meth c P g ig mk _ X hg hsize hdg hW hn ⟨r1, r2, rfl, hx, hi, sta_is al S, hz, sta_is al F, rf⟩
  exact ⟨v, B, X', ⟨[], ⟨hv, rfl, hh⟩, hl, hk, hs⟩, st⟩
/-- what backV says of its String, as the contracts of this text ask it: cs's low bytes, coder 0 -/
theorem codOf {cs : List Int32} {n : Nat} (hn : cs.length = n) (hb : ∀ c ∈ cs, ¬ 255 < c) : CodA cs 0 (Int32.ofNat n) ((cs.map lo8).map Value.int) := Or.inl ⟨rfl, by rw [hn], by simp [List.map_map, Function.comp_def], hb⟩
end StrChars.Road
end Jvm.Pilot.@@N@@
namespace Jvm.Pilot.@@N@@
open Jvm Jvm.ClassFile Sem Op Lib Jvm.Free Jvm.Stand Jvm.LawKit Jvm.RoadKit Bundle Jvm.Pilot.@@N@@.Jvm.D
theorem own_eqI {t : Term} {k : Int32} {args : Array Value} {s : State} (h : (Jvm.Cond.eq t (.int k)).value args s none s [] = some true) : t.eval args s none [] s = some (.int k) := by
  cases ht : t.eval args s none [] s with
  | none => simp [Cond.value, ht] at h
  | some x => cases x <;> simp [Cond.value, Term.eval, ht] at h ⊢ <;> exact h
theorem own_up (cs : List Int32) (h : ∀ c ∈ cs, ¬ c < 0 ∧ ¬ (255 : Int32) < c) : ∀ c ∈ cs, ¬ c < 0 ∧ ¬ (65535 : Int32) < c := fun c hc => ⟨(h c hc).1, fun q => (h c hc).2 (by
  rw [Int32.lt_iff_toInt_lt] at q ⊢
  have e1 : (65535 : Int32).toInt = 65535 := rfl
  have e2 : (255 : Int32).toInt = 255 := rfl
  omega)⟩
theorem own_stakeep {Z : State} {h h' : Heap} {C n d : String} {v : Value} (F : Sta Z h C n d v) (K : Keep h h' []) : Sta Z h' C n d v := by
  obtain ⟨cf, i, k, f, st, cell, h1, h2, h3, h4, h5, r⟩ := F
  exact ⟨cf, i, k, f, st, cell, h1, h2, h3, h4, K.2.1 _ _ h5 nin0, r⟩
theorem own_backSH {p : Program} {l : Launch} {e : Env} {R : Room} {s : State} {args : Array Value} {below : List Frame} {Z : State} {a0 : Array Value} {EL : List (String × Nat)} {h : Heap} {vm0 : Vm} {xs : List Addr} {y : MethodName} {bytes : ByteArray} {maxL : Nat} {ret : Option FieldType} {rm : Room} {len W : Nat} {as' : Array Value} {Q : Option Value → Heap → List Loc → Prop}
    (hM : MetFree l y (head1 [Jvm.Cond.code y bytes maxL ret] rm) (fun a U => a = as' ∧ Z.Warmed39 U.vm ∧ U.heap = h ∧ CHv Z EL U.vm h ∧ ∀ x ∈ xs, Safe Z EL U.vm h x) (fun _ _ _ _ _ => True) (fun _ U o U' => ∃ v L, o = .returned v ∧ Q v U'.heap L ∧ CHr Z EL U.vm U.heap U'.vm U'.heap ∧ ReturnedEndW U o U' L rm.cells rm.slots))
    (hZ : Z.Warmed39 vm0) (wc : (Jvm.Cond.code y bytes maxL ret).before a0 Z = true) (wz : (Jvm.Cond.initialized y.cls).before a0 Z = true) (hf : rm.frames + 1 ≤ R.frames) (hl : W + (maxL + 11) + rm.locals ≤ R.locals) (hEL : EW Z a0 EL) (H : CHv Z EL vm0 h) (hxs : ∀ x ∈ xs, x < h.size ∧ Safe Z EL vm0 h x) :
    BackS l R p e below (s.setVm vm0) args y len W (fun A a => a = as' ∧ A.U.heap = h ∧ A.cells + rm.cells ≤ R.cells ∧ A.slots + rm.slots ≤ R.slots)
      (fun A _ v B => ∃ L, Q v B.U.heap L ∧ B.locs = A.locs ++ L ∧ B.cells = A.cells + rm.cells ∧ B.slots = A.slots + rm.slots ∧ CHr Z EL vm0 h B.U.vm B.U.heap) := by
  have ride : ∀ {m meth c} {A : Pt}, Stand p l e R (s.setVm vm0) m args below meth c A.U A.locs A.cells A.slots → CHr Z EL vm0 h A.U.vm h := fun Y => CHv.at Y hZ hEL H
  have warm : ∀ {m meth c} {A : Pt}, Stand p l e R (s.setVm vm0) m args below meth c A.U A.locs A.cells A.slots → Z.Warmed39 A.U.vm := fun Y => wtrans (s := s.setVm vm0) hZ Y.warmed
  refine BackS.of_freeW (bytes := bytes) (maxL := maxL) (ret := ret) (E := fun _ u o t L k n => (k = rm.cells ∧ n = rm.slots) ∧ CHr Z EL u.vm u.heap t.vm t.heap ∧ ∃ v, o = .returned v ∧ Q v t.heap L) hM hf hl ?_ ?_ ?_ ?_ ?_
  · intro m meth c A a Y hp
    refine ⟨?_, mv (warm Y) wc, mv (warm Y) wz, hp.2.2.1, hp.2.2.2⟩
    show (Jvm.Cond.and _ .tt).before a A.U = true
    rw [Cond.before_and, mv (warm Y) wc]
    rfl
  · intro m meth c A a g mk Y hp
    exact ⟨hp.1, warm Y, hp.2.1, (ride Y).1, fun x hx => (ride Y).safe (hxs x hx).1 (hxs x hx).2⟩
  · intro m meth c A a g mk Y hp
    trivial
  · rintro a u o t ⟨v, L, q1, q2, q3, q4⟩
    exact ⟨L, _, _, q4, ⟨rfl, rfl⟩, q3, v, q1, q2⟩
  · rintro m meth c A a g mk v t L k n Y hp - - ⟨⟨rfl, rfl⟩, q3, v', q1, q2⟩
    cases q1
    refine ⟨L, q2, rfl, rfl, rfl, (ride Y).trans ?_⟩
    have e : (A.U.calling g mk a).heap = h := hp.2.1
    rw [e] at q3
    exact q3
theorem own_case {v : Option Value} {P : Prop} (h : (v = some (.int 1) ∧ P) ∨ (v = some (.int 0) ∧ ¬ P)) : ∃ q : Int32, v = some (.int q) ∧ ((q = 1 ∧ P) ∨ (q = 0 ∧ ¬ P)) := by
  rcases h with ⟨h1, h2⟩ | ⟨h1, h2⟩
  · exact ⟨1, h1, Or.inl ⟨rfl, h2⟩⟩
  · exact ⟨0, h1, Or.inr ⟨rfl, h2⟩⟩
theorem own_no {q : Int32} {P : Prop} (h : (q = 1 ∧ P) ∨ (q = 0 ∧ ¬ P)) (z : q = 0) : ¬ P := by
  rcases h with ⟨h1, -⟩ | ⟨-, h2⟩
  · rw [z] at h1; exact absurd h1 (by decide)
  · exact h2
theorem own_yes {q : Int32} {P : Prop} (h : (q = 1 ∧ P) ∨ (q = 0 ∧ ¬ P)) (z : ¬ q = 0) : P := by
  rcases h with ⟨-, h2⟩ | ⟨h1, -⟩
  · exact h2
  · exact absurd h1 z
theorem own_narb {x : Int32} (h : ¬ x < 0 ∧ ¬ (255 : Int32) < x) : ¬ nar .char x < 0 ∧ ¬ (255 : Int32) < nar .char x := by
  have h2 := c_i2c x
  have e : nar .char x = x.toUInt32.toUInt16.toUInt32.toInt32 := rfl
  rw [e]
  simp only [Int32.lt_iff_toInt_lt] at h ⊢
  have e0 : (0 : Int32).toInt = 0 := rfl
  have e1 : (255 : Int32).toInt = 255 := rfl
  omega
theorem own_nars (xs : List Int32) (h : ∀ x ∈ xs, ¬ x < 0 ∧ ¬ (255 : Int32) < x) : ∀ c ∈ xs.map (nar .char), ¬ c < 0 ∧ ¬ (255 : Int32) < c := fun c hc => by
  obtain ⟨x, hx, rfl⟩ := List.mem_map.mp hc
  exact own_narb (h x hx)
theorem own_c8 (z : Int64) : ¬ ((z &&& (255 : Int64)).toInt32).toUInt32.toUInt16.toUInt32.toInt32 < 0 ∧ ¬ (255 : Int32) < ((z &&& (255 : Int64)).toInt32).toUInt32.toUInt16.toUInt32.toInt32 := by
  have h0 : (z &&& (255 : Int64)).toInt = z.toInt % (2 ^ 8 : Nat) := c_maskL z 255 8 (by decide) (by decide)
  have h1 := c_l2i (z &&& 255)
  have h2 := c_i2c (z &&& (255 : Int64)).toInt32
  have r := rng32 (z &&& (255 : Int64)).toInt32
  simp only [Int32.lt_iff_toInt_lt]
  have e0 : (0 : Int32).toInt = 0 := rfl
  have e1 : (255 : Int32).toInt = 255 := rfl
  omega
theorem own_getD {bl : List Int32} (h : ∀ c ∈ bl, ¬ c < 0 ∧ ¬ (255 : Int32) < c) (i : Nat) : ¬ bl.getD i 0 < 0 ∧ ¬ (255 : Int32) < bl.getD i 0 := by
  by_cases q : i < bl.length
  · have e : bl.getD i 0 = bl[i] := by simp [List.getD_eq_getElem?_getD, q]
    rw [e]; exact h _ (List.getElem_mem q)
  · have e : bl.getD i 0 = 0 := by simp [List.getD_eq_getElem?_getD, List.getElem?_eq_none (Nat.le_of_not_lt q)]
    rw [e]; decide
theorem own_eqT {t u : Term} {b : Addr} {args : Array Value} {s : State} (h : (Jvm.Cond.eq t u).value args s none s [] = some true) (hu : u.eval args s none [] s = some (.ref b)) : t.eval args s none [] s = some (.ref b) := by
  cases ht : t.eval args s none [] s with
  | none => simp [Cond.value, ht] at h
  | some x => cases x <;> simp [Cond.value, ht, hu] at h ⊢ <;> exact h
theorem own_len {t : Term} {z : Int32} {args : Array Value} {s : State} {b : Addr} {cl : Cell} {ty : FieldType} (h : (Term.length t).eval args s none [] s = some (.int z)) (ht : t.eval args s none [] s = some (.ref b)) (A : Arr s s.heap b cl ty) : cl.slots.size < 2 ^ 31 ∧ cl.slots.size.toInt32 = z := by
  have ha : s.arrayAt? b = some cl := Arr.fin (State.Warmed39.refl s).alike A
  by_cases hl : cl.slots.size < 2 ^ 31
  · rw [len_f ht ha hl] at h
    exact ⟨hl, Value.int.inj (Option.some.inj h)⟩
  · simp [Term.eval, ht, ha, hl] at h
def own_L : List Int32 := ([108, 105, 115, 116, 101, 100] : List Int32)
def own_S : List Int32 := ([115, 101, 101, 100, 101, 100] : List Int32)
theorem own_Lb : ∀ c ∈ own_L, ¬ c < 0 ∧ ¬ (255 : Int32) < c := by decide
theorem own_Sb : ∀ c ∈ own_S, ¬ c < 0 ∧ ¬ (255 : Int32) < c := by decide
theorem own_Lc : StrChars.Road.CodA own_L 0 (6 : Int32) [(.int (108 : Int32)), (.int (105 : Int32)), (.int (115 : Int32)), (.int (116 : Int32)), (.int (101 : Int32)), (.int (100 : Int32))] := StrChars.Road.codOf (n := 6) rfl (fun c hc => (own_Lb c hc).2)
theorem own_Sc : StrChars.Road.CodA own_S 0 (6 : Int32) [(.int (115 : Int32)), (.int (101 : Int32)), (.int (101 : Int32)), (.int (100 : Int32)), (.int (101 : Int32)), (.int (100 : Int32))] := StrChars.Road.codOf (n := 6) rfl (fun c hc => (own_Sb c hc).2)
def own_named (sl : List Int32) (aL aS : Addr) : Value := if own_L = sl then .ref aL else if own_S = sl then .ref aS else .null
theorem djdk_42_method_149_code_0 : decode jdk_42_method_149_code 0 = .ok (.aload_n 0, 1) := by decide +kernel
theorem djdk_42_method_149_code_1 : decode jdk_42_method_149_code 1 = .ok (.invokespecial 1, 3) := by decide +kernel
theorem djdk_42_method_149_code_4 : decode jdk_42_method_149_code 4 = .ok (.iload_n 3, 1) := by decide +kernel
theorem djdk_42_method_149_code_5 : decode jdk_42_method_149_code 5 = .ok (.ifCond .ne 22, 3) := by decide +kernel
theorem djdk_42_method_149_code_8 : decode jdk_42_method_149_code 8 = .ok (.aload_n 0, 1) := by decide +kernel
theorem djdk_42_method_149_code_9 : decode jdk_42_method_149_code 9 = .ok (.ldc 7, 2) := by decide +kernel
theorem djdk_42_method_149_code_11 : decode jdk_42_method_149_code 11 = .ok (.getfield 9, 3) := by decide +kernel
theorem djdk_42_method_149_code_14 : decode jdk_42_method_149_code 14 = .ok (.putfield 9, 3) := by decide +kernel
theorem djdk_42_method_149_code_17 : decode jdk_42_method_149_code 17 = .ok (.aload_n 0, 1) := by decide +kernel
theorem djdk_42_method_149_code_18 : decode jdk_42_method_149_code 18 = .ok (.ldc 7, 2) := by decide +kernel
theorem djdk_42_method_149_code_20 : decode jdk_42_method_149_code 20 = .ok (.getfield 15, 3) := by decide +kernel
theorem djdk_42_method_149_code_23 : decode jdk_42_method_149_code 23 = .ok (.putfield 15, 3) := by decide +kernel
theorem djdk_42_method_149_code_26 : decode jdk_42_method_149_code 26 = .ok (.return_, 1) := by decide +kernel
theorem ef_rmV (m : MethodId) (x0 : Addr) (x1 : Addr) (x2 : Int32) (x3 : Int32) : entryFrame m #[(.ref x0), (.ref x1), (.int x2), (.int x3), .null] 6 = mkF m 0 #[.val (.ref x0), .val (.ref x1), .val (.int x2), .val (.int x3), .val .null, .unset] [] := by first | (simp [entryFrame, mkF, argsToLocals, Value.category]; done) | rfl
def QV (Z : State) (a1 : Addr) (a2 : Addr) (h0 : Heap) (n0 : Nat) (v : Option Value) (h : Heap) (L : List Loc) : Prop := v = none ∧ Fr n0 L ∧ Keep h0 h [a1] ∧ Exa Z h a1 "java/lang/String" ∧ Fld Z h a1 "java/lang/String" "coder" "B" (.int (0 : Int32)) ∧ ∃ (t : Addr) (kb : ClassId), Fld Z h a1 "java/lang/String" "value" "[B" (.ref t) ∧ Arv Z h t kb .byte (0 : Int32) [] (.int (0 : Int32))
theorem pn_0 : plainName "java/lang/String" = true := by first | (simp [plainName, overriddenIn]; done) | decide +kernel
set_option maxRecDepth 65536 in
set_option maxHeartbeats 40000000 in
theorem rmV (l : Launch) (Z : State) (a0 : Array Value) (hw : ∀ d ∈ tables_1, d.before a0 Z = true) (ws : List Jvm.Cond) (a1 : Addr) (a2 : Addr) (h0 : Heap) (n0 : Nat) (Z0 : n0 ≤ h0.size) (F_value : Fld Z h0 a1 "java/lang/String" "value" "[B" .null) (F_coder : Fld Z h0 a1 "java/lang/String" "coder" "B" (.int (0 : Int32))) (PE1 : Exa Z h0 a1 "java/lang/String") (g1 : n0 ≤ a1) :
    MetFree l (⟨"java/lang/String", "<init>", "([CIILjava/lang/Void;)V"⟩ : MethodName) (head1 (Jvm.Cond.code (⟨"java/lang/String", "<init>", "([CIILjava/lang/Void;)V"⟩ : MethodName) jdk_42_method_149_code 6 none :: ws) ({ frames := 1, cells := 2, slots := 4, locals := 12 } : Room)) (fun a U => a = #[(.ref a1), (.ref a2), (.int (0 : Int32)), (.int (0 : Int32)), .null] ∧ Z.Warmed39 U.vm ∧ U.heap = h0 ∧ CHv Z [("com/example/tabularium/tabularium/record/DealNamedPinLaw", 15), ("com/example/tabularium/tabularium/record/DealNamedPinLaw", 17), ("java/lang/String", 7)] U.vm h0 ∧ ∀ x ∈ [a1], Safe Z [("com/example/tabularium/tabularium/record/DealNamedPinLaw", 15), ("com/example/tabularium/tabularium/record/DealNamedPinLaw", 17), ("java/lang/String", 7)] U.vm h0 x) (fun _ _ _ _ _ => True) (fun _ U o U' => ∃ v L, o = .returned v ∧ QV Z a1 a2 h0 n0 v U'.heap L ∧ CHr Z [("com/example/tabularium/tabularium/record/DealNamedPinLaw", 15), ("com/example/tabularium/tabularium/record/DealNamedPinLaw", 17), ("java/lang/String", 7)] U.vm U.heap U'.vm U'.heap ∧ ReturnedEndW U o U' L ({ frames := 1, cells := 2, slots := 4, locals := 12 } : Room).cells ({ frames := 1, cells := 2, slots := 4, locals := 12 } : Room).slots) := by
  refine MetFree.of_bodySF (plainFor_of_name pn_0) hisR ?_
  intro p e s m args below meth c s₁ Bd hml0 hP hK
  obtain ⟨rfl, hZ, hh, hCH0, hSF0⟩ := hP
  have hx := Bd.exec
  have hby := Bd.bytes
  have hml : c.maxLocals = 6 := hml0
  have hown : s.vm.findClass "java/lang/String" = some m.cls := findClass_of_methodNamed Bd.named
  have hnm := (name_of_methodNamed Bd.named Bd.method).1
  have X0 : Stand p l e ({ frames := 1, cells := 2, slots := 4, locals := 12 } : Room) s m #[(.ref a1), (.ref a2), (.int (0 : Int32)), (.int (0 : Int32)), .null] below meth c s₁ [] 0 0 := Stand.of_body Bd
  have e0 : s₁.heap = h0 := by rw [← hh, Bd.state]; rfl
  have N0 := Fr.nil n0
  have k0 : Go p e below (s₁.setTop (entryFrame m #[(.ref a1), (.ref a2), (.int (0 : Int32)), (.int (0 : Int32)), .null] 6)) (s₁.setTop (mkF m 0 #[.val (.ref a1), .val (.ref a2), .val (.int (0 : Int32)), .val (.int (0 : Int32)), .val .null, .unset] [])) := fun t k => castTop (ef_rmV m a1 a2 (0 : Int32) (0 : Int32)) k
  have hS0 : s.Since s.vm 0 := State.WarmedH.since (State.WarmedH.refl s) 0
  have C0 := CHr.refl hCH0
  have sf_a1 := hSF0 _ (List.mem_of_getElem? (i := 0) rfl)
  have k1 : Go p e below (s₁.setTop (entryFrame m #[(.ref a1), (.ref a2), (.int (0 : Int32)), (.int (0 : Int32)), .null] 6)) (s₁.setTop (mkF m 1 #[.val (.ref a1), .val (.ref a2), .val (.int (0 : Int32)), .val (.int (0 : Int32)), .val .null, .unset] [(.ref a1)])) := fun t kk => k0 t (by
    show Steps p.tables e below (s₁.setTop (mkF m 0 #[.val (.ref a1), .val (.ref a2), .val (.int (0 : Int32)), .val (.int (0 : Int32)), .val .null, .unset] [])) _
    refine XS.aloadN X0.here hx rfl (hb hby djdk_42_method_149_code_0) rfl rfl ?_
    exact kk)
  obtain ⟨T2, X2, e2, st2⟩ := initO X0 hx hZ hown (hw _ (List.mem_of_getElem? (i := 47) rfl)) (hw _ (List.mem_of_getElem? (i := 48) rfl)) (hw _ (List.mem_of_getElem? (i := 49) rfl)) e0 (g := (mkF m 1 #[.val (.ref a1), .val (.ref a2), .val (.int (0 : Int32)), .val (.int (0 : Int32)), .val .null, .unset] [(.ref a1)])) rfl (by rw [hml]; rfl) rfl (hb hby djdk_42_method_149_code_1) (by decide) (W := 0) (by show 2 * 0 + _ ≤ _; exact Nat.le_of_eq rfl) (by decide)
  have k2 : Go p e below (s₁.setTop (entryFrame m #[(.ref a1), (.ref a2), (.int (0 : Int32)), (.int (0 : Int32)), .null] 6)) (T2.setTop (mkF m 4 #[.val (.ref a1), .val (.ref a2), .val (.int (0 : Int32)), .val (.int (0 : Int32)), .val .null, .unset] [])) := fun t kk => k1 t (st2 t kk)
  have k3 : Go p e below (s₁.setTop (entryFrame m #[(.ref a1), (.ref a2), (.int (0 : Int32)), (.int (0 : Int32)), .null] 6)) (T2.setTop (mkF m 9 #[.val (.ref a1), .val (.ref a2), .val (.int (0 : Int32)), .val (.int (0 : Int32)), .val .null, .unset] [(.ref a1)])) := fun t kk => k2 t (by
    show Steps p.tables e below (T2.setTop (mkF m 4 #[.val (.ref a1), .val (.ref a2), .val (.int (0 : Int32)), .val (.int (0 : Int32)), .val .null, .unset] [])) _
    refine XS.iloadN X2.here hx rfl (hb hby djdk_42_method_149_code_4) rfl ?_
    show Steps p.tables e below (T2.setTop (mkF m 5 #[.val (.ref a1), .val (.ref a2), .val (.int (0 : Int32)), .val (.int (0 : Int32)), .val .null, .unset] [(.int (0 : Int32))])) _
    refine XS.ifNo X2.here hx rfl (hb hby djdk_42_method_149_code_5) rfl ((if0 _ _).trans (teq (by decide : (0 : Int32) = (0 : Int32))).2) ?_
    show Steps p.tables e below (T2.setTop (mkF m 8 #[.val (.ref a1), .val (.ref a2), .val (.int (0 : Int32)), .val (.int (0 : Int32)), .val .null, .unset] [])) _
    refine XS.aloadN X2.here hx rfl (hb hby djdk_42_method_149_code_8) rfl rfl ?_
    exact kk)
  have wS0 : ∀ d ∈ Bundle.stringAtoms, d.before a0 Z = true := fun d hd => by
    simp only [Bundle.stringAtoms, Bundle.sN, List.mem_cons, List.not_mem_nil, or_false] at hd
    rcases hd with rfl | rfl | rfl | rfl | rfl | rfl | rfl
    · exact (hw _ (List.mem_of_getElem? (i := 1) rfl))
    · exact (hw _ (List.mem_of_getElem? (i := 2) rfl))
    · exact (hw _ (List.mem_of_getElem? (i := 3) rfl))
    · exact (hw _ (List.mem_of_getElem? (i := 4) rfl))
    · exact (hw _ (List.mem_of_getElem? (i := 5) rfl))
    · exact (hw _ (List.mem_of_getElem? (i := 6) rfl))
    · exact (hw _ (List.mem_of_getElem? (i := 7) rfl))
  have Xb5 : Stand p l e ({ frames := 1, cells := 2, slots := 4, locals := 12 } : Room) (s.setVm s.vm) m #[(.ref a1), (.ref a2), (.int (0 : Int32)), (.int (0 : Int32)), .null] below meth c T2 _ _ _ := X2
  obtain ⟨a4, T4, h4, kn4, b4, kc4, X4, e4, E4, hS4, hk4, hZ4, hown4, xe4, xc4, xv4, V4, -, -, Cn4, lit4, nsf4, st4⟩ := ldcCH (s := s) (vm0 := s.vm) Xb5 hx hZ hown (hw _ (List.mem_of_getElem? (i := 50) rfl)) wS0 e2 hS0 (Nat.zero_le _) (EW.cons (hw _ (List.mem_of_getElem? (i := 60) rfl)) (by decide) (EW.cons (hw _ (List.mem_of_getElem? (i := 0) rfl)) (by decide) (EW.cons (hw _ (List.mem_of_getElem? (i := 50) rfl)) (by decide) EW.nil))) (List.mem_of_getElem? (i := 2) rfl) C0.1 (vs := []) (z := 0) ⟨by decide, by decide⟩ (by decide) rfl (g := (mkF m 9 #[.val (.ref a1), .val (.ref a2), .val (.int (0 : Int32)), .val (.int (0 : Int32)), .val .null, .unset] [(.ref a1)])) rfl (hb hby djdk_42_method_149_code_9) (n := 0) (by decide) (by decide) (by decide) (by decide)
  have sf4_a1 := CHr.safe Cn4 F_value.lt sf_a1
  have C4 := C0.trans Cn4
  have f6 := F_value.ext E4
  have f7 := F_coder.ext E4
  have f8 := PE1.ext E4
  have K4 := ((Keep.refl h0 [a1])).ext E4
  have Zs4 : n0 ≤ h4.size := Nat.le_trans Z0 E4.1
  have k4 : Go p e below (s₁.setTop (entryFrame m #[(.ref a1), (.ref a2), (.int (0 : Int32)), (.int (0 : Int32)), .null] 6)) (T4.setTop (mkF m 11 #[.val (.ref a1), .val (.ref a2), .val (.int (0 : Int32)), .val (.int (0 : Int32)), .val .null, .unset] [(.ref a4), (.ref a1)])) := fun t kk => k3 t (st4 t kk)
  obtain ⟨T9, X9, e9, st9⟩ := getF X4 hx hZ4 hown4 (host := "") (Or.inl (hw _ (List.mem_of_getElem? (i := 25) rfl))) Via.refl e4 xv4 (g := (mkF m 11 #[.val (.ref a1), .val (.ref a2), .val (.int (0 : Int32)), .val (.int (0 : Int32)), .val .null, .unset] [(.ref a4), (.ref a1)])) rfl rfl (hb hby djdk_42_method_149_code_11)
  have k9 : Go p e below (s₁.setTop (entryFrame m #[(.ref a1), (.ref a2), (.int (0 : Int32)), (.int (0 : Int32)), .null] 6)) (T9.setTop (mkF m 14 #[.val (.ref a1), .val (.ref a2), .val (.int (0 : Int32)), .val (.int (0 : Int32)), .val .null, .unset] [(.ref b4), (.ref a1)])) := fun t kk => k4 t (st9 t kk)
  obtain ⟨T10, h10, X10, e10, W10, st10⟩ := putF X9 hx hZ4 hown4 (host := "") (Or.inl (hw _ (List.mem_of_getElem? (i := 25) rfl))) Via.refl e9 f6 f8 (Or.inr ⟨(hw _ (List.mem_of_getElem? (i := 4) rfl)), rfl, hnm⟩) (hw _ (List.mem_of_getElem? (i := 2) rfl)) (ty := (.array .byte)) (by decide) rfl rfl (g := (mkF m 14 #[.val (.ref a1), .val (.ref a2), .val (.int (0 : Int32)), .val (.int (0 : Int32)), .val .null, .unset] [(.ref b4), (.ref a1)])) rfl rfl (hb hby djdk_42_method_149_code_14)
  have N10 := Fr.snoc X10 N0 g1
  have hku10 := Nat.le_trans hk4 (Keep.of_wr W10).1
  have sf10_a1 := Safe.wr W10 sf4_a1 C4.1 sf4_a1
  have C10 := C4.trans (CHr.wr W10 sf4_a1 C4.1)
  have f11 := f6.same W10
  have f12 := f7.other W10 (Or.inr (slot_ne (Or.inr (hw _ (List.mem_of_getElem? (i := 5) rfl))) (Or.inr (hw _ (List.mem_of_getElem? (i := 4) rfl))) (by decide) (t := .byte) (t' := (.array .byte)) (by decide) (by decide)))
  have f13 := f8.wr W10
  have f14 := xe4.wr W10
  have f15 := xc4.other W10 (Or.inl (Ne.symm (nsf4 _ sf4_a1).1))
  have f16 := xv4.other W10 (Or.inl (Ne.symm (nsf4 _ sf4_a1).1))
  have f17 := V4.other W10 (Ne.symm (nsf4 _ sf4_a1).2)
  have K10 := (K4).wr W10 (Or.inl (List.mem_of_getElem? (i := 0) rfl))
  have Zs10 : n0 ≤ h10.size := Nat.le_trans Zs4 (Keep.of_wr W10).1
  have k10 : Go p e below (s₁.setTop (entryFrame m #[(.ref a1), (.ref a2), (.int (0 : Int32)), (.int (0 : Int32)), .null] 6)) (T10.setTop (mkF m 17 #[.val (.ref a1), .val (.ref a2), .val (.int (0 : Int32)), .val (.int (0 : Int32)), .val .null, .unset] [])) := fun t kk => k9 t (st10 t kk)
  have k18 : Go p e below (s₁.setTop (entryFrame m #[(.ref a1), (.ref a2), (.int (0 : Int32)), (.int (0 : Int32)), .null] 6)) (T10.setTop (mkF m 18 #[.val (.ref a1), .val (.ref a2), .val (.int (0 : Int32)), .val (.int (0 : Int32)), .val .null, .unset] [(.ref a1)])) := fun t kk => k10 t (by
    show Steps p.tables e below (T10.setTop (mkF m 17 #[.val (.ref a1), .val (.ref a2), .val (.int (0 : Int32)), .val (.int (0 : Int32)), .val .null, .unset] [])) _
    refine XS.aloadN X10.here hx rfl (hb hby djdk_42_method_149_code_17) rfl rfl ?_
    exact kk)
  have Xb20 : Stand p l e ({ frames := 1, cells := 2, slots := 4, locals := 12 } : Room) (s.setVm T4.vm) m #[(.ref a1), (.ref a2), (.int (0 : Int32)), (.int (0 : Int32)), .null] below meth c T10 _ _ _ := X10
  have k21 : Go p e below (s₁.setTop (entryFrame m #[(.ref a1), (.ref a2), (.int (0 : Int32)), (.int (0 : Int32)), .null] 6)) (T10.setTop (mkF m 20 #[.val (.ref a1), .val (.ref a2), .val (.int (0 : Int32)), .val (.int (0 : Int32)), .val .null, .unset] [(.ref a4), (.ref a1)])) := fun t kk => k18 t (by
    show Steps p.tables e below (T10.setTop (mkF m 18 #[.val (.ref a1), .val (.ref a2), .val (.int (0 : Int32)), .val (.int (0 : Int32)), .val .null, .unset] [(.ref a1)])) _
    refine ldcAgain Xb20 hx hZ4 hown4 (hw _ (List.mem_of_getElem? (i := 50) rfl)) lit4 (g := (mkF m 18 #[.val (.ref a1), .val (.ref a2), .val (.int (0 : Int32)), .val (.int (0 : Int32)), .val .null, .unset] [(.ref a1)])) rfl (hb hby djdk_42_method_149_code_18) _ ?_
    exact kk)
  obtain ⟨T22, X22, e22, st22⟩ := getF X10 hx hZ4 hown4 (host := "") (Or.inl (hw _ (List.mem_of_getElem? (i := 24) rfl))) Via.refl e10 f15 (g := (mkF m 20 #[.val (.ref a1), .val (.ref a2), .val (.int (0 : Int32)), .val (.int (0 : Int32)), .val .null, .unset] [(.ref a4), (.ref a1)])) rfl rfl (hb hby djdk_42_method_149_code_20)
  have k22 : Go p e below (s₁.setTop (entryFrame m #[(.ref a1), (.ref a2), (.int (0 : Int32)), (.int (0 : Int32)), .null] 6)) (T22.setTop (mkF m 23 #[.val (.ref a1), .val (.ref a2), .val (.int (0 : Int32)), .val (.int (0 : Int32)), .val .null, .unset] [(.int (0 : Int32)), (.ref a1)])) := fun t kk => k21 t (st22 t kk)
  obtain ⟨T23, h23, X23, e23, W23, st23⟩ := putF X22 hx hZ4 hown4 (host := "") (Or.inl (hw _ (List.mem_of_getElem? (i := 24) rfl))) Via.refl e22 f12 f13 (Or.inr ⟨(hw _ (List.mem_of_getElem? (i := 5) rfl)), rfl, hnm⟩) (hw _ (List.mem_of_getElem? (i := 2) rfl)) (ty := .byte) (by decide) rfl rfl (g := (mkF m 23 #[.val (.ref a1), .val (.ref a2), .val (.int (0 : Int32)), .val (.int (0 : Int32)), .val .null, .unset] [(.int (0 : Int32)), (.ref a1)])) rfl rfl (hb hby djdk_42_method_149_code_23)
  have N23 := Fr.snoc X23 N10 g1
  have hku23 := Nat.le_trans hku10 (Keep.of_wr W23).1
  have sf23_a1 := Safe.wr W23 sf10_a1 C10.1 sf10_a1
  have C23 := C10.trans (CHr.wr W23 sf10_a1 C10.1)
  have f24 := f11.other W23 (Or.inr (slot_ne (Or.inr (hw _ (List.mem_of_getElem? (i := 4) rfl))) (Or.inr (hw _ (List.mem_of_getElem? (i := 5) rfl))) (by decide) (t := (.array .byte)) (t' := .byte) (by decide) (by decide)))
  have f25 := f12.same W23
  have f26 := f13.wr W23
  have f27 := f14.wr W23
  have f28 := f15.other W23 (Or.inl (Ne.symm (nsf4 _ sf4_a1).1))
  have f29 := f16.other W23 (Or.inl (Ne.symm (nsf4 _ sf4_a1).1))
  have f30 := f17.other W23 (Ne.symm (nsf4 _ sf4_a1).2)
  have K23 := (K10).wr W23 (Or.inl (List.mem_of_getElem? (i := 0) rfl))
  have Zs23 : n0 ≤ h23.size := Nat.le_trans Zs10 (Keep.of_wr W23).1
  have k23 : Go p e below (s₁.setTop (entryFrame m #[(.ref a1), (.ref a2), (.int (0 : Int32)), (.int (0 : Int32)), .null] 6)) (T23.setTop (mkF m 26 #[.val (.ref a1), .val (.ref a2), .val (.int (0 : Int32)), .val (.int (0 : Int32)), .val .null, .unset] [])) := fun t kk => k22 t (st23 t kk)
  have Xb32 : Stand p l e ({ frames := 1, cells := 2, slots := 4, locals := 12 } : Room) (s.setVm T4.vm) m #[(.ref a1), (.ref a2), (.int (0 : Int32)), (.int (0 : Int32)), .null] below meth c T23 _ _ _ := X23
  obtain ⟨fs, hr, hrun, hended, hW⟩ := leaveW Xb32 hS4 (by rw [e23]; exact hku23) (v := none) (fun _ => rfl)
  refine ⟨_, _, k23 _ ?_, hrun, hended, _, _, rfl, ?_, ?_, hW.1, hW.2.1, hW.2.2.1, hW.2.2.2.mono (by decide) (by decide)⟩
  · show Steps p.tables e below (T23.setTop (mkF m 26 #[.val (.ref a1), .val (.ref a2), .val (.int (0 : Int32)), .val (.int (0 : Int32)), .val .null, .unset] [])) _
    exact X23.returnOut hx Bd.returns (hb hby djdk_42_method_149_code_26) hr
  · show QV Z a1 a2 h0 n0 _ T23.heap _
    rw [e23]
    exact ⟨rfl, N23, K23, f26, f25, b4, _, f24, f30⟩
  · show CHr Z [("com/example/tabularium/tabularium/record/DealNamedPinLaw", 15), ("com/example/tabularium/tabularium/record/DealNamedPinLaw", 17), ("java/lang/String", 7)] s.vm s.heap T23.vm T23.heap
    rw [hh, e23]
    exact C23.trans (CHv.at Xb32 hZ4 (EW.cons (hw _ (List.mem_of_getElem? (i := 60) rfl)) (by decide) (EW.cons (hw _ (List.mem_of_getElem? (i := 0) rfl)) (by decide) (EW.cons (hw _ (List.mem_of_getElem? (i := 50) rfl)) (by decide) EW.nil))) C23.1)
theorem djdk_42_method_3_code_0 : decode jdk_42_method_3_code 0 = .ok (.aload_n 0, 1) := by decide +kernel
theorem djdk_42_method_3_code_1 : decode jdk_42_method_3_code 1 = .ok (.aload_n 1, 1) := by decide +kernel
theorem djdk_42_method_3_code_2 : decode jdk_42_method_3_code 2 = .ok (.iconst 0, 1) := by decide +kernel
theorem djdk_42_method_3_code_3 : decode jdk_42_method_3_code 3 = .ok (.aload_n 1, 1) := by decide +kernel
theorem djdk_42_method_3_code_4 : decode jdk_42_method_3_code 4 = .ok (.arraylength, 1) := by decide +kernel
theorem djdk_42_method_3_code_5 : decode jdk_42_method_3_code 5 = .ok (.aconst_null, 1) := by decide +kernel
theorem djdk_42_method_3_code_6 : decode jdk_42_method_3_code 6 = .ok (.invokespecial 27, 3) := by decide +kernel
theorem pd_0 : parseMethodDescriptor "([CIILjava/lang/Void;)V" = some ⟨[(.array .char), .int, .int, (.object "java/lang/Void")], none⟩ := by decide +kernel
theorem djdk_42_method_3_code_9 : decode jdk_42_method_3_code 9 = .ok (.return_, 1) := by decide +kernel
theorem ef_rmC (m : MethodId) (x0 : Addr) (x1 : Addr) : entryFrame m #[(.ref x0), (.ref x1)] 2 = mkF m 0 #[.val (.ref x0), .val (.ref x1)] [] := by first | (simp [entryFrame, mkF, argsToLocals, Value.category]; done) | rfl
def QC (Z : State) (a1 : Addr) (a2 : Addr) (kc : ClassId) (h0 : Heap) (n0 : Nat) (v : Option Value) (h : Heap) (L : List Loc) : Prop := v = none ∧ Fr n0 L ∧ Keep h0 h [a1] ∧ Exa Z h a1 "java/lang/String" ∧ Fld Z h a1 "java/lang/String" "coder" "B" (.int (0 : Int32)) ∧ ∃ (t : Addr) (kb : ClassId), Fld Z h a1 "java/lang/String" "value" "[B" (.ref t) ∧ Arv Z h t kb .byte (0 : Int32) [] (.int (0 : Int32))
set_option maxRecDepth 65536 in
set_option maxHeartbeats 40000000 in
theorem rmC (l : Launch) (Z : State) (a0 : Array Value) (hw : ∀ d ∈ tables_1, d.before a0 Z = true) (ws : List Jvm.Cond) (a1 : Addr) (a2 : Addr) (kc : ClassId) (h0 : Heap) (n0 : Nat) (Z0 : n0 ≤ h0.size) (F_value : Fld Z h0 a1 "java/lang/String" "value" "[B" .null) (F_coder : Fld Z h0 a1 "java/lang/String" "coder" "B" (.int (0 : Int32))) (PE1 : Exa Z h0 a1 "java/lang/String") (g1 : n0 ≤ a1) (PA2 : Arv Z h0 a2 kc .char (0 : Int32) [] (.int (0 : Int32))) :
    MetFree l (⟨"java/lang/String", "<init>", "([C)V"⟩ : MethodName) (head1 (Jvm.Cond.code (⟨"java/lang/String", "<init>", "([C)V"⟩ : MethodName) jdk_42_method_3_code 2 none :: ws) ({ frames := 2, cells := 2, slots := 4, locals := 29 } : Room)) (fun a U => a = #[(.ref a1), (.ref a2)] ∧ Z.Warmed39 U.vm ∧ U.heap = h0 ∧ CHv Z [("com/example/tabularium/tabularium/record/DealNamedPinLaw", 15), ("com/example/tabularium/tabularium/record/DealNamedPinLaw", 17), ("java/lang/String", 7)] U.vm h0 ∧ ∀ x ∈ [a1], Safe Z [("com/example/tabularium/tabularium/record/DealNamedPinLaw", 15), ("com/example/tabularium/tabularium/record/DealNamedPinLaw", 17), ("java/lang/String", 7)] U.vm h0 x) (fun _ _ _ _ _ => True) (fun _ U o U' => ∃ v L, o = .returned v ∧ QC Z a1 a2 kc h0 n0 v U'.heap L ∧ CHr Z [("com/example/tabularium/tabularium/record/DealNamedPinLaw", 15), ("com/example/tabularium/tabularium/record/DealNamedPinLaw", 17), ("java/lang/String", 7)] U.vm U.heap U'.vm U'.heap ∧ ReturnedEndW U o U' L ({ frames := 2, cells := 2, slots := 4, locals := 29 } : Room).cells ({ frames := 2, cells := 2, slots := 4, locals := 29 } : Room).slots) := by
  refine MetFree.of_bodySF (plainFor_of_name pn_0) hisR ?_
  intro p e s m args below meth c s₁ Bd hml0 hP hK
  obtain ⟨rfl, hZ, hh, hCH0, hSF0⟩ := hP
  have hx := Bd.exec
  have hby := Bd.bytes
  have hml : c.maxLocals = 2 := hml0
  have hown : s.vm.findClass "java/lang/String" = some m.cls := findClass_of_methodNamed Bd.named
  have hnm := (name_of_methodNamed Bd.named Bd.method).1
  have X0 : Stand p l e ({ frames := 2, cells := 2, slots := 4, locals := 29 } : Room) s m #[(.ref a1), (.ref a2)] below meth c s₁ [] 0 0 := Stand.of_body Bd
  have e0 : s₁.heap = h0 := by rw [← hh, Bd.state]; rfl
  have N0 := Fr.nil n0
  have k0 : Go p e below (s₁.setTop (entryFrame m #[(.ref a1), (.ref a2)] 2)) (s₁.setTop (mkF m 0 #[.val (.ref a1), .val (.ref a2)] [])) := fun t k => castTop (ef_rmC m a1 a2) k
  have ne21 : a2 ≠ a1 := fun q => Exa.neArv PE1 PA2 (hw _ (List.mem_of_getElem? (i := 2) rfl)) q.symm
  have hS0 : s.Since s.vm 0 := State.WarmedH.since (State.WarmedH.refl s) 0
  have C0 := CHr.refl hCH0
  have sf_a1 := hSF0 _ (List.mem_of_getElem? (i := 0) rfl)
  obtain ⟨cl1, Ar1, -, S1, G1, -, -⟩ := id PA2
  have k2 : Go p e below (s₁.setTop (entryFrame m #[(.ref a1), (.ref a2)] 2)) (s₁.setTop (mkF m 6 #[.val (.ref a1), .val (.ref a2)] [.null, (.int (0 : Int32)), (.int (0 : Int32)), (.ref a2), (.ref a1)])) := fun t kk => k0 t (by
    show Steps p.tables e below (s₁.setTop (mkF m 0 #[.val (.ref a1), .val (.ref a2)] [])) _
    refine XS.aloadN X0.here hx rfl (hb hby djdk_42_method_3_code_0) rfl rfl ?_
    show Steps p.tables e below (s₁.setTop (mkF m 1 #[.val (.ref a1), .val (.ref a2)] [(.ref a1)])) _
    refine XS.aloadN X0.here hx rfl (hb hby djdk_42_method_3_code_1) rfl rfl ?_
    show Steps p.tables e below (s₁.setTop (mkF m 2 #[.val (.ref a1), .val (.ref a2)] [(.ref a2), (.ref a1)])) _
    refine XS.iconst X0.here hx rfl (hb hby djdk_42_method_3_code_2) ?_
    show Steps p.tables e below (s₁.setTop (mkF m 3 #[.val (.ref a1), .val (.ref a2)] [(.int (0 : Int32)), (.ref a2), (.ref a1)])) _
    refine XS.aloadN X0.here hx rfl (hb hby djdk_42_method_3_code_3) rfl rfl ?_
    show Steps p.tables e below (s₁.setTop (mkF m 4 #[.val (.ref a1), .val (.ref a2)] [(.ref a2), (.int (0 : Int32)), (.ref a2), (.ref a1)])) _
    refine X0.arraylength hx (by rw [e0]; exact Ar1.1) (State.isArrayOf_alike hZ.alike Ar1.2.1) (g := (mkF m 4 #[.val (.ref a1), .val (.ref a2)] [(.ref a2), (.int (0 : Int32)), (.ref a2), (.ref a1)])) rfl rfl (hb hby djdk_42_method_3_code_4) _ ?_
    rw [len_of S1 G1]
    show Steps p.tables e below (s₁.setTop (mkF m 5 #[.val (.ref a1), .val (.ref a2)] [(.int (0 : Int32)), (.int (0 : Int32)), (.ref a2), (.ref a1)])) _
    refine XS.aconstNull X0.here hx rfl (hb hby djdk_42_method_3_code_5) ?_
    exact kk)
  have Xb4 : Stand p l e ({ frames := 2, cells := 2, slots := 4, locals := 29 } : Room) (s.setVm s.vm) m #[(.ref a1), (.ref a2)] below meth c s₁ _ _ _ := X0
  obtain ⟨_, _, ⟨T3, L3, kx3, nx3⟩, -, Xq3, hSq3, hgr3, ⟨Lc3, hQ3, l3, y3, z3, Cq3⟩, st3⟩ := Xb4.specialBackS hx (y := (⟨"java/lang/String", "<init>", "([CIILjava/lang/Void;)V"⟩ : MethodName)) rfl hown (mvT hZ (hw _ (List.mem_of_getElem? (i := 43) rfl))) (mvT hZ (hw _ (List.mem_of_getElem? (i := 44) rfl))) (mvT hZ (hw _ (List.mem_of_getElem? (i := 46) rfl))) (by decide) (own_backSH (s := s) (W := 0) (xs := [a1]) (rmV l Z a0 hw [] a1 a2 h0 n0 Z0 F_value F_coder PE1 g1) hZ (hw _ (List.mem_of_getElem? (i := 46) rfl)) (hw _ (List.mem_of_getElem? (i := 1) rfl)) (by decide) (by decide) (EW.cons (hw _ (List.mem_of_getElem? (i := 60) rfl)) (by decide) (EW.cons (hw _ (List.mem_of_getElem? (i := 0) rfl)) (by decide) (EW.cons (hw _ (List.mem_of_getElem? (i := 50) rfl)) (by decide) EW.nil))) C0.1 (allS ⟨F_value.lt, sf_a1⟩ all0)) (g := (mkF m 6 #[.val (.ref a1), .val (.ref a2)] [.null, (.int (0 : Int32)), (.int (0 : Int32)), (.ref a2), (.ref a1)])) rfl (by rw [hml]; rfl) (Steps.refl _) (a := a1) (argsL := [(.ref a2), (.int (0 : Int32)), (.int (0 : Int32)), .null]) (rest := []) (lenOf pd_0 rfl) rfl (by show 2 * 0 + _ ≤ _; exact Nat.le_of_eq rfl) (hb hby djdk_42_method_3_code_6) (fun _ _ => ⟨rfl, e0, (by decide : 0 + 2 ≤ _), (by decide : 0 + 4 ≤ _)⟩)
  dsimp only [Pt.U, Pt.locs, Pt.cells, Pt.slots] at Xq3 l3 y3 z3 st3 hQ3 hSq3 hgr3 Cq3
  subst l3 y3 z3
  obtain ⟨X3, hS3, hZ3, hown3⟩ := rebS (s := s) (vm0 := s.vm) hS0 (by rw [e0]; exact (Nat.zero_le _)) Xq3 hSq3 hgr3 hZ hown
  obtain ⟨rfl, N3q, K3q, x3_e, x3_c, t3, kb3, x3_v, x3_a⟩ := hQ3
  have N3 := Fr.app N0 N3q
  have f5 := PA2.keep K3q (ninS ne21 nin0)
  have K3 := ((Keep.refl h0 [a1])).trans K3q (allS (Or.inl (List.mem_of_getElem? (i := 0) rfl)) all0)
  have Zs3 : n0 ≤ T3.heap.size := Nat.le_trans Z0 K3q.1
  have hkr3 : T3.heap.size ≤ T3.heap.size := Nat.le_refl _
  have sf3_a1 := CHr.safe Cq3 F_value.lt sf_a1
  have C3 := C0.trans Cq3
  have k3 : Go p e below (s₁.setTop (entryFrame m #[(.ref a1), (.ref a2)] 2)) (T3.setTop (mkF m 9 #[.val (.ref a1), .val (.ref a2)] [])) := fun t kk => k2 t (st3.trans kk)
  have Xb7 : Stand p l e ({ frames := 2, cells := 2, slots := 4, locals := 29 } : Room) (s.setVm T3.vm) m #[(.ref a1), (.ref a2)] below meth c T3 _ _ _ := X3
  obtain ⟨fs, hr, hrun, hended, hW⟩ := leaveW Xb7 hS3 hkr3 (v := none) (fun _ => rfl)
  refine ⟨_, _, k3 _ ?_, hrun, hended, _, _, rfl, ?_, ?_, hW.1, hW.2.1, hW.2.2.1, hW.2.2.2.mono (by decide) (by decide)⟩
  · show Steps p.tables e below (T3.setTop (mkF m 9 #[.val (.ref a1), .val (.ref a2)] [])) _
    exact X3.returnOut hx Bd.returns (hb hby djdk_42_method_3_code_9) hr
  · show QC Z a1 a2 kc h0 n0 _ T3.heap _
    exact ⟨rfl, N3, K3, x3_e, x3_c, t3, _, x3_v, x3_a⟩
  · show CHr Z [("com/example/tabularium/tabularium/record/DealNamedPinLaw", 15), ("com/example/tabularium/tabularium/record/DealNamedPinLaw", 17), ("java/lang/String", 7)] s.vm s.heap T3.vm T3.heap
    rw [hh]
    exact C3.trans (CHv.at Xb7 hZ3 (EW.cons (hw _ (List.mem_of_getElem? (i := 60) rfl)) (by decide) (EW.cons (hw _ (List.mem_of_getElem? (i := 0) rfl)) (by decide) (EW.cons (hw _ (List.mem_of_getElem? (i := 50) rfl)) (by decide) EW.nil))) C3.1)
theorem dmethod_2_code_0 : decode method_2_code 0 = .ok (.iload_n 2, 1) := by decide +kernel
theorem dmethod_2_code_1 : decode method_2_code 1 = .ok (.iload_n 1, 1) := by decide +kernel
theorem dmethod_2_code_2 : decode method_2_code 2 = .ok (.iushr, 1) := by decide +kernel
theorem dmethod_2_code_3 : decode method_2_code 3 = .ok (.iconst 1, 1) := by decide +kernel
theorem dmethod_2_code_4 : decode method_2_code 4 = .ok (.iand, 1) := by decide +kernel
theorem dmethod_2_code_5 : decode method_2_code 5 = .ok (.ifCond .eq 16, 3) := by decide +kernel
theorem dmethod_2_code_21 : decode method_2_code 21 = .ok (.aload_n 0, 1) := by decide +kernel
theorem dmethod_2_code_22 : decode method_2_code 22 = .ok (.iload_n 1, 1) := by decide +kernel
theorem dmethod_2_code_23 : decode method_2_code 23 = .ok (.invokevirtual 9, 3) := by decide +kernel
theorem pd_1 : parseMethodDescriptor "(I)C" = some ⟨[.int], some .char⟩ := by decide +kernel
theorem dmethod_2_code_26 : decode method_2_code 26 = .ok (.ireturn, 1) := by decide +kernel
theorem dmethod_2_code_8 : decode method_2_code 8 = .ok (.lload_n 3, 1) := by decide +kernel
theorem dmethod_2_code_9 : decode method_2_code 9 = .ok (.bipush 8, 2) := by decide +kernel
theorem dmethod_2_code_11 : decode method_2_code 11 = .ok (.iload_n 1, 1) := by decide +kernel
theorem dmethod_2_code_12 : decode method_2_code 12 = .ok (.imul, 1) := by decide +kernel
theorem dmethod_2_code_13 : decode method_2_code 13 = .ok (.lushr, 1) := by decide +kernel
theorem dmethod_2_code_14 : decode method_2_code 14 = .ok (.ldc2_w 7, 3) := by decide +kernel
theorem dmethod_2_code_17 : decode method_2_code 17 = .ok (.land, 1) := by decide +kernel
theorem dmethod_2_code_18 : decode method_2_code 18 = .ok (.l2i, 1) := by decide +kernel
theorem dmethod_2_code_19 : decode method_2_code 19 = .ok (.i2c, 1) := by decide +kernel
theorem dmethod_2_code_20 : decode method_2_code 20 = .ok (.ireturn, 1) := by decide +kernel
theorem ef_rmK (m : MethodId) (x0 : Addr) (x1 : Int32) (x2 : Int32) (x3 : Int64) : entryFrame m #[(.ref x0), (.int x1), (.int x2), (.long x3)] 5 = mkF m 0 #[.val (.ref x0), .val (.int x1), .val (.int x2), .val (.long x3), .second] [] := by first | (simp [entryFrame, mkF, argsToLocals, Value.category]; done) | rfl
def QK (Z : State) (a1 : Addr) (pj : Int32) (p3 : Int32) (q4 : Int64) (bl : List Int32) (tt : Addr) (kk1 : ClassId) (nz : Int32) (bvs : List Value) (cs : Int32) (fm : Value) (ii : Nat) (h0 : Heap) (n0 : Nat) (v : Option Value) (h : Heap) (L : List Loc) : Prop := ∃ ch : Int32, v = some (.int ch) ∧ (¬ ch < 0 ∧ ¬ (255 : Int32) < ch) ∧ L = [] ∧ h = h0
theorem pn_1 : plainName "com/example/tabularium/tabularium/record/DealNamedPinLaw" = true := by first | (simp [plainName, overriddenIn]; done) | decide +kernel
set_option maxRecDepth 65536 in
set_option maxHeartbeats 40000000 in
theorem rmK (l : Launch) (Z : State) (a0 : Array Value) (hw : ∀ d ∈ tables_1, d.before a0 Z = true) (ws : List Jvm.Cond) (a1 : Addr) (pj : Int32) (p3 : Int32) (q4 : Int64) (bl : List Int32) (tt : Addr) (kk1 : ClassId) (nz : Int32) (bvs : List Value) (cs : Int32) (fm : Value) (ii : Nat) (h0 : Heap) (n0 : Nat) (Z0 : n0 ≤ h0.size) (PE1 : Exa Z h0 a1 "java/lang/String") (PV1 : Fld Z h0 a1 "java/lang/String" "value" "[B" (.ref tt)) (PC1 : Fld Z h0 a1 "java/lang/String" "coder" "B" (.int (0 : Int32))) (PK1 : Arv Z h0 tt kk1 .byte nz bvs (.int (0 : Int32))) (hcd : StrChars.Road.CodA bl 0 nz bvs) (hbl : ∀ c ∈ bl, ¬ c < 0 ∧ ¬ (255 : Int32) < c) (S1 : Sta Z h0 "java/lang/String" "COMPACT_STRINGS" "Z" (.int cs)) (hs1 : ¬ (cs = (0 : Int32))) (SF1 : Sta Z h0 "jdk/internal/util/Preconditions" "SIOOBE_FORMATTER" "Ljava/util/function/BiFunction;" fm) (rf1 : fm.isRef = true) (hl4 : bl.length ≤ 4000) (hi : ii < bl.length) (hj : pj = Int32.ofNat ii) :
    MetFree l (⟨"com/example/tabularium/tabularium/record/DealNamedPinLaw", "pick", "(Ljava/lang/String;IIJ)C"⟩ : MethodName) (head1 (Jvm.Cond.code (⟨"com/example/tabularium/tabularium/record/DealNamedPinLaw", "pick", "(Ljava/lang/String;IIJ)C"⟩ : MethodName) method_2_code 5 (some .char) :: ws) ({ frames := 4, cells := 0, slots := 0, locals := 55 } : Room)) (fun a U => a = #[(.ref a1), (.int pj), (.int p3), (.long q4)] ∧ Z.Warmed39 U.vm ∧ U.heap = h0) (fun _ _ _ _ _ => True) (fun _ U o U' => ∃ v L, o = .returned v ∧ QK Z a1 pj p3 q4 bl tt kk1 nz bvs cs fm ii h0 n0 v U'.heap L ∧ FrameEnd U o U' L ({ frames := 4, cells := 0, slots := 0, locals := 55 } : Room).cells ({ frames := 4, cells := 0, slots := 0, locals := 55 } : Room).slots) := by
  refine MetFree.of_bodySF (plainFor_of_name pn_1) hisR ?_
  intro p e s m args below meth c s₁ Bd hml0 hP hK
  obtain ⟨rfl, hZ, hh⟩ := hP
  have hx := Bd.exec
  have hby := Bd.bytes
  have hml : c.maxLocals = 5 := hml0
  have hown : s.vm.findClass "com/example/tabularium/tabularium/record/DealNamedPinLaw" = some m.cls := findClass_of_methodNamed Bd.named
  have hnm := (name_of_methodNamed Bd.named Bd.method).1
  have X0 : Stand p l e ({ frames := 4, cells := 0, slots := 0, locals := 55 } : Room) s m #[(.ref a1), (.int pj), (.int p3), (.long q4)] below meth c s₁ [] 0 0 := Stand.of_body Bd
  have e0 : s₁.heap = h0 := by rw [← hh, Bd.state]; rfl
  have N0 := Fr.nil n0
  have k0 : Go p e below (s₁.setTop (entryFrame m #[(.ref a1), (.int pj), (.int p3), (.long q4)] 5)) (s₁.setTop (mkF m 0 #[.val (.ref a1), .val (.int pj), .val (.int p3), .val (.long q4), .second] [])) := fun t k => castTop (ef_rmK m a1 pj p3 q4) k
  have hch : ∀ d ∈ StrChars.Road.wordsChN, d.before a0 Z = true := fun d hd => hw d ((by decide +kernel : ∀ d ∈ StrChars.Road.wordsChN, d ∈ tables_1) d hd)
  have k2 : Go p e below (s₁.setTop (entryFrame m #[(.ref a1), (.int pj), (.int p3), (.long q4)] 5)) (s₁.setTop (mkF m 5 #[.val (.ref a1), .val (.int pj), .val (.int p3), .val (.long q4), .second] [(.int (((p3.toUInt32 >>> (pj &&& 31).toUInt32).toInt32) &&& (1 : Int32)))])) := fun t kk => k0 t (by
    show Steps p.tables e below (s₁.setTop (mkF m 0 #[.val (.ref a1), .val (.int pj), .val (.int p3), .val (.long q4), .second] [])) _
    refine XS.iloadN X0.here hx rfl (hb hby dmethod_2_code_0) rfl ?_
    show Steps p.tables e below (s₁.setTop (mkF m 1 #[.val (.ref a1), .val (.int pj), .val (.int p3), .val (.long q4), .second] [(.int p3)])) _
    refine XS.iloadN X0.here hx rfl (hb hby dmethod_2_code_1) rfl ?_
    show Steps p.tables e below (s₁.setTop (mkF m 2 #[.val (.ref a1), .val (.int pj), .val (.int p3), .val (.long q4), .second] [(.int pj), (.int p3)])) _
    refine XS.iushr X0.here hx rfl (hb hby dmethod_2_code_2) rfl ?_
    show Steps p.tables e below (s₁.setTop (mkF m 3 #[.val (.ref a1), .val (.int pj), .val (.int p3), .val (.long q4), .second] [(.int ((p3.toUInt32 >>> (pj &&& 31).toUInt32).toInt32))])) _
    refine XS.iconst X0.here hx rfl (hb hby dmethod_2_code_3) ?_
    show Steps p.tables e below (s₁.setTop (mkF m 4 #[.val (.ref a1), .val (.int pj), .val (.int p3), .val (.long q4), .second] [(.int (1 : Int32)), (.int ((p3.toUInt32 >>> (pj &&& 31).toUInt32).toInt32))])) _
    refine XS.iand X0.here hx rfl (hb hby dmethod_2_code_4) rfl ?_
    exact kk)
  by_cases hc5_1 : (((p3.toUInt32 >>> (pj &&& 31).toUInt32).toInt32) &&& (1 : Int32)) = (0 : Int32)
  · have k3 : Go p e below (s₁.setTop (entryFrame m #[(.ref a1), (.int pj), (.int p3), (.long q4)] 5)) (s₁.setTop (mkF m 23 #[.val (.ref a1), .val (.int pj), .val (.int p3), .val (.long q4), .second] [(.int pj), (.ref a1)])) := fun t kk => k2 t (by
      show Steps p.tables e below (s₁.setTop (mkF m 5 #[.val (.ref a1), .val (.int pj), .val (.int p3), .val (.long q4), .second] [(.int (((p3.toUInt32 >>> (pj &&& 31).toUInt32).toInt32) &&& (1 : Int32)))])) _
      refine XS.ifYes X0.here hx rfl (pc0 := 5) (pc' := 21) rfl (hb hby dmethod_2_code_5) rfl ((if0 _ _).trans (teq hc5_1).1) (by decide) (by decide) ?_
      show Steps p.tables e below (s₁.setTop (mkF m 21 #[.val (.ref a1), .val (.int pj), .val (.int p3), .val (.long q4), .second] [])) _
      refine XS.aloadN X0.here hx rfl (hb hby dmethod_2_code_21) rfl rfl ?_
      show Steps p.tables e below (s₁.setTop (mkF m 22 #[.val (.ref a1), .val (.int pj), .val (.int p3), .val (.long q4), .second] [(.ref a1)])) _
      refine XS.iloadN X0.here hx rfl (hb hby dmethod_2_code_22) rfl ?_
      exact kk)
    obtain ⟨cq4, kq4, q4a, q4b, q4c⟩ := isOf hZ e0 PE1
    obtain ⟨_, _, ⟨T4, L4, kx4, nx4⟩, -, X4, ⟨Lc4, hQ4, l4, y4, z4⟩, st4⟩ := X0.virtualBack hx (y := (⟨"java/lang/String", "charAt", "(I)C"⟩ : MethodName)) (z := (⟨"java/lang/String", "charAt", "(I)C"⟩ : MethodName)) hown (mvT hZ (hw _ (List.mem_of_getElem? (i := 13) rfl))) (mvT hZ (hw _ (List.mem_of_getElem? (i := 14) rfl))) (notFace_of_selects (args := #[]) (mvT hZ (hw _ (List.mem_of_getElem? (i := 16) rfl)))) (mvT hZ (hw _ (List.mem_of_getElem? (i := 16) rfl))) (mvT hZ (hw _ (List.mem_of_getElem? (i := 15) rfl))) (by decide) (StrChars.Road.chN (W := 0) hZ hch (kI := 4) (hw _ (List.mem_of_getElem? (i := 2) rfl)) PE1 PV1 PC1 PK1 hcd (own_up _ hbl) S1 hs1 SF1 rf1 hl4 (i := ii) hi (j := pj) hj (by decide) (by decide)) q4a q4c (g := (mkF m 23 #[.val (.ref a1), .val (.int pj), .val (.int p3), .val (.long q4), .second] [(.int pj), (.ref a1)])) rfl (by rw [hml]; rfl) (Steps.refl _) (argsL := [(.int pj)]) (rest := []) (lenOf pd_1 rfl) rfl (by show 2 * 0 + _ ≤ _; exact Nat.le_of_eq rfl) (hb hby dmethod_2_code_23) (fun _ _ => ⟨rfl, e0, (by decide : 0 + 0 ≤ _), (by decide : 0 + 0 ≤ _)⟩)
    dsimp only [Pt.U, Pt.locs, Pt.cells, Pt.slots] at X4 l4 y4 z4 st4 hQ4
    subst l4 y4 z4
    obtain ⟨rfl, rfl, e4⟩ := hQ4
    try rw [List.append_nil] at X4
    have k4 : Go p e below (s₁.setTop (entryFrame m #[(.ref a1), (.int pj), (.int p3), (.long q4)] 5)) (T4.setTop (mkF m 26 #[.val (.ref a1), .val (.int pj), .val (.int p3), .val (.long q4), .second] [(.int (bl.getD ii 0))])) := fun t kk => k3 t (st4.trans kk)
    obtain ⟨fs, hr, hrun, hended, hW, hsame⟩ := X4.leave (v := some (.int (nar .char (bl.getD ii 0)))) (fun h => by rw [Bd.returns] at h; cases h)
    refine ⟨_, _, k4 _ ?_, hrun, hended, _, _, rfl, ?_, ⟨_, rfl⟩, hW, hsame.mono (by decide) (by decide)⟩
    · show Steps p.tables e below (T4.setTop (mkF m 26 #[.val (.ref a1), .val (.int pj), .val (.int p3), .val (.long q4), .second] [(.int (bl.getD ii 0))])) _
      exact retN X4 hx (t := .char) Bd.returns (by simp) (hb hby dmethod_2_code_26) hr
    · show QK Z a1 pj p3 q4 bl tt kk1 nz bvs cs fm ii h0 n0 _ T4.heap _
      rw [e4]
      exact ⟨_, rfl, own_narb (own_getD hbl ii), rfl, rfl⟩
  · have k6 : Go p e below (s₁.setTop (entryFrame m #[(.ref a1), (.int pj), (.int p3), (.long q4)] 5)) (s₁.setTop (mkF m 20 #[.val (.ref a1), .val (.int pj), .val (.int p3), .val (.long q4), .second] [(.int (((((q4.toUInt64 >>> (((8 : Int32) * pj) &&& 0x3f).toInt64.toUInt64).toInt64) &&& (255 : Int64)).toInt32).toUInt32.toUInt16.toUInt32.toInt32))])) := fun t kk => k2 t (by
      show Steps p.tables e below (s₁.setTop (mkF m 5 #[.val (.ref a1), .val (.int pj), .val (.int p3), .val (.long q4), .second] [(.int (((p3.toUInt32 >>> (pj &&& 31).toUInt32).toInt32) &&& (1 : Int32)))])) _
      refine XS.ifNo X0.here hx rfl (hb hby dmethod_2_code_5) rfl ((if0 _ _).trans (feq hc5_1).1) ?_
      show Steps p.tables e below (s₁.setTop (mkF m 8 #[.val (.ref a1), .val (.int pj), .val (.int p3), .val (.long q4), .second] [])) _
      refine XS.lloadN X0.here hx rfl (hb hby dmethod_2_code_8) rfl ?_
      show Steps p.tables e below (s₁.setTop (mkF m 9 #[.val (.ref a1), .val (.int pj), .val (.int p3), .val (.long q4), .second] [(.long q4)])) _
      refine XS.bipush X0.here hx rfl (hb hby dmethod_2_code_9) ?_
      show Steps p.tables e below (s₁.setTop (mkF m 11 #[.val (.ref a1), .val (.int pj), .val (.int p3), .val (.long q4), .second] [(.int (8 : Int32)), (.long q4)])) _
      refine XS.iloadN X0.here hx rfl (hb hby dmethod_2_code_11) rfl ?_
      show Steps p.tables e below (s₁.setTop (mkF m 12 #[.val (.ref a1), .val (.int pj), .val (.int p3), .val (.long q4), .second] [(.int pj), (.int (8 : Int32)), (.long q4)])) _
      refine XS.imul X0.here hx rfl (hb hby dmethod_2_code_12) rfl ?_
      show Steps p.tables e below (s₁.setTop (mkF m 13 #[.val (.ref a1), .val (.int pj), .val (.int p3), .val (.long q4), .second] [(.int ((8 : Int32) * pj)), (.long q4)])) _
      refine XS.lushr X0.here hx rfl (hb hby dmethod_2_code_13) rfl ?_
      show Steps p.tables e below (s₁.setTop (mkF m 14 #[.val (.ref a1), .val (.int pj), .val (.int p3), .val (.long q4), .second] [(.long ((q4.toUInt64 >>> (((8 : Int32) * pj) &&& 0x3f).toInt64.toUInt64).toInt64))])) _
      refine X0.ldc2Long hx hown (mvT hZ (hw _ (List.mem_of_getElem? (i := 12) rfl))) (g := (mkF m 14 #[.val (.ref a1), .val (.int pj), .val (.int p3), .val (.long q4), .second] [(.long ((q4.toUInt64 >>> (((8 : Int32) * pj) &&& 0x3f).toInt64.toUInt64).toInt64))])) rfl (hb hby dmethod_2_code_14) _ ?_
      show Steps p.tables e below (s₁.setTop (mkF m 17 #[.val (.ref a1), .val (.int pj), .val (.int p3), .val (.long q4), .second] [(.long (255 : Int64)), (.long ((q4.toUInt64 >>> (((8 : Int32) * pj) &&& 0x3f).toInt64.toUInt64).toInt64))])) _
      refine XS.land X0.here hx rfl (hb hby dmethod_2_code_17) rfl ?_
      show Steps p.tables e below (s₁.setTop (mkF m 18 #[.val (.ref a1), .val (.int pj), .val (.int p3), .val (.long q4), .second] [(.long (((q4.toUInt64 >>> (((8 : Int32) * pj) &&& 0x3f).toInt64.toUInt64).toInt64) &&& (255 : Int64)))])) _
      refine XS.l2i X0.here hx rfl (hb hby dmethod_2_code_18) rfl ?_
      show Steps p.tables e below (s₁.setTop (mkF m 19 #[.val (.ref a1), .val (.int pj), .val (.int p3), .val (.long q4), .second] [(.int ((((q4.toUInt64 >>> (((8 : Int32) * pj) &&& 0x3f).toInt64.toUInt64).toInt64) &&& (255 : Int64)).toInt32))])) _
      refine XS.i2c X0.here hx rfl (hb hby dmethod_2_code_19) rfl ?_
      exact kk)
    obtain ⟨fs, hr, hrun, hended, hW, hsame⟩ := X0.leave (v := some (.int (nar .char (((((q4.toUInt64 >>> (((8 : Int32) * pj) &&& 0x3f).toInt64.toUInt64).toInt64) &&& (255 : Int64)).toInt32).toUInt32.toUInt16.toUInt32.toInt32)))) (fun h => by rw [Bd.returns] at h; cases h)
    refine ⟨_, _, k6 _ ?_, hrun, hended, _, _, rfl, ?_, ⟨_, rfl⟩, hW, hsame.mono (by decide) (by decide)⟩
    · show Steps p.tables e below (s₁.setTop (mkF m 20 #[.val (.ref a1), .val (.int pj), .val (.int p3), .val (.long q4), .second] [(.int (((((q4.toUInt64 >>> (((8 : Int32) * pj) &&& 0x3f).toInt64.toUInt64).toInt64) &&& (255 : Int64)).toInt32).toUInt32.toUInt16.toUInt32.toInt32))])) _
      exact retN X0 hx (t := .char) Bd.returns (by simp) (hb hby dmethod_2_code_20) hr
    · show QK Z a1 pj p3 q4 bl tt kk1 nz bvs cs fm ii h0 n0 _ s₁.heap _
      rw [e0]
      exact ⟨_, rfl, own_narb (own_c8 _), rfl, rfl⟩
theorem dprog_6_method_1_code_0 : decode prog_6_method_1_code 0 = .ok (.getstatic 10, 3) := by decide +kernel
theorem dprog_6_method_1_code_3 : decode prog_6_method_1_code 3 = .ok (.invokevirtual 14, 3) := by decide +kernel
theorem dprog_6_method_1_code_6 : decode prog_6_method_1_code 6 = .ok (.checkcast 15, 3) := by decide +kernel
theorem dprog_6_method_1_code_9 : decode prog_6_method_1_code 9 = .ok (.areturn, 1) := by decide +kernel
theorem ef_rmA (m : MethodId)  : entryFrame m #[] 0 = mkF m 0 #[] [] := by first | (simp [entryFrame, mkF, argsToLocals, Value.category]; done) | rfl
def QA1 (Z : State) (va : Addr) (kV : ClassId) (aL : Addr) (aS : Addr) (h0 : Heap) (n0 : Nat) (v : Option Value) (h : Heap) (L : List Loc) : Prop := ∃ b : Addr, v = some (.ref b) ∧ Fr n0 L ∧ Keep h0 h [] ∧ h0.size ≤ b ∧ Arv Z h b kV (.object "com/example/tabularium/tabularium/record/Deal") (2 : Int32) [(.ref aL), (.ref aS)] .null
theorem pn_2 : plainName "com/example/tabularium/tabularium/record/Deal" = true := by first | (simp [plainName, overriddenIn]; done) | decide +kernel
set_option maxRecDepth 65536 in
set_option maxHeartbeats 40000000 in
theorem rmA (l : Launch) (Z : State) (a0 : Array Value) (hw : ∀ d ∈ tables_1, d.before a0 Z = true) (ws : List Jvm.Cond) (va : Addr) (kV : ClassId) (aL : Addr) (aS : Addr) (h0 : Heap) (n0 : Nat) (Z0 : n0 ≤ h0.size) (SV : Sta Z h0 "com/example/tabularium/tabularium/record/Deal" "$VALUES" "[Lcom/example/tabularium/tabularium/record/Deal;" (.ref va)) (PAV : Arv Z h0 va kV (.object "com/example/tabularium/tabularium/record/Deal") (2 : Int32) [(.ref aL), (.ref aS)] .null) (PEV : Exa Z h0 va "[Lcom/example/tabularium/tabularium/record/Deal;") :
    MetFree l (⟨"com/example/tabularium/tabularium/record/Deal", "values", "()[Lcom/example/tabularium/tabularium/record/Deal;"⟩ : MethodName) (head1 (Jvm.Cond.code (⟨"com/example/tabularium/tabularium/record/Deal", "values", "()[Lcom/example/tabularium/tabularium/record/Deal;"⟩ : MethodName) prog_6_method_1_code 0 (some (.array (.object "com/example/tabularium/tabularium/record/Deal"))) :: ws) ({ frames := 1, cells := 1, slots := 2, locals := 14 } : Room)) (fun a U => a = #[] ∧ Z.Warmed39 U.vm ∧ U.heap = h0) (fun _ _ _ _ _ => True) (fun _ U o U' => ∃ v L, o = .returned v ∧ QA1 Z va kV aL aS h0 n0 v U'.heap L ∧ FrameEnd U o U' L ({ frames := 1, cells := 1, slots := 2, locals := 14 } : Room).cells ({ frames := 1, cells := 1, slots := 2, locals := 14 } : Room).slots) := by
  refine MetFree.of_bodySF (plainFor_of_name pn_2) hisR ?_
  intro p e s m args below meth c s₁ Bd hml0 hP hK
  obtain ⟨rfl, hZ, hh⟩ := hP
  have hx := Bd.exec
  have hby := Bd.bytes
  have hml : c.maxLocals = 0 := hml0
  have hown : s.vm.findClass "com/example/tabularium/tabularium/record/Deal" = some m.cls := findClass_of_methodNamed Bd.named
  have hnm := (name_of_methodNamed Bd.named Bd.method).1
  have X0 : Stand p l e ({ frames := 1, cells := 1, slots := 2, locals := 14 } : Room) s m #[] below meth c s₁ [] 0 0 := Stand.of_body Bd
  have e0 : s₁.heap = h0 := by rw [← hh, Bd.state]; rfl
  have N0 := Fr.nil n0
  have k0 : Go p e below (s₁.setTop (entryFrame m #[] 0)) (s₁.setTop (mkF m 0 #[] [])) := fun t k => castTop (ef_rmA m ) k
  obtain ⟨T1, X1, e1, st1⟩ := getS2 X0 hx hZ hown (host := "") (Or.inl (hw _ (List.mem_of_getElem? (i := 68) rfl))) Via.refl e0 SV (g := (mkF m 0 #[] [])) rfl (hb hby dprog_6_method_1_code_0)
  have k1 : Go p e below (s₁.setTop (entryFrame m #[] 0)) (T1.setTop (mkF m 3 #[] [(.ref va)])) := fun t kk => k0 t (st1 t kk)
  obtain ⟨T2, h2, X2, e2, E2, A2, B2, st2⟩ := cloneH X1 hx hZ hown (hw _ (List.mem_of_getElem? (i := 70) rfl)) (hw _ (List.mem_of_getElem? (i := 71) rfl)) (hw _ (List.mem_of_getElem? (i := 75) rfl)) (hw _ (List.mem_of_getElem? (i := 73) rfl)) (hw _ (List.mem_of_getElem? (i := 74) rfl)) (hw _ (List.mem_of_getElem? (i := 76) rfl)) e1 PAV.arh PEV (g := (mkF m 3 #[] [(.ref va)])) rfl (by rw [hml]; rfl) rfl (hb hby dprog_6_method_1_code_3) (by decide) (W := 0) (cap := 2) (by show 2 * 0 + _ ≤ _; exact Nat.le_of_eq rfl) (by decide) (by decide) (by decide) (by decide)
  obtain ⟨b2, g2⟩ : ∃ z, z = (h0).size := ⟨_, rfl⟩
  rw [← g2] at A2 B2 st2
  have ne_va_b2 : va ≠ b2 := Nat.ne_of_lt (Nat.lt_of_lt_of_le PAV.lt (Nat.le_of_eq g2.symm))
  have sz_b2 : h0.size ≤ b2 := Nat.le_trans (Keep.refl h0 []).1 (Nat.le_of_eq g2.symm)
  have ge_b2 : n0 ≤ b2 := Nat.le_trans Z0 (Nat.le_of_eq g2.symm)
  have f3 := SV.ext E2
  have f4 := PAV.ext E2
  have f5 := PEV.ext E2
  have K2 := ((Keep.refl h0 [])).ext E2
  have Zs2 : n0 ≤ h2.size := Nat.le_trans Z0 E2.1
  have V2 : Arv Z h2 b2 kV (.object "com/example/tabularium/tabularium/record/Deal") (2 : Int32) [(.ref aL), (.ref aS)] .null := A2
  have k2 : Go p e below (s₁.setTop (entryFrame m #[] 0)) (T2.setTop (mkF m 6 #[] [(.ref b2)])) := fun t kk => k1 t (st2 t kk)
  obtain ⟨T6, X6, e6, st6⟩ := castY X2 hx hZ hown (hw _ (List.mem_of_getElem? (i := 80) rfl)) e2 (Ins.self B2) (g := (mkF m 6 #[] [(.ref b2)])) rfl rfl (hb hby dprog_6_method_1_code_6)
  have k6 : Go p e below (s₁.setTop (entryFrame m #[] 0)) (T6.setTop (mkF m 9 #[] [(.ref b2)])) := fun t kk => k2 t (st6 t kk)
  obtain ⟨fs, hr, hrun, hended, hW, hsame⟩ := X6.leave (v := some (.ref b2)) (fun h => by rw [Bd.returns] at h; cases h)
  refine ⟨_, _, k6 _ ?_, hrun, hended, _, _, rfl, ?_, ⟨_, rfl⟩, hW, hsame.mono (by decide) (by decide)⟩
  · show Steps p.tables e below (T6.setTop (mkF m 9 #[] [(.ref b2)])) _
    jvm_step X6.here [X6.here.top, hx, (hb hby dprog_6_method_1_code_9), X6.method', Bd.returns, Value.isRef, FieldType.isReference]
    first | (intro acts; rw [hr _ acts rfl rfl rfl]) | rw [hr _ _ rfl rfl rfl]
    exact Steps.refl _
  · show QA1 Z va kV aL aS h0 n0 _ T6.heap _
    rw [e6]
    exact ⟨b2, rfl, N0, K2, sz_b2, V2⟩
theorem dprog_6_method_5_code_0 : decode prog_6_method_5_code 0 = .ok (.invokestatic 33, 3) := by decide +kernel
theorem pd_2 : parseMethodDescriptor "()[Lcom/example/tabularium/tabularium/record/Deal;" = some ⟨[], some (.array (.object "com/example/tabularium/tabularium/record/Deal"))⟩ := by decide +kernel
theorem dprog_6_method_5_code_3 : decode prog_6_method_5_code 3 = .ok (.astore_n 1, 1) := by decide +kernel
theorem dprog_6_method_5_code_4 : decode prog_6_method_5_code 4 = .ok (.aload_n 1, 1) := by decide +kernel
theorem dprog_6_method_5_code_5 : decode prog_6_method_5_code 5 = .ok (.arraylength, 1) := by decide +kernel
theorem dprog_6_method_5_code_6 : decode prog_6_method_5_code 6 = .ok (.istore_n 2, 1) := by decide +kernel
theorem dprog_6_method_5_code_7 : decode prog_6_method_5_code 7 = .ok (.iconst 0, 1) := by decide +kernel
theorem dprog_6_method_5_code_8 : decode prog_6_method_5_code 8 = .ok (.istore_n 3, 1) := by decide +kernel
theorem dprog_6_method_5_code_9 : decode prog_6_method_5_code 9 = .ok (.iload_n 3, 1) := by decide +kernel
theorem dprog_6_method_5_code_10 : decode prog_6_method_5_code 10 = .ok (.iload_n 2, 1) := by decide +kernel
theorem dprog_6_method_5_code_11 : decode prog_6_method_5_code 11 = .ok (.if_icmp .ge 29, 3) := by decide +kernel
theorem dprog_6_method_5_code_14 : decode prog_6_method_5_code 14 = .ok (.aload_n 1, 1) := by decide +kernel
theorem dprog_6_method_5_code_15 : decode prog_6_method_5_code 15 = .ok (.iload_n 3, 1) := by decide +kernel
theorem dprog_6_method_5_code_16 : decode prog_6_method_5_code 16 = .ok (.aaload, 1) := by decide +kernel
theorem dprog_6_method_5_code_17 : decode prog_6_method_5_code 17 = .ok (.astore 4, 2) := by decide +kernel
theorem dprog_6_method_5_code_19 : decode prog_6_method_5_code 19 = .ok (.aload 4, 2) := by decide +kernel
theorem dprog_6_method_5_code_21 : decode prog_6_method_5_code 21 = .ok (.getfield 29, 3) := by decide +kernel
theorem dprog_6_method_5_code_24 : decode prog_6_method_5_code 24 = .ok (.aload_n 0, 1) := by decide +kernel
theorem dprog_6_method_5_code_25 : decode prog_6_method_5_code 25 = .ok (.invokevirtual 37, 3) := by decide +kernel
theorem pd_3 : parseMethodDescriptor "(Ljava/lang/Object;)Z" = some ⟨[(.object "java/lang/Object")], some .boolean⟩ := by decide +kernel
theorem dprog_6_method_5_code_28 : decode prog_6_method_5_code 28 = .ok (.ifCond .eq 6, 3) := by decide +kernel
theorem dprog_6_method_5_code_34 : decode prog_6_method_5_code 34 = .ok (.iinc 3 1, 3) := by decide +kernel
theorem dprog_6_method_5_code_37 : decode prog_6_method_5_code 37 = .ok (.goto (-28), 3) := by decide +kernel
theorem dprog_6_method_5_code_40 : decode prog_6_method_5_code 40 = .ok (.aconst_null, 1) := by decide +kernel
theorem dprog_6_method_5_code_41 : decode prog_6_method_5_code 41 = .ok (.areturn, 1) := by decide +kernel
theorem dprog_6_method_5_code_31 : decode prog_6_method_5_code 31 = .ok (.aload 4, 2) := by decide +kernel
theorem dprog_6_method_5_code_33 : decode prog_6_method_5_code 33 = .ok (.areturn, 1) := by decide +kernel
theorem ef_rmD (m : MethodId) (x0 : Addr) : entryFrame m #[(.ref x0)] 5 = mkF m 0 #[.val (.ref x0), .unset, .unset, .unset, .unset] [] := by first | (simp [entryFrame, mkF, argsToLocals, Value.category]; done) | rfl
def QD (Z : State) (a1 : Addr) (va : Addr) (kV : ClassId) (aL : Addr) (aS : Addr) (sL : Addr) (uL : Addr) (kL : ClassId) (sS : Addr) (uS : Addr) (kS : ClassId) (sl : List Int32) (tt : Addr) (kk1 : ClassId) (nz : Int32) (bvs : List Value) (cs : Int32) (h0 : Heap) (n0 : Nat) (v : Option Value) (h : Heap) (L : List Loc) : Prop := v = some (own_named sl aL aS) ∧ Fr n0 L ∧ Keep h0 h []
set_option maxRecDepth 65536 in
set_option maxHeartbeats 40000000 in
theorem rmD (l : Launch) (Z : State) (a0 : Array Value) (hw : ∀ d ∈ tables_1, d.before a0 Z = true) (ws : List Jvm.Cond) (a1 : Addr) (va : Addr) (kV : ClassId) (aL : Addr) (aS : Addr) (sL : Addr) (uL : Addr) (kL : ClassId) (sS : Addr) (uS : Addr) (kS : ClassId) (sl : List Int32) (tt : Addr) (kk1 : ClassId) (nz : Int32) (bvs : List Value) (cs : Int32) (h0 : Heap) (n0 : Nat) (Z0 : n0 ≤ h0.size) (SV : Sta Z h0 "com/example/tabularium/tabularium/record/Deal" "$VALUES" "[Lcom/example/tabularium/tabularium/record/Deal;" (.ref va)) (PAV : Arv Z h0 va kV (.object "com/example/tabularium/tabularium/record/Deal") (2 : Int32) [(.ref aL), (.ref aS)] .null) (PEV : Exa Z h0 va "[Lcom/example/tabularium/tabularium/record/Deal;") (FL : Fld Z h0 aL "com/example/tabularium/tabularium/record/Deal" "text" "Ljava/lang/String;" (.ref sL)) (ESL : Exa Z h0 sL "java/lang/String") (CSL : Fld Z h0 sL "java/lang/String" "coder" "B" (.int (0 : Int32))) (VSL : Fld Z h0 sL "java/lang/String" "value" "[B" (.ref uL)) (ASL : Arv Z h0 uL kL .byte (6 : Int32) [(.int (108 : Int32)), (.int (105 : Int32)), (.int (115 : Int32)), (.int (116 : Int32)), (.int (101 : Int32)), (.int (100 : Int32))] (.int (0 : Int32))) (FS : Fld Z h0 aS "com/example/tabularium/tabularium/record/Deal" "text" "Ljava/lang/String;" (.ref sS)) (ESS : Exa Z h0 sS "java/lang/String") (CSS : Fld Z h0 sS "java/lang/String" "coder" "B" (.int (0 : Int32))) (VSS : Fld Z h0 sS "java/lang/String" "value" "[B" (.ref uS)) (ASS : Arv Z h0 uS kS .byte (6 : Int32) [(.int (115 : Int32)), (.int (101 : Int32)), (.int (101 : Int32)), (.int (100 : Int32)), (.int (101 : Int32)), (.int (100 : Int32))] (.int (0 : Int32))) (PE1 : Exa Z h0 a1 "java/lang/String") (PV1 : Fld Z h0 a1 "java/lang/String" "value" "[B" (.ref tt)) (PC1 : Fld Z h0 a1 "java/lang/String" "coder" "B" (.int (0 : Int32))) (PK1 : Arv Z h0 tt kk1 .byte nz bvs (.int (0 : Int32))) (hcd : StrChars.Road.CodA sl 0 nz bvs) (hbl : ∀ c ∈ sl, ¬ c < 0 ∧ ¬ (65535 : Int32) < c) (hl4 : sl.length ≤ 4000) (S1 : Sta Z h0 "java/lang/String" "COMPACT_STRINGS" "Z" (.int cs)) (hs1 : ¬ (cs = (0 : Int32))) :
    MetFree l (⟨"com/example/tabularium/tabularium/record/Deal", "named", "(Ljava/lang/String;)Lcom/example/tabularium/tabularium/record/Deal;"⟩ : MethodName) (head1 (Jvm.Cond.code (⟨"com/example/tabularium/tabularium/record/Deal", "named", "(Ljava/lang/String;)Lcom/example/tabularium/tabularium/record/Deal;"⟩ : MethodName) prog_6_method_5_code 5 (some (.object "com/example/tabularium/tabularium/record/Deal")) :: ws) ({ frames := 2, cells := 1, slots := 2, locals := 28 } : Room)) (fun a U => a = #[(.ref a1)] ∧ Z.Warmed39 U.vm ∧ U.heap = h0) (fun _ _ _ _ _ => True) (fun _ U o U' => ∃ v L, o = .returned v ∧ QD Z a1 va kV aL aS sL uL kL sS uS kS sl tt kk1 nz bvs cs h0 n0 v U'.heap L ∧ FrameEnd U o U' L ({ frames := 2, cells := 1, slots := 2, locals := 28 } : Room).cells ({ frames := 2, cells := 1, slots := 2, locals := 28 } : Room).slots) := by
  refine MetFree.of_bodySF (plainFor_of_name pn_2) hisR ?_
  intro p e s m args below meth c s₁ Bd hml0 hP hK
  obtain ⟨rfl, hZ, hh⟩ := hP
  have hx := Bd.exec
  have hby := Bd.bytes
  have hml : c.maxLocals = 5 := hml0
  have hown : s.vm.findClass "com/example/tabularium/tabularium/record/Deal" = some m.cls := findClass_of_methodNamed Bd.named
  have hnm := (name_of_methodNamed Bd.named Bd.method).1
  have X0 : Stand p l e ({ frames := 2, cells := 1, slots := 2, locals := 28 } : Room) s m #[(.ref a1)] below meth c s₁ [] 0 0 := Stand.of_body Bd
  have e0 : s₁.heap = h0 := by rw [← hh, Bd.state]; rfl
  have N0 := Fr.nil n0
  have k0 : Go p e below (s₁.setTop (entryFrame m #[(.ref a1)] 5)) (s₁.setTop (mkF m 0 #[.val (.ref a1), .unset, .unset, .unset, .unset] [])) := fun t k => castTop (ef_rmD m a1) k
  have heq : ∀ d ∈ StrChars.Road.wordsEq, d.before a0 Z = true := fun d hd => hw d ((by decide +kernel : ∀ d ∈ StrChars.Road.wordsEq, d ∈ tables_1) d hd)
  obtain ⟨_, _, ⟨T1, L1, kx1, nx1⟩, -, X1, ⟨Lc1, hQ1, l1, y1, z1⟩, st1⟩ := Jvm.LawKit.callS X0 hx (y := (⟨"com/example/tabularium/tabularium/record/Deal", "values", "()[Lcom/example/tabularium/tabularium/record/Deal;"⟩ : MethodName)) hown (mvT hZ (hw _ (List.mem_of_getElem? (i := 65) rfl))) (mvT hZ (hw _ (List.mem_of_getElem? (i := 66) rfl))) (mvT hZ (hw _ (List.mem_of_getElem? (i := 63) rfl))) (mvT hZ (hw _ (List.mem_of_getElem? (i := 67) rfl))) (by decide) (backOf (W := 0) (rmA l Z a0 hw [] va kV aL aS h0 n0 Z0 SV PAV PEV) hZ (hw _ (List.mem_of_getElem? (i := 67) rfl)) (hw _ (List.mem_of_getElem? (i := 63) rfl)) (by decide) (by decide)) (g := (mkF m 0 #[.val (.ref a1), .unset, .unset, .unset, .unset] [])) rfl (by rw [hml]; rfl) (argsL := []) (rest := []) (lenOf pd_2 rfl) rfl (by show 2 * 0 + _ ≤ _; exact Nat.le_of_eq rfl) (hb hby dprog_6_method_5_code_0) (fun _ _ => ⟨rfl, e0, (by decide : 0 + 1 ≤ _), (by decide : 0 + 2 ≤ _)⟩)
  dsimp only [Pt.U, Pt.locs, Pt.cells, Pt.slots] at X1 l1 y1 z1 st1 hQ1
  subst l1 y1 z1
  obtain ⟨b1, rfl, N1q, K1q, sz1, x1_0⟩ := hQ1
  have N1 := Fr.app N0 N1q
  have K1 := ((Keep.refl h0 [])).trans K1q all0
  have sz_b1 : h0.size ≤ b1 := Nat.le_trans (Keep.refl h0 []).1 sz1
  have ge_b1 : n0 ≤ b1 := Nat.le_trans Z0 sz1
  have Zs1 : n0 ≤ T1.heap.size := Nat.le_trans Z0 K1q.1
  have k1 : Go p e below (s₁.setTop (entryFrame m #[(.ref a1)] 5)) (T1.setTop (mkF m 3 #[.val (.ref a1), .unset, .unset, .unset, .unset] [(.ref b1)])) := fun t kk => k0 t (st1 t kk)
  obtain ⟨cl2, Ar2, -, S2, G2, -, -⟩ := id x1_0
  obtain ⟨cl3, Ar3, -, S3, G3, H3, -⟩ := id x1_0
  have hin3 : ¬ ((0 : Int32) < 0 ∨ cl3.slots.size ≤ ((0 : Int32)).toNatClampNeg) := inb_of S3 ⟨by decide, by decide⟩
  have hat3 : cl3.slots[((0 : Int32)).toNatClampNeg]? = some (.ref aL) := H3.at hin3 rfl
  have k4 : Go p e below (s₁.setTop (entryFrame m #[(.ref a1)] 5)) (T1.setTop (mkF m 21 #[.val (.ref a1), .val (.ref b1), .val (.int (2 : Int32)), .val (.int (0 : Int32)), .val (.ref aL)] [(.ref aL)])) := fun t kk => k1 t (by
    show Steps p.tables e below (T1.setTop (mkF m 3 #[.val (.ref a1), .unset, .unset, .unset, .unset] [(.ref b1)])) _
    refine XS.astoreN X1.here hx rfl (hb hby dprog_6_method_5_code_3) rfl rfl (l' := #[.val (.ref a1), .val (.ref b1), .unset, .unset, .unset]) rfl ?_
    show Steps p.tables e below (T1.setTop (mkF m 4 #[.val (.ref a1), .val (.ref b1), .unset, .unset, .unset] [])) _
    refine XS.aloadN X1.here hx rfl (hb hby dprog_6_method_5_code_4) rfl rfl ?_
    show Steps p.tables e below (T1.setTop (mkF m 5 #[.val (.ref a1), .val (.ref b1), .unset, .unset, .unset] [(.ref b1)])) _
    refine X1.arraylength hx Ar2.1 (State.isArrayOf_alike hZ.alike Ar2.2.1) (g := (mkF m 5 #[.val (.ref a1), .val (.ref b1), .unset, .unset, .unset] [(.ref b1)])) rfl rfl (hb hby dprog_6_method_5_code_5) _ ?_
    rw [len_of S2 G2]
    show Steps p.tables e below (T1.setTop (mkF m 6 #[.val (.ref a1), .val (.ref b1), .unset, .unset, .unset] [(.int (2 : Int32))])) _
    refine XS.istoreN X1.here hx rfl (hb hby dprog_6_method_5_code_6) rfl (l' := #[.val (.ref a1), .val (.ref b1), .val (.int (2 : Int32)), .unset, .unset]) rfl ?_
    show Steps p.tables e below (T1.setTop (mkF m 7 #[.val (.ref a1), .val (.ref b1), .val (.int (2 : Int32)), .unset, .unset] [])) _
    refine XS.iconst X1.here hx rfl (hb hby dprog_6_method_5_code_7) ?_
    show Steps p.tables e below (T1.setTop (mkF m 8 #[.val (.ref a1), .val (.ref b1), .val (.int (2 : Int32)), .unset, .unset] [(.int (0 : Int32))])) _
    refine XS.istoreN X1.here hx rfl (hb hby dprog_6_method_5_code_8) rfl (l' := #[.val (.ref a1), .val (.ref b1), .val (.int (2 : Int32)), .val (.int (0 : Int32)), .unset]) rfl ?_
    show Steps p.tables e below (T1.setTop (mkF m 9 #[.val (.ref a1), .val (.ref b1), .val (.int (2 : Int32)), .val (.int (0 : Int32)), .unset] [])) _
    refine XS.iloadN X1.here hx rfl (hb hby dprog_6_method_5_code_9) rfl ?_
    show Steps p.tables e below (T1.setTop (mkF m 10 #[.val (.ref a1), .val (.ref b1), .val (.int (2 : Int32)), .val (.int (0 : Int32)), .unset] [(.int (0 : Int32))])) _
    refine XS.iloadN X1.here hx rfl (hb hby dprog_6_method_5_code_10) rfl ?_
    show Steps p.tables e below (T1.setTop (mkF m 11 #[.val (.ref a1), .val (.ref b1), .val (.int (2 : Int32)), .val (.int (0 : Int32)), .unset] [(.int (2 : Int32)), (.int (0 : Int32))])) _
    refine XS.icmpNo X1.here hx rfl (hb hby dprog_6_method_5_code_11) rfl (tlt (by decide : (0 : Int32) < (2 : Int32))).2.1 ?_
    show Steps p.tables e below (T1.setTop (mkF m 14 #[.val (.ref a1), .val (.ref b1), .val (.int (2 : Int32)), .val (.int (0 : Int32)), .unset] [])) _
    refine XS.aloadN X1.here hx rfl (hb hby dprog_6_method_5_code_14) rfl rfl ?_
    show Steps p.tables e below (T1.setTop (mkF m 15 #[.val (.ref a1), .val (.ref b1), .val (.int (2 : Int32)), .val (.int (0 : Int32)), .unset] [(.ref b1)])) _
    refine XS.iloadN X1.here hx rfl (hb hby dprog_6_method_5_code_15) rfl ?_
    show Steps p.tables e below (T1.setTop (mkF m 16 #[.val (.ref a1), .val (.ref b1), .val (.int (2 : Int32)), .val (.int (0 : Int32)), .unset] [(.int (0 : Int32)), (.ref b1)])) _
    refine X1.aaload hx (j := (0 : Int32)) (v := (.ref aL)) Ar3.1 (State.isArrayOf_alike hZ.alike Ar3.2.1) rfl Ar3.2.2 hin3 hat3 (g := (mkF m 16 #[.val (.ref a1), .val (.ref b1), .val (.int (2 : Int32)), .val (.int (0 : Int32)), .unset] [(.int (0 : Int32)), (.ref b1)])) rfl rfl (hb hby dprog_6_method_5_code_16) _ ?_
    show Steps p.tables e below (T1.setTop (mkF m 17 #[.val (.ref a1), .val (.ref b1), .val (.int (2 : Int32)), .val (.int (0 : Int32)), .unset] [(.ref aL)])) _
    refine XS.astore X1.here hx rfl (hb hby dprog_6_method_5_code_17) rfl rfl (l' := #[.val (.ref a1), .val (.ref b1), .val (.int (2 : Int32)), .val (.int (0 : Int32)), .val (.ref aL)]) rfl ?_
    show Steps p.tables e below (T1.setTop (mkF m 19 #[.val (.ref a1), .val (.ref b1), .val (.int (2 : Int32)), .val (.int (0 : Int32)), .val (.ref aL)] [])) _
    refine XS.aload X1.here hx rfl (hb hby dprog_6_method_5_code_19) rfl rfl ?_
    exact kk)
  obtain ⟨T5, X5, e5, st5⟩ := getF X1 hx hZ hown (host := "") (Or.inl (hw _ (List.mem_of_getElem? (i := 82) rfl))) Via.refl rfl (FL.keep K1 nin0) (g := (mkF m 21 #[.val (.ref a1), .val (.ref b1), .val (.int (2 : Int32)), .val (.int (0 : Int32)), .val (.ref aL)] [(.ref aL)])) rfl rfl (hb hby dprog_6_method_5_code_21)
  have k5 : Go p e below (s₁.setTop (entryFrame m #[(.ref a1)] 5)) (T5.setTop (mkF m 24 #[.val (.ref a1), .val (.ref b1), .val (.int (2 : Int32)), .val (.int (0 : Int32)), .val (.ref aL)] [(.ref sL)])) := fun t kk => k4 t (st5 t kk)
  have k6 : Go p e below (s₁.setTop (entryFrame m #[(.ref a1)] 5)) (T5.setTop (mkF m 25 #[.val (.ref a1), .val (.ref b1), .val (.int (2 : Int32)), .val (.int (0 : Int32)), .val (.ref aL)] [(.ref a1), (.ref sL)])) := fun t kk => k5 t (by
    show Steps p.tables e below (T5.setTop (mkF m 24 #[.val (.ref a1), .val (.ref b1), .val (.int (2 : Int32)), .val (.int (0 : Int32)), .val (.ref aL)] [(.ref sL)])) _
    refine XS.aloadN X5.here hx rfl (hb hby dprog_6_method_5_code_24) rfl rfl ?_
    exact kk)
  obtain ⟨cq7, kq7, q7a, q7b, q7c⟩ := isOf hZ e5 (ESL.keep K1)
  obtain ⟨_, _, ⟨T7, L7, kx7, nx7⟩, -, X7, ⟨Lc7, hQ7, l7, y7, z7⟩, st7⟩ := X5.virtualBack hx (y := (⟨"java/lang/String", "equals", "(Ljava/lang/Object;)Z"⟩ : MethodName)) (z := (⟨"java/lang/String", "equals", "(Ljava/lang/Object;)Z"⟩ : MethodName)) hown (mvT hZ (hw _ (List.mem_of_getElem? (i := 84) rfl))) (mvT hZ (hw _ (List.mem_of_getElem? (i := 52) rfl))) (notFace_of_selects (args := #[]) (mvT hZ (hw _ (List.mem_of_getElem? (i := 54) rfl)))) (mvT hZ (hw _ (List.mem_of_getElem? (i := 54) rfl))) (mvT hZ (hw _ (List.mem_of_getElem? (i := 53) rfl))) (by decide) (StrChars.Road.eqW (W := 0) hZ heq (kI := 4) (hw _ (List.mem_of_getElem? (i := 2) rfl)) (ESL.keep K1) (VSL.keep K1 nin0) (CSL.keep K1 nin0) (ASL.keep K1 nin0) own_Lc (own_up _ own_Lb) (Nat.le_of_ble_eq_true rfl) (PE1.keep K1) (PV1.keep K1 nin0) (PC1.keep K1 nin0) (PK1.keep K1 nin0) hcd hbl hl4 (own_stakeep S1 K1) hs1 (by decide) (by decide)) q7a q7c (g := (mkF m 25 #[.val (.ref a1), .val (.ref b1), .val (.int (2 : Int32)), .val (.int (0 : Int32)), .val (.ref aL)] [(.ref a1), (.ref sL)])) rfl (by rw [hml]; rfl) (Steps.refl _) (argsL := [(.ref a1)]) (rest := []) (lenOf pd_3 rfl) rfl (by show 2 * 0 + _ ≤ _; exact Nat.le_of_eq rfl) (hb hby dprog_6_method_5_code_25) (fun _ _ => ⟨rfl, e5, (by decide : 1 + 0 ≤ _), (by decide : 2 + 0 ≤ _)⟩)
  dsimp only [Pt.U, Pt.locs, Pt.cells, Pt.slots] at X7 l7 y7 z7 st7 hQ7
  subst l7 y7 z7
  obtain ⟨hcase7, rfl, e7⟩ := hQ7
  try rw [List.append_nil] at X7
  obtain ⟨vq7, rfl, hvq7⟩ := own_case hcase7
  have k7 : Go p e below (s₁.setTop (entryFrame m #[(.ref a1)] 5)) (T7.setTop (mkF m 28 #[.val (.ref a1), .val (.ref b1), .val (.int (2 : Int32)), .val (.int (0 : Int32)), .val (.ref aL)] [(.int vq7)])) := fun t kk => k6 t (st7.trans kk)
  by_cases hc28_8 : vq7 = (0 : Int32)
  · have k9 : Go p e below (s₁.setTop (entryFrame m #[(.ref a1)] 5)) (T7.setTop (mkF m 9 #[.val (.ref a1), .val (.ref b1), .val (.int (2 : Int32)), .val (.int ((0 : Int32) + (1 : Int32))), .val (.ref aL)] [])) := fun t kk => k7 t (by
      show Steps p.tables e below (T7.setTop (mkF m 28 #[.val (.ref a1), .val (.ref b1), .val (.int (2 : Int32)), .val (.int (0 : Int32)), .val (.ref aL)] [(.int vq7)])) _
      refine XS.ifYes X7.here hx rfl (pc0 := 28) (pc' := 34) rfl (hb hby dprog_6_method_5_code_28) rfl ((if0 _ _).trans (teq hc28_8).1) (by decide) (by decide) ?_
      show Steps p.tables e below (T7.setTop (mkF m 34 #[.val (.ref a1), .val (.ref b1), .val (.int (2 : Int32)), .val (.int (0 : Int32)), .val (.ref aL)] [])) _
      refine XS.iinc X7.here hx rfl (hb hby dprog_6_method_5_code_34) rfl (l' := #[.val (.ref a1), .val (.ref b1), .val (.int (2 : Int32)), .val (.int ((0 : Int32) + (1 : Int32))), .val (.ref aL)]) rfl ?_
      show Steps p.tables e below (T7.setTop (mkF m 37 #[.val (.ref a1), .val (.ref b1), .val (.int (2 : Int32)), .val (.int ((0 : Int32) + (1 : Int32))), .val (.ref aL)] [])) _
      refine XS.goto X7.here hx rfl (pc0 := 37) (pc' := 9) rfl (hb hby dprog_6_method_5_code_37) (by decide) (by decide) ?_
      exact kk)
    have k10 : Go p e below (s₁.setTop (entryFrame m #[(.ref a1)] 5)) (T7.setTop (mkF m 9 #[.val (.ref a1), .val (.ref b1), .val (.int (2 : Int32)), .val (.int (1 : Int32)), .val (.ref aL)] [])) := k9
    obtain ⟨cl11, Ar11, -, S11, G11, H11, -⟩ := id x1_0
    have hin11 : ¬ ((1 : Int32) < 0 ∨ cl11.slots.size ≤ ((1 : Int32)).toNatClampNeg) := inb_of S11 ⟨by decide, by decide⟩
    have hat11 : cl11.slots[((1 : Int32)).toNatClampNeg]? = some (.ref aS) := H11.at hin11 rfl
    have k12 : Go p e below (s₁.setTop (entryFrame m #[(.ref a1)] 5)) (T7.setTop (mkF m 21 #[.val (.ref a1), .val (.ref b1), .val (.int (2 : Int32)), .val (.int (1 : Int32)), .val (.ref aS)] [(.ref aS)])) := fun t kk => k10 t (by
      show Steps p.tables e below (T7.setTop (mkF m 9 #[.val (.ref a1), .val (.ref b1), .val (.int (2 : Int32)), .val (.int (1 : Int32)), .val (.ref aL)] [])) _
      refine XS.iloadN X7.here hx rfl (hb hby dprog_6_method_5_code_9) rfl ?_
      show Steps p.tables e below (T7.setTop (mkF m 10 #[.val (.ref a1), .val (.ref b1), .val (.int (2 : Int32)), .val (.int (1 : Int32)), .val (.ref aL)] [(.int (1 : Int32))])) _
      refine XS.iloadN X7.here hx rfl (hb hby dprog_6_method_5_code_10) rfl ?_
      show Steps p.tables e below (T7.setTop (mkF m 11 #[.val (.ref a1), .val (.ref b1), .val (.int (2 : Int32)), .val (.int (1 : Int32)), .val (.ref aL)] [(.int (2 : Int32)), (.int (1 : Int32))])) _
      refine XS.icmpNo X7.here hx rfl (hb hby dprog_6_method_5_code_11) rfl (tlt (by decide : (1 : Int32) < (2 : Int32))).2.1 ?_
      show Steps p.tables e below (T7.setTop (mkF m 14 #[.val (.ref a1), .val (.ref b1), .val (.int (2 : Int32)), .val (.int (1 : Int32)), .val (.ref aL)] [])) _
      refine XS.aloadN X7.here hx rfl (hb hby dprog_6_method_5_code_14) rfl rfl ?_
      show Steps p.tables e below (T7.setTop (mkF m 15 #[.val (.ref a1), .val (.ref b1), .val (.int (2 : Int32)), .val (.int (1 : Int32)), .val (.ref aL)] [(.ref b1)])) _
      refine XS.iloadN X7.here hx rfl (hb hby dprog_6_method_5_code_15) rfl ?_
      show Steps p.tables e below (T7.setTop (mkF m 16 #[.val (.ref a1), .val (.ref b1), .val (.int (2 : Int32)), .val (.int (1 : Int32)), .val (.ref aL)] [(.int (1 : Int32)), (.ref b1)])) _
      refine X7.aaload hx (j := (1 : Int32)) (v := (.ref aS)) (by rw [e7]; exact Ar11.1) (State.isArrayOf_alike hZ.alike Ar11.2.1) rfl Ar11.2.2 hin11 hat11 (g := (mkF m 16 #[.val (.ref a1), .val (.ref b1), .val (.int (2 : Int32)), .val (.int (1 : Int32)), .val (.ref aL)] [(.int (1 : Int32)), (.ref b1)])) rfl rfl (hb hby dprog_6_method_5_code_16) _ ?_
      show Steps p.tables e below (T7.setTop (mkF m 17 #[.val (.ref a1), .val (.ref b1), .val (.int (2 : Int32)), .val (.int (1 : Int32)), .val (.ref aL)] [(.ref aS)])) _
      refine XS.astore X7.here hx rfl (hb hby dprog_6_method_5_code_17) rfl rfl (l' := #[.val (.ref a1), .val (.ref b1), .val (.int (2 : Int32)), .val (.int (1 : Int32)), .val (.ref aS)]) rfl ?_
      show Steps p.tables e below (T7.setTop (mkF m 19 #[.val (.ref a1), .val (.ref b1), .val (.int (2 : Int32)), .val (.int (1 : Int32)), .val (.ref aS)] [])) _
      refine XS.aload X7.here hx rfl (hb hby dprog_6_method_5_code_19) rfl rfl ?_
      exact kk)
    obtain ⟨T13, X13, e13, st13⟩ := getF X7 hx hZ hown (host := "") (Or.inl (hw _ (List.mem_of_getElem? (i := 82) rfl))) Via.refl e7 (FS.keep K1 nin0) (g := (mkF m 21 #[.val (.ref a1), .val (.ref b1), .val (.int (2 : Int32)), .val (.int (1 : Int32)), .val (.ref aS)] [(.ref aS)])) rfl rfl (hb hby dprog_6_method_5_code_21)
    have k13 : Go p e below (s₁.setTop (entryFrame m #[(.ref a1)] 5)) (T13.setTop (mkF m 24 #[.val (.ref a1), .val (.ref b1), .val (.int (2 : Int32)), .val (.int (1 : Int32)), .val (.ref aS)] [(.ref sS)])) := fun t kk => k12 t (st13 t kk)
    have k14 : Go p e below (s₁.setTop (entryFrame m #[(.ref a1)] 5)) (T13.setTop (mkF m 25 #[.val (.ref a1), .val (.ref b1), .val (.int (2 : Int32)), .val (.int (1 : Int32)), .val (.ref aS)] [(.ref a1), (.ref sS)])) := fun t kk => k13 t (by
      show Steps p.tables e below (T13.setTop (mkF m 24 #[.val (.ref a1), .val (.ref b1), .val (.int (2 : Int32)), .val (.int (1 : Int32)), .val (.ref aS)] [(.ref sS)])) _
      refine XS.aloadN X13.here hx rfl (hb hby dprog_6_method_5_code_24) rfl rfl ?_
      exact kk)
    obtain ⟨cq15, kq15, q15a, q15b, q15c⟩ := isOf hZ e13 (ESS.keep K1)
    obtain ⟨_, _, ⟨T15, L15, kx15, nx15⟩, -, X15, ⟨Lc15, hQ15, l15, y15, z15⟩, st15⟩ := X13.virtualBack hx (y := (⟨"java/lang/String", "equals", "(Ljava/lang/Object;)Z"⟩ : MethodName)) (z := (⟨"java/lang/String", "equals", "(Ljava/lang/Object;)Z"⟩ : MethodName)) hown (mvT hZ (hw _ (List.mem_of_getElem? (i := 84) rfl))) (mvT hZ (hw _ (List.mem_of_getElem? (i := 52) rfl))) (notFace_of_selects (args := #[]) (mvT hZ (hw _ (List.mem_of_getElem? (i := 54) rfl)))) (mvT hZ (hw _ (List.mem_of_getElem? (i := 54) rfl))) (mvT hZ (hw _ (List.mem_of_getElem? (i := 53) rfl))) (by decide) (StrChars.Road.eqW (W := 0) hZ heq (kI := 4) (hw _ (List.mem_of_getElem? (i := 2) rfl)) (ESS.keep K1) (VSS.keep K1 nin0) (CSS.keep K1 nin0) (ASS.keep K1 nin0) own_Sc (own_up _ own_Sb) (Nat.le_of_ble_eq_true rfl) (PE1.keep K1) (PV1.keep K1 nin0) (PC1.keep K1 nin0) (PK1.keep K1 nin0) hcd hbl hl4 (own_stakeep S1 K1) hs1 (by decide) (by decide)) q15a q15c (g := (mkF m 25 #[.val (.ref a1), .val (.ref b1), .val (.int (2 : Int32)), .val (.int (1 : Int32)), .val (.ref aS)] [(.ref a1), (.ref sS)])) rfl (by rw [hml]; rfl) (Steps.refl _) (argsL := [(.ref a1)]) (rest := []) (lenOf pd_3 rfl) rfl (by show 2 * 0 + _ ≤ _; exact Nat.le_of_eq rfl) (hb hby dprog_6_method_5_code_25) (fun _ _ => ⟨rfl, e13, (by decide : 1 + 0 ≤ _), (by decide : 2 + 0 ≤ _)⟩)
    dsimp only [Pt.U, Pt.locs, Pt.cells, Pt.slots] at X15 l15 y15 z15 st15 hQ15
    subst l15 y15 z15
    obtain ⟨hcase15, rfl, e15⟩ := hQ15
    try rw [List.append_nil] at X15
    obtain ⟨vq15, rfl, hvq15⟩ := own_case hcase15
    have k15 : Go p e below (s₁.setTop (entryFrame m #[(.ref a1)] 5)) (T15.setTop (mkF m 28 #[.val (.ref a1), .val (.ref b1), .val (.int (2 : Int32)), .val (.int (1 : Int32)), .val (.ref aS)] [(.int vq15)])) := fun t kk => k14 t (st15.trans kk)
    by_cases hc28_16 : vq15 = (0 : Int32)
    · have k17 : Go p e below (s₁.setTop (entryFrame m #[(.ref a1)] 5)) (T15.setTop (mkF m 9 #[.val (.ref a1), .val (.ref b1), .val (.int (2 : Int32)), .val (.int ((1 : Int32) + (1 : Int32))), .val (.ref aS)] [])) := fun t kk => k15 t (by
        show Steps p.tables e below (T15.setTop (mkF m 28 #[.val (.ref a1), .val (.ref b1), .val (.int (2 : Int32)), .val (.int (1 : Int32)), .val (.ref aS)] [(.int vq15)])) _
        refine XS.ifYes X15.here hx rfl (pc0 := 28) (pc' := 34) rfl (hb hby dprog_6_method_5_code_28) rfl ((if0 _ _).trans (teq hc28_16).1) (by decide) (by decide) ?_
        show Steps p.tables e below (T15.setTop (mkF m 34 #[.val (.ref a1), .val (.ref b1), .val (.int (2 : Int32)), .val (.int (1 : Int32)), .val (.ref aS)] [])) _
        refine XS.iinc X15.here hx rfl (hb hby dprog_6_method_5_code_34) rfl (l' := #[.val (.ref a1), .val (.ref b1), .val (.int (2 : Int32)), .val (.int ((1 : Int32) + (1 : Int32))), .val (.ref aS)]) rfl ?_
        show Steps p.tables e below (T15.setTop (mkF m 37 #[.val (.ref a1), .val (.ref b1), .val (.int (2 : Int32)), .val (.int ((1 : Int32) + (1 : Int32))), .val (.ref aS)] [])) _
        refine XS.goto X15.here hx rfl (pc0 := 37) (pc' := 9) rfl (hb hby dprog_6_method_5_code_37) (by decide) (by decide) ?_
        exact kk)
      have k18 : Go p e below (s₁.setTop (entryFrame m #[(.ref a1)] 5)) (T15.setTop (mkF m 9 #[.val (.ref a1), .val (.ref b1), .val (.int (2 : Int32)), .val (.int (2 : Int32)), .val (.ref aS)] [])) := k17
      have k19 : Go p e below (s₁.setTop (entryFrame m #[(.ref a1)] 5)) (T15.setTop (mkF m 41 #[.val (.ref a1), .val (.ref b1), .val (.int (2 : Int32)), .val (.int (2 : Int32)), .val (.ref aS)] [.null])) := fun t kk => k18 t (by
        show Steps p.tables e below (T15.setTop (mkF m 9 #[.val (.ref a1), .val (.ref b1), .val (.int (2 : Int32)), .val (.int (2 : Int32)), .val (.ref aS)] [])) _
        refine XS.iloadN X15.here hx rfl (hb hby dprog_6_method_5_code_9) rfl ?_
        show Steps p.tables e below (T15.setTop (mkF m 10 #[.val (.ref a1), .val (.ref b1), .val (.int (2 : Int32)), .val (.int (2 : Int32)), .val (.ref aS)] [(.int (2 : Int32))])) _
        refine XS.iloadN X15.here hx rfl (hb hby dprog_6_method_5_code_10) rfl ?_
        show Steps p.tables e below (T15.setTop (mkF m 11 #[.val (.ref a1), .val (.ref b1), .val (.int (2 : Int32)), .val (.int (2 : Int32)), .val (.ref aS)] [(.int (2 : Int32)), (.int (2 : Int32))])) _
        refine XS.icmpYes X15.here hx rfl (pc0 := 11) (pc' := 40) rfl (hb hby dprog_6_method_5_code_11) rfl (flt (by decide : ¬ ((2 : Int32) < (2 : Int32)))).2.1 (by decide) (by decide) ?_
        show Steps p.tables e below (T15.setTop (mkF m 40 #[.val (.ref a1), .val (.ref b1), .val (.int (2 : Int32)), .val (.int (2 : Int32)), .val (.ref aS)] [])) _
        refine XS.aconstNull X15.here hx rfl (hb hby dprog_6_method_5_code_40) ?_
        exact kk)
      obtain ⟨fs, hr, hrun, hended, hW, hsame⟩ := X15.leave (v := some .null) (fun h => by rw [Bd.returns] at h; cases h)
      refine ⟨_, _, k19 _ ?_, hrun, hended, _, _, rfl, ?_, ⟨_, rfl⟩, hW, hsame.mono (by decide) (by decide)⟩
      · show Steps p.tables e below (T15.setTop (mkF m 41 #[.val (.ref a1), .val (.ref b1), .val (.int (2 : Int32)), .val (.int (2 : Int32)), .val (.ref aS)] [.null])) _
        jvm_step X15.here [X15.here.top, hx, (hb hby dprog_6_method_5_code_41), X15.method', Bd.returns, Value.isRef, FieldType.isReference]
        first | (intro acts; rw [hr _ acts rfl rfl rfl]) | rw [hr _ _ rfl rfl rfl]
        exact Steps.refl _
      · show QD Z a1 va kV aL aS sL uL kL sS uS kS sl tt kk1 nz bvs cs h0 n0 _ T15.heap _
        rw [e15]
        exact ⟨congrArg some (by unfold own_named; rw [if_neg (own_no hvq7 hc28_8), if_neg (own_no hvq15 hc28_16)]), N1, K1⟩
    · have k21 : Go p e below (s₁.setTop (entryFrame m #[(.ref a1)] 5)) (T15.setTop (mkF m 33 #[.val (.ref a1), .val (.ref b1), .val (.int (2 : Int32)), .val (.int (1 : Int32)), .val (.ref aS)] [(.ref aS)])) := fun t kk => k15 t (by
        show Steps p.tables e below (T15.setTop (mkF m 28 #[.val (.ref a1), .val (.ref b1), .val (.int (2 : Int32)), .val (.int (1 : Int32)), .val (.ref aS)] [(.int vq15)])) _
        refine XS.ifNo X15.here hx rfl (hb hby dprog_6_method_5_code_28) rfl ((if0 _ _).trans (feq hc28_16).1) ?_
        show Steps p.tables e below (T15.setTop (mkF m 31 #[.val (.ref a1), .val (.ref b1), .val (.int (2 : Int32)), .val (.int (1 : Int32)), .val (.ref aS)] [])) _
        refine XS.aload X15.here hx rfl (hb hby dprog_6_method_5_code_31) rfl rfl ?_
        exact kk)
      obtain ⟨fs, hr, hrun, hended, hW, hsame⟩ := X15.leave (v := some (.ref aS)) (fun h => by rw [Bd.returns] at h; cases h)
      refine ⟨_, _, k21 _ ?_, hrun, hended, _, _, rfl, ?_, ⟨_, rfl⟩, hW, hsame.mono (by decide) (by decide)⟩
      · show Steps p.tables e below (T15.setTop (mkF m 33 #[.val (.ref a1), .val (.ref b1), .val (.int (2 : Int32)), .val (.int (1 : Int32)), .val (.ref aS)] [(.ref aS)])) _
        jvm_step X15.here [X15.here.top, hx, (hb hby dprog_6_method_5_code_33), X15.method', Bd.returns, Value.isRef, FieldType.isReference]
        first | (intro acts; rw [hr _ acts rfl rfl rfl]) | rw [hr _ _ rfl rfl rfl]
        exact Steps.refl _
      · show QD Z a1 va kV aL aS sL uL kL sS uS kS sl tt kk1 nz bvs cs h0 n0 _ T15.heap _
        rw [e15]
        exact ⟨congrArg some (by unfold own_named; rw [if_neg (own_no hvq7 hc28_8), if_pos (own_yes hvq15 hc28_16)]), N1, K1⟩
  · have k23 : Go p e below (s₁.setTop (entryFrame m #[(.ref a1)] 5)) (T7.setTop (mkF m 33 #[.val (.ref a1), .val (.ref b1), .val (.int (2 : Int32)), .val (.int (0 : Int32)), .val (.ref aL)] [(.ref aL)])) := fun t kk => k7 t (by
      show Steps p.tables e below (T7.setTop (mkF m 28 #[.val (.ref a1), .val (.ref b1), .val (.int (2 : Int32)), .val (.int (0 : Int32)), .val (.ref aL)] [(.int vq7)])) _
      refine XS.ifNo X7.here hx rfl (hb hby dprog_6_method_5_code_28) rfl ((if0 _ _).trans (feq hc28_8).1) ?_
      show Steps p.tables e below (T7.setTop (mkF m 31 #[.val (.ref a1), .val (.ref b1), .val (.int (2 : Int32)), .val (.int (0 : Int32)), .val (.ref aL)] [])) _
      refine XS.aload X7.here hx rfl (hb hby dprog_6_method_5_code_31) rfl rfl ?_
      exact kk)
    obtain ⟨fs, hr, hrun, hended, hW, hsame⟩ := X7.leave (v := some (.ref aL)) (fun h => by rw [Bd.returns] at h; cases h)
    refine ⟨_, _, k23 _ ?_, hrun, hended, _, _, rfl, ?_, ⟨_, rfl⟩, hW, hsame.mono (by decide) (by decide)⟩
    · show Steps p.tables e below (T7.setTop (mkF m 33 #[.val (.ref a1), .val (.ref b1), .val (.int (2 : Int32)), .val (.int (0 : Int32)), .val (.ref aL)] [(.ref aL)])) _
      jvm_step X7.here [X7.here.top, hx, (hb hby dprog_6_method_5_code_33), X7.method', Bd.returns, Value.isRef, FieldType.isReference]
      first | (intro acts; rw [hr _ acts rfl rfl rfl]) | rw [hr _ _ rfl rfl rfl]
      exact Steps.refl _
    · show QD Z a1 va kV aL aS sL uL kL sS uS kS sl tt kk1 nz bvs cs h0 n0 _ T7.heap _
      rw [e7]
      exact ⟨congrArg some (by unfold own_named; rw [if_pos (own_yes hvq7 hc28_8)]), N1, K1⟩
theorem pd_4 : parseMethodDescriptor "(Ljava/lang/String;IIJ)C" = some ⟨[(.object "java/lang/String"), .int, .int, .long], some .char⟩ := by decide +kernel
theorem pd_5 : parseMethodDescriptor "([C)V" = some ⟨[(.array .char)], none⟩ := by decide +kernel
theorem pd_6 : parseMethodDescriptor "(Ljava/lang/String;)Lcom/example/tabularium/tabularium/record/Deal;" = some ⟨[(.object "java/lang/String")], some (.object "com/example/tabularium/tabularium/record/Deal")⟩ := by decide +kernel
theorem ef_rm0 (m : MethodId) (x0 : Int32) (x1 : Int32) (x2 : Int64) : entryFrame m #[(.int x0), (.int x1), (.long x2)] maxLocals = mkF m 0 #[.val (.int x0), .val (.int x1), .val (.long x2), .second, .unset, .unset, .unset, .unset, .unset, .unset, .unset, .unset, .unset, .unset, .unset] [] := by first | (simp [entryFrame, mkF, argsToLocals, Value.category, maxLocals]; done) | rfl
def Q0 (Z : State) (p1 : Int32) (p2 : Int32) (q3 : Int64) (a__VALUES : Addr) (kV : ClassId) (a_LISTED : Addr) (a_SEEDED : Addr) (s_LISTED : Addr) (t_LISTED : Addr) (kL : ClassId) (s_SEEDED : Addr) (t_SEEDED : Addr) (kS : ClassId) (cs : Int32) (fm : Value) (h0 : Heap) (n0 : Nat) (v : Option Value) (h : Heap) (L : List Loc) : Prop := v = some (.int 1) ∧ Fr n0 L
set_option maxRecDepth 65536 in
set_option maxHeartbeats 40000000 in
theorem rm0 (l : Launch) (Z : State) (a0 : Array Value) (hw : ∀ d ∈ tables_1, d.before a0 Z = true) (hz : ∀ d ∈ jdkStatics_1, d.before a0 Z = true) (ws : List Jvm.Cond) (p1 : Int32) (p2 : Int32) (q3 : Int64) (a__VALUES : Addr) (kV : ClassId) (a_LISTED : Addr) (a_SEEDED : Addr) (s_LISTED : Addr) (t_LISTED : Addr) (kL : ClassId) (s_SEEDED : Addr) (t_SEEDED : Addr) (kS : ClassId) (cs : Int32) (fm : Value) (h0 : Heap) (n0 : Nat) (Z0 : n0 ≤ h0.size) (hheld : ∀ q ∈ ([("com/example/tabularium/tabularium/record/DealNamedPinLaw", 15), ("com/example/tabularium/tabularium/record/DealNamedPinLaw", 17), ("java/lang/String", 7)] : List (String × Nat)), Jvm.Lit.constHeld Z q.1 q.2) (SV : Sta Z h0 "com/example/tabularium/tabularium/record/Deal" "$VALUES" "[Lcom/example/tabularium/tabularium/record/Deal;" (.ref a__VALUES)) (PAV : Arv Z h0 a__VALUES kV (.object "com/example/tabularium/tabularium/record/Deal") (2 : Int32) [(.ref a_LISTED), (.ref a_SEEDED)] .null) (PEV : Exa Z h0 a__VALUES "[Lcom/example/tabularium/tabularium/record/Deal;") (S_LISTED : Sta Z h0 "com/example/tabularium/tabularium/record/Deal" "LISTED" "Lcom/example/tabularium/tabularium/record/Deal;" (.ref a_LISTED)) (f_LISTED : Fld Z h0 a_LISTED "com/example/tabularium/tabularium/record/Deal" "text" "Ljava/lang/String;" (.ref s_LISTED)) (es_LISTED : Exa Z h0 s_LISTED "java/lang/String") (cs_LISTED : Fld Z h0 s_LISTED "java/lang/String" "coder" "B" (.int (0 : Int32))) (vs_LISTED : Fld Z h0 s_LISTED "java/lang/String" "value" "[B" (.ref t_LISTED)) (as_LISTED : Arv Z h0 t_LISTED kL .byte (6 : Int32) [(.int (108 : Int32)), (.int (105 : Int32)), (.int (115 : Int32)), (.int (116 : Int32)), (.int (101 : Int32)), (.int (100 : Int32))] (.int (0 : Int32))) (S_SEEDED : Sta Z h0 "com/example/tabularium/tabularium/record/Deal" "SEEDED" "Lcom/example/tabularium/tabularium/record/Deal;" (.ref a_SEEDED)) (f_SEEDED : Fld Z h0 a_SEEDED "com/example/tabularium/tabularium/record/Deal" "text" "Ljava/lang/String;" (.ref s_SEEDED)) (es_SEEDED : Exa Z h0 s_SEEDED "java/lang/String") (cs_SEEDED : Fld Z h0 s_SEEDED "java/lang/String" "coder" "B" (.int (0 : Int32))) (vs_SEEDED : Fld Z h0 s_SEEDED "java/lang/String" "value" "[B" (.ref t_SEEDED)) (as_SEEDED : Arv Z h0 t_SEEDED kS .byte (6 : Int32) [(.int (115 : Int32)), (.int (101 : Int32)), (.int (101 : Int32)), (.int (100 : Int32)), (.int (101 : Int32)), (.int (100 : Int32))] (.int (0 : Int32))) (S1 : Sta Z h0 "java/lang/String" "COMPACT_STRINGS" "Z" (.int cs)) (hs1 : ¬ (cs = (0 : Int32))) (SF1 : Sta Z h0 "jdk/internal/util/Preconditions" "SIOOBE_FORMATTER" "Ljava/util/function/BiFunction;" fm) (rf1 : fm.isRef = true) :
    MetFree l x (head1 (Jvm.Cond.code x code maxLocals ret :: ws) room_1) (fun a U => a = #[(.int p1), (.int p2), (.long q3)] ∧ U = Z ∧ U.heap = h0) (fun _ _ _ _ _ => True) (fun _ U o U' => ∃ v L, o = .returned v ∧ Q0 Z p1 p2 q3 a__VALUES kV a_LISTED a_SEEDED s_LISTED t_LISTED kL s_SEEDED t_SEEDED kS cs fm h0 n0 v U'.heap L ∧ ReturnedEndW U o U' L room_1.cells room_1.slots) := by
  refine MetFree.of_bodySF (plainFor_of_name pn_1) hisR ?_
  intro p e s m args below meth c s₁ Bd hml0 hP hK
  obtain ⟨rfl, hs0, hh⟩ := hP
  have hZ : Z.Warmed39 s.vm := by rw [hs0]; exact State.Warmed39.refl Z
  have hx := Bd.exec
  have hby := Bd.bytes
  have hml : c.maxLocals = 15 := hml0
  have hown : s.vm.findClass "com/example/tabularium/tabularium/record/DealNamedPinLaw" = some m.cls := findClass_of_methodNamed Bd.named
  have hnm := (name_of_methodNamed Bd.named Bd.method).1
  have X0 : Stand p l e room_1 s m #[(.int p1), (.int p2), (.long q3)] below meth c s₁ [] 0 0 := Stand.of_body Bd
  have e0 : s₁.heap = h0 := by rw [← hh, Bd.state]; rfl
  have N0 := Fr.nil n0
  have k0 : Go p e below (s₁.setTop (entryFrame m #[(.int p1), (.int p2), (.long q3)] maxLocals)) (s₁.setTop (mkF m 0 #[.val (.int p1), .val (.int p2), .val (.long q3), .second, .unset, .unset, .unset, .unset, .unset, .unset, .unset, .unset, .unset, .unset, .unset] [])) := fun t k => castTop (ef_rm0 m p1 p2 q3) k
  have hws : ∀ d ∈ StrChars.Road.words, d.before a0 Z = true := fun d hd => hw d ((by decide +kernel : ∀ d ∈ StrChars.Road.words, d ∈ tables_1) d hd)
  have heq : ∀ d ∈ StrChars.Road.wordsEq, d.before a0 Z = true := fun d hd => hw d ((by decide +kernel : ∀ d ∈ StrChars.Road.wordsEq, d ∈ tables_1) d hd)
  have hS0 : s.Since s.vm 0 := State.WarmedH.since (State.WarmedH.refl s) 0
  have C0 : CHr Z [("com/example/tabularium/tabularium/record/DealNamedPinLaw", 15), ("com/example/tabularium/tabularium/record/DealNamedPinLaw", 17), ("java/lang/String", 7)] s.vm h0 s.vm h0 := CHr.refl (by rw [← hh, hs0]; exact CHv.start (EW.cons (hw _ (List.mem_of_getElem? (i := 60) rfl)) (by decide) (EW.cons (hw _ (List.mem_of_getElem? (i := 0) rfl)) (by decide) (EW.cons (hw _ (List.mem_of_getElem? (i := 50) rfl)) (by decide) EW.nil))) hheld (hz _ (List.mem_of_getElem? (i := 2) rfl)) (hw _ (List.mem_of_getElem? (i := 3) rfl)) (hw _ (List.mem_of_getElem? (i := 2) rfl)))
  have k1 : Go p e below (s₁.setTop (entryFrame m #[(.int p1), (.int p2), (.long q3)] maxLocals)) (s₁.setTop (mkF m 3 #[.val (.int p1), .val (.int p2), .val (.long q3), .second, .unset, .unset, .unset, .unset, .unset, .unset, .unset, .unset, .unset, .unset, .unset] [(.int (p1 &&& (1 : Int32)))])) := fun t kk => k0 t (by
    show Steps p.tables e below (s₁.setTop (mkF m 0 #[.val (.int p1), .val (.int p2), .val (.long q3), .second, .unset, .unset, .unset, .unset, .unset, .unset, .unset, .unset, .unset, .unset, .unset] [])) _
    refine XS.iloadN X0.here hx rfl (hb hby at_0) rfl ?_
    show Steps p.tables e below (s₁.setTop (mkF m 1 #[.val (.int p1), .val (.int p2), .val (.long q3), .second, .unset, .unset, .unset, .unset, .unset, .unset, .unset, .unset, .unset, .unset, .unset] [(.int p1)])) _
    refine XS.iconst X0.here hx rfl (hb hby at_1) ?_
    show Steps p.tables e below (s₁.setTop (mkF m 2 #[.val (.int p1), .val (.int p2), .val (.long q3), .second, .unset, .unset, .unset, .unset, .unset, .unset, .unset, .unset, .unset, .unset, .unset] [(.int (1 : Int32)), (.int p1)])) _
    refine XS.iand X0.here hx rfl (hb hby at_2) rfl ?_
    exact kk)
  by_cases hc3_2 : (p1 &&& (1 : Int32)) = (0 : Int32)
  · have k3 : Go p e below (s₁.setTop (entryFrame m #[(.int p1), (.int p2), (.long q3)] maxLocals)) (s₁.setTop (mkF m 11 #[.val (.int p1), .val (.int p2), .val (.long q3), .second, .unset, .unset, .unset, .unset, .unset, .unset, .unset, .unset, .unset, .unset, .unset] [])) := fun t kk => k1 t (by
      show Steps p.tables e below (s₁.setTop (mkF m 3 #[.val (.int p1), .val (.int p2), .val (.long q3), .second, .unset, .unset, .unset, .unset, .unset, .unset, .unset, .unset, .unset, .unset, .unset] [(.int (p1 &&& (1 : Int32)))])) _
      refine XS.ifYes X0.here hx rfl (pc0 := 3) (pc' := 11) rfl (hb hby at_3) rfl ((if0 _ _).trans (teq hc3_2).1) (by decide) (by decide) ?_
      exact kk)
    have wS0 : ∀ d ∈ Bundle.stringAtoms, d.before a0 Z = true := fun d hd => by
      simp only [Bundle.stringAtoms, Bundle.sN, List.mem_cons, List.not_mem_nil, or_false] at hd
      rcases hd with rfl | rfl | rfl | rfl | rfl | rfl | rfl
      · exact (hw _ (List.mem_of_getElem? (i := 1) rfl))
      · exact (hw _ (List.mem_of_getElem? (i := 2) rfl))
      · exact (hw _ (List.mem_of_getElem? (i := 3) rfl))
      · exact (hw _ (List.mem_of_getElem? (i := 4) rfl))
      · exact (hw _ (List.mem_of_getElem? (i := 5) rfl))
      · exact (hw _ (List.mem_of_getElem? (i := 6) rfl))
      · exact (hw _ (List.mem_of_getElem? (i := 7) rfl))
    have Xb5 : Stand p l e room_1 (s.setVm s.vm) m #[(.int p1), (.int p2), (.long q3)] below meth c s₁ _ _ _ := X0
    obtain ⟨a4, T4, h4, kn4, b4, kc4, X4, e4, E4, hS4, hk4, hZ4, hown4, xe4, xc4, xv4, V4, -, -, Cn4, lit4, nsf4, st4⟩ := ldcCH (s := s) (vm0 := s.vm) Xb5 hx hZ hown (hw _ (List.mem_of_getElem? (i := 0) rfl)) wS0 e0 hS0 (Nat.zero_le _) (EW.cons (hw _ (List.mem_of_getElem? (i := 60) rfl)) (by decide) (EW.cons (hw _ (List.mem_of_getElem? (i := 0) rfl)) (by decide) (EW.cons (hw _ (List.mem_of_getElem? (i := 50) rfl)) (by decide) EW.nil))) (List.mem_of_getElem? (i := 1) rfl) C0.1 (vs := [(.int (108 : Int32)), (.int (105 : Int32)), (.int (115 : Int32)), (.int (116 : Int32)), (.int (101 : Int32)), (.int (100 : Int32))]) (z := 6) ⟨by decide, by decide⟩ (by decide) rfl (g := (mkF m 11 #[.val (.int p1), .val (.int p2), .val (.long q3), .second, .unset, .unset, .unset, .unset, .unset, .unset, .unset, .unset, .unset, .unset, .unset] [])) rfl (hb hby at_11) (n := 24) (by decide) (by decide) (by decide) (by decide)
    have C4 := C0.trans Cn4
    have K4 := ((Keep.refl h0 [])).ext E4
    have Zs4 : n0 ≤ h4.size := Nat.le_trans Z0 E4.1
    have k4 : Go p e below (s₁.setTop (entryFrame m #[(.int p1), (.int p2), (.long q3)] maxLocals)) (T4.setTop (mkF m 13 #[.val (.int p1), .val (.int p2), .val (.long q3), .second, .unset, .unset, .unset, .unset, .unset, .unset, .unset, .unset, .unset, .unset, .unset] [(.ref a4)])) := fun t kk => k3 t (st4 t kk)
    have k6 : Go p e below (s₁.setTop (entryFrame m #[(.int p1), (.int p2), (.long q3)] maxLocals)) (T4.setTop (mkF m 22 #[.val (.int p1), .val (.int p2), .val (.long q3), .second, .val (.ref a4), .val (.int (((p1.toUInt32 >>> ((1 : Int32) &&& 31).toUInt32).toInt32) &&& (3 : Int32))), .unset, .unset, .unset, .unset, .unset, .unset, .unset, .unset, .unset] [])) := fun t kk => k4 t (by
      show Steps p.tables e below (T4.setTop (mkF m 13 #[.val (.int p1), .val (.int p2), .val (.long q3), .second, .unset, .unset, .unset, .unset, .unset, .unset, .unset, .unset, .unset, .unset, .unset] [(.ref a4)])) _
      refine XS.astore X4.here hx rfl (hb hby at_13) rfl rfl (l' := #[.val (.int p1), .val (.int p2), .val (.long q3), .second, .val (.ref a4), .unset, .unset, .unset, .unset, .unset, .unset, .unset, .unset, .unset, .unset]) rfl ?_
      show Steps p.tables e below (T4.setTop (mkF m 15 #[.val (.int p1), .val (.int p2), .val (.long q3), .second, .val (.ref a4), .unset, .unset, .unset, .unset, .unset, .unset, .unset, .unset, .unset, .unset] [])) _
      refine XS.iloadN X4.here hx rfl (hb hby at_15) rfl ?_
      show Steps p.tables e below (T4.setTop (mkF m 16 #[.val (.int p1), .val (.int p2), .val (.long q3), .second, .val (.ref a4), .unset, .unset, .unset, .unset, .unset, .unset, .unset, .unset, .unset, .unset] [(.int p1)])) _
      refine XS.iconst X4.here hx rfl (hb hby at_16) ?_
      show Steps p.tables e below (T4.setTop (mkF m 17 #[.val (.int p1), .val (.int p2), .val (.long q3), .second, .val (.ref a4), .unset, .unset, .unset, .unset, .unset, .unset, .unset, .unset, .unset, .unset] [(.int (1 : Int32)), (.int p1)])) _
      refine XS.iushr X4.here hx rfl (hb hby at_17) rfl ?_
      show Steps p.tables e below (T4.setTop (mkF m 18 #[.val (.int p1), .val (.int p2), .val (.long q3), .second, .val (.ref a4), .unset, .unset, .unset, .unset, .unset, .unset, .unset, .unset, .unset, .unset] [(.int ((p1.toUInt32 >>> ((1 : Int32) &&& 31).toUInt32).toInt32))])) _
      refine XS.iconst X4.here hx rfl (hb hby at_18) ?_
      show Steps p.tables e below (T4.setTop (mkF m 19 #[.val (.int p1), .val (.int p2), .val (.long q3), .second, .val (.ref a4), .unset, .unset, .unset, .unset, .unset, .unset, .unset, .unset, .unset, .unset] [(.int (3 : Int32)), (.int ((p1.toUInt32 >>> ((1 : Int32) &&& 31).toUInt32).toInt32))])) _
      refine XS.iand X4.here hx rfl (hb hby at_19) rfl ?_
      show Steps p.tables e below (T4.setTop (mkF m 20 #[.val (.int p1), .val (.int p2), .val (.long q3), .second, .val (.ref a4), .unset, .unset, .unset, .unset, .unset, .unset, .unset, .unset, .unset, .unset] [(.int (((p1.toUInt32 >>> ((1 : Int32) &&& 31).toUInt32).toInt32) &&& (3 : Int32)))])) _
      refine XS.istore X4.here hx rfl (hb hby at_20) rfl (l' := #[.val (.int p1), .val (.int p2), .val (.long q3), .second, .val (.ref a4), .val (.int (((p1.toUInt32 >>> ((1 : Int32) &&& 31).toUInt32).toInt32) &&& (3 : Int32))), .unset, .unset, .unset, .unset, .unset, .unset, .unset, .unset, .unset]) rfl ?_
      exact kk)
    obtain ⟨vl, h_vl⟩ : ∃ z : Int32, z = (((p1.toUInt32 >>> ((1 : Int32) &&& 31).toUInt32).toInt32) &&& (3 : Int32)) := ⟨_, rfl⟩
    rw [← h_vl] at k6
    have k7 : Go p e below (s₁.setTop (entryFrame m #[(.int p1), (.int p2), (.long q3)] maxLocals)) (T4.setTop (mkF m 27 #[.val (.int p1), .val (.int p2), .val (.long q3), .second, .val (.ref a4), .val (.int vl), .unset, .unset, .unset, .unset, .unset, .unset, .unset, .unset, .unset] [(.long q3), (.int p2), (.int (0 : Int32)), (.ref a4)])) := fun t kk => k6 t (by
      show Steps p.tables e below (T4.setTop (mkF m 22 #[.val (.int p1), .val (.int p2), .val (.long q3), .second, .val (.ref a4), .val (.int vl), .unset, .unset, .unset, .unset, .unset, .unset, .unset, .unset, .unset] [])) _
      refine XS.aload X4.here hx rfl (hb hby at_22) rfl rfl ?_
      show Steps p.tables e below (T4.setTop (mkF m 24 #[.val (.int p1), .val (.int p2), .val (.long q3), .second, .val (.ref a4), .val (.int vl), .unset, .unset, .unset, .unset, .unset, .unset, .unset, .unset, .unset] [(.ref a4)])) _
      refine XS.iconst X4.here hx rfl (hb hby at_24) ?_
      show Steps p.tables e below (T4.setTop (mkF m 25 #[.val (.int p1), .val (.int p2), .val (.long q3), .second, .val (.ref a4), .val (.int vl), .unset, .unset, .unset, .unset, .unset, .unset, .unset, .unset, .unset] [(.int (0 : Int32)), (.ref a4)])) _
      refine XS.iloadN X4.here hx rfl (hb hby at_25) rfl ?_
      show Steps p.tables e below (T4.setTop (mkF m 26 #[.val (.int p1), .val (.int p2), .val (.long q3), .second, .val (.ref a4), .val (.int vl), .unset, .unset, .unset, .unset, .unset, .unset, .unset, .unset, .unset] [(.int p2), (.int (0 : Int32)), (.ref a4)])) _
      refine XS.lloadN X4.here hx rfl (hb hby at_26) rfl ?_
      exact kk)
    obtain ⟨_, _, ⟨T8, L8, kx8, nx8⟩, -, X8, ⟨Lc8, hQ8, l8, y8, z8⟩, st8⟩ := Jvm.LawKit.callS X4 hx (y := (⟨"com/example/tabularium/tabularium/record/DealNamedPinLaw", "pick", "(Ljava/lang/String;IIJ)C"⟩ : MethodName)) hown4 (mvT hZ4 (hw _ (List.mem_of_getElem? (i := 8) rfl))) (mvT hZ4 (hw _ (List.mem_of_getElem? (i := 9) rfl))) (mvT hZ4 (hw _ (List.mem_of_getElem? (i := 10) rfl))) (mvT hZ4 (hw _ (List.mem_of_getElem? (i := 11) rfl))) (by decide) (backOf (W := 0) (rmK l Z a0 hw [] a4 (0 : Int32) p2 q3 own_L b4 kc4 (6 : Int32) _ cs fm 0 h4 n0 Zs4 xe4 xv4 xc4 V4 own_Lc own_Lb (own_stakeep S1 K4) hs1 (own_stakeep SF1 K4) rf1 (by decide) (by decide) rfl) hZ4 (hw _ (List.mem_of_getElem? (i := 11) rfl)) (hw _ (List.mem_of_getElem? (i := 10) rfl)) (by decide) (by decide)) (g := (mkF m 27 #[.val (.int p1), .val (.int p2), .val (.long q3), .second, .val (.ref a4), .val (.int vl), .unset, .unset, .unset, .unset, .unset, .unset, .unset, .unset, .unset] [(.long q3), (.int p2), (.int (0 : Int32)), (.ref a4)])) rfl (by rw [hml]; rfl) (argsL := [(.ref a4), (.int (0 : Int32)), (.int p2), (.long q3)]) (rest := []) (lenOf pd_4 rfl) rfl (by show 2 * 0 + _ ≤ _; exact Nat.le_of_eq rfl) (hb hby at_27) (fun _ _ => ⟨rfl, e4, (by decide : 2 + 0 ≤ _), (by decide : 28 + 0 ≤ _)⟩)
    dsimp only [Pt.U, Pt.locs, Pt.cells, Pt.slots] at X8 l8 y8 z8 st8 hQ8
    subst l8 y8 z8
    obtain ⟨ch8, rfl, hb8, rfl, e8⟩ := hQ8
    try rw [List.append_nil] at X8
    have k8 : Go p e below (s₁.setTop (entryFrame m #[(.int p1), (.int p2), (.long q3)] maxLocals)) (T8.setTop (mkF m 30 #[.val (.int p1), .val (.int p2), .val (.long q3), .second, .val (.ref a4), .val (.int vl), .unset, .unset, .unset, .unset, .unset, .unset, .unset, .unset, .unset] [(.int ch8)])) := fun t kk => k7 t (st8 t kk)
    have k9 : Go p e below (s₁.setTop (entryFrame m #[(.int p1), (.int p2), (.long q3)] maxLocals)) (T8.setTop (mkF m 37 #[.val (.int p1), .val (.int p2), .val (.long q3), .second, .val (.ref a4), .val (.int vl), .val (.int ch8), .unset, .unset, .unset, .unset, .unset, .unset, .unset, .unset] [(.long q3), (.int p2), (.int (1 : Int32)), (.ref a4)])) := fun t kk => k8 t (by
      show Steps p.tables e below (T8.setTop (mkF m 30 #[.val (.int p1), .val (.int p2), .val (.long q3), .second, .val (.ref a4), .val (.int vl), .unset, .unset, .unset, .unset, .unset, .unset, .unset, .unset, .unset] [(.int ch8)])) _
      refine XS.istore X8.here hx rfl (hb hby at_30) rfl (l' := #[.val (.int p1), .val (.int p2), .val (.long q3), .second, .val (.ref a4), .val (.int vl), .val (.int ch8), .unset, .unset, .unset, .unset, .unset, .unset, .unset, .unset]) rfl ?_
      show Steps p.tables e below (T8.setTop (mkF m 32 #[.val (.int p1), .val (.int p2), .val (.long q3), .second, .val (.ref a4), .val (.int vl), .val (.int ch8), .unset, .unset, .unset, .unset, .unset, .unset, .unset, .unset] [])) _
      refine XS.aload X8.here hx rfl (hb hby at_32) rfl rfl ?_
      show Steps p.tables e below (T8.setTop (mkF m 34 #[.val (.int p1), .val (.int p2), .val (.long q3), .second, .val (.ref a4), .val (.int vl), .val (.int ch8), .unset, .unset, .unset, .unset, .unset, .unset, .unset, .unset] [(.ref a4)])) _
      refine XS.iconst X8.here hx rfl (hb hby at_34) ?_
      show Steps p.tables e below (T8.setTop (mkF m 35 #[.val (.int p1), .val (.int p2), .val (.long q3), .second, .val (.ref a4), .val (.int vl), .val (.int ch8), .unset, .unset, .unset, .unset, .unset, .unset, .unset, .unset] [(.int (1 : Int32)), (.ref a4)])) _
      refine XS.iloadN X8.here hx rfl (hb hby at_35) rfl ?_
      show Steps p.tables e below (T8.setTop (mkF m 36 #[.val (.int p1), .val (.int p2), .val (.long q3), .second, .val (.ref a4), .val (.int vl), .val (.int ch8), .unset, .unset, .unset, .unset, .unset, .unset, .unset, .unset] [(.int p2), (.int (1 : Int32)), (.ref a4)])) _
      refine XS.lloadN X8.here hx rfl (hb hby at_36) rfl ?_
      exact kk)
    obtain ⟨_, _, ⟨T10, L10, kx10, nx10⟩, -, X10, ⟨Lc10, hQ10, l10, y10, z10⟩, st10⟩ := Jvm.LawKit.callS X8 hx (y := (⟨"com/example/tabularium/tabularium/record/DealNamedPinLaw", "pick", "(Ljava/lang/String;IIJ)C"⟩ : MethodName)) hown4 (mvT hZ4 (hw _ (List.mem_of_getElem? (i := 8) rfl))) (mvT hZ4 (hw _ (List.mem_of_getElem? (i := 9) rfl))) (mvT hZ4 (hw _ (List.mem_of_getElem? (i := 10) rfl))) (mvT hZ4 (hw _ (List.mem_of_getElem? (i := 11) rfl))) (by decide) (backOf (W := 0) (rmK l Z a0 hw [] a4 (1 : Int32) p2 q3 own_L b4 kc4 (6 : Int32) _ cs fm 1 h4 n0 Zs4 xe4 xv4 xc4 V4 own_Lc own_Lb (own_stakeep S1 K4) hs1 (own_stakeep SF1 K4) rf1 (by decide) (by decide) rfl) hZ4 (hw _ (List.mem_of_getElem? (i := 11) rfl)) (hw _ (List.mem_of_getElem? (i := 10) rfl)) (by decide) (by decide)) (g := (mkF m 37 #[.val (.int p1), .val (.int p2), .val (.long q3), .second, .val (.ref a4), .val (.int vl), .val (.int ch8), .unset, .unset, .unset, .unset, .unset, .unset, .unset, .unset] [(.long q3), (.int p2), (.int (1 : Int32)), (.ref a4)])) rfl (by rw [hml]; rfl) (argsL := [(.ref a4), (.int (1 : Int32)), (.int p2), (.long q3)]) (rest := []) (lenOf pd_4 rfl) rfl (by show 2 * 0 + _ ≤ _; exact Nat.le_of_eq rfl) (hb hby at_37) (fun _ _ => ⟨rfl, e8, (by decide : 2 + 0 ≤ _), (by decide : 28 + 0 ≤ _)⟩)
    dsimp only [Pt.U, Pt.locs, Pt.cells, Pt.slots] at X10 l10 y10 z10 st10 hQ10
    subst l10 y10 z10
    obtain ⟨ch10, rfl, hb10, rfl, e10⟩ := hQ10
    try rw [List.append_nil] at X10
    have k10 : Go p e below (s₁.setTop (entryFrame m #[(.int p1), (.int p2), (.long q3)] maxLocals)) (T10.setTop (mkF m 40 #[.val (.int p1), .val (.int p2), .val (.long q3), .second, .val (.ref a4), .val (.int vl), .val (.int ch8), .unset, .unset, .unset, .unset, .unset, .unset, .unset, .unset] [(.int ch10)])) := fun t kk => k9 t (st10 t kk)
    have k11 : Go p e below (s₁.setTop (entryFrame m #[(.int p1), (.int p2), (.long q3)] maxLocals)) (T10.setTop (mkF m 47 #[.val (.int p1), .val (.int p2), .val (.long q3), .second, .val (.ref a4), .val (.int vl), .val (.int ch8), .val (.int ch10), .unset, .unset, .unset, .unset, .unset, .unset, .unset] [(.long q3), (.int p2), (.int (2 : Int32)), (.ref a4)])) := fun t kk => k10 t (by
      show Steps p.tables e below (T10.setTop (mkF m 40 #[.val (.int p1), .val (.int p2), .val (.long q3), .second, .val (.ref a4), .val (.int vl), .val (.int ch8), .unset, .unset, .unset, .unset, .unset, .unset, .unset, .unset] [(.int ch10)])) _
      refine XS.istore X10.here hx rfl (hb hby at_40) rfl (l' := #[.val (.int p1), .val (.int p2), .val (.long q3), .second, .val (.ref a4), .val (.int vl), .val (.int ch8), .val (.int ch10), .unset, .unset, .unset, .unset, .unset, .unset, .unset]) rfl ?_
      show Steps p.tables e below (T10.setTop (mkF m 42 #[.val (.int p1), .val (.int p2), .val (.long q3), .second, .val (.ref a4), .val (.int vl), .val (.int ch8), .val (.int ch10), .unset, .unset, .unset, .unset, .unset, .unset, .unset] [])) _
      refine XS.aload X10.here hx rfl (hb hby at_42) rfl rfl ?_
      show Steps p.tables e below (T10.setTop (mkF m 44 #[.val (.int p1), .val (.int p2), .val (.long q3), .second, .val (.ref a4), .val (.int vl), .val (.int ch8), .val (.int ch10), .unset, .unset, .unset, .unset, .unset, .unset, .unset] [(.ref a4)])) _
      refine XS.iconst X10.here hx rfl (hb hby at_44) ?_
      show Steps p.tables e below (T10.setTop (mkF m 45 #[.val (.int p1), .val (.int p2), .val (.long q3), .second, .val (.ref a4), .val (.int vl), .val (.int ch8), .val (.int ch10), .unset, .unset, .unset, .unset, .unset, .unset, .unset] [(.int (2 : Int32)), (.ref a4)])) _
      refine XS.iloadN X10.here hx rfl (hb hby at_45) rfl ?_
      show Steps p.tables e below (T10.setTop (mkF m 46 #[.val (.int p1), .val (.int p2), .val (.long q3), .second, .val (.ref a4), .val (.int vl), .val (.int ch8), .val (.int ch10), .unset, .unset, .unset, .unset, .unset, .unset, .unset] [(.int p2), (.int (2 : Int32)), (.ref a4)])) _
      refine XS.lloadN X10.here hx rfl (hb hby at_46) rfl ?_
      exact kk)
    obtain ⟨_, _, ⟨T12, L12, kx12, nx12⟩, -, X12, ⟨Lc12, hQ12, l12, y12, z12⟩, st12⟩ := Jvm.LawKit.callS X10 hx (y := (⟨"com/example/tabularium/tabularium/record/DealNamedPinLaw", "pick", "(Ljava/lang/String;IIJ)C"⟩ : MethodName)) hown4 (mvT hZ4 (hw _ (List.mem_of_getElem? (i := 8) rfl))) (mvT hZ4 (hw _ (List.mem_of_getElem? (i := 9) rfl))) (mvT hZ4 (hw _ (List.mem_of_getElem? (i := 10) rfl))) (mvT hZ4 (hw _ (List.mem_of_getElem? (i := 11) rfl))) (by decide) (backOf (W := 0) (rmK l Z a0 hw [] a4 (2 : Int32) p2 q3 own_L b4 kc4 (6 : Int32) _ cs fm 2 h4 n0 Zs4 xe4 xv4 xc4 V4 own_Lc own_Lb (own_stakeep S1 K4) hs1 (own_stakeep SF1 K4) rf1 (by decide) (by decide) rfl) hZ4 (hw _ (List.mem_of_getElem? (i := 11) rfl)) (hw _ (List.mem_of_getElem? (i := 10) rfl)) (by decide) (by decide)) (g := (mkF m 47 #[.val (.int p1), .val (.int p2), .val (.long q3), .second, .val (.ref a4), .val (.int vl), .val (.int ch8), .val (.int ch10), .unset, .unset, .unset, .unset, .unset, .unset, .unset] [(.long q3), (.int p2), (.int (2 : Int32)), (.ref a4)])) rfl (by rw [hml]; rfl) (argsL := [(.ref a4), (.int (2 : Int32)), (.int p2), (.long q3)]) (rest := []) (lenOf pd_4 rfl) rfl (by show 2 * 0 + _ ≤ _; exact Nat.le_of_eq rfl) (hb hby at_47) (fun _ _ => ⟨rfl, e10, (by decide : 2 + 0 ≤ _), (by decide : 28 + 0 ≤ _)⟩)
    dsimp only [Pt.U, Pt.locs, Pt.cells, Pt.slots] at X12 l12 y12 z12 st12 hQ12
    subst l12 y12 z12
    obtain ⟨ch12, rfl, hb12, rfl, e12⟩ := hQ12
    try rw [List.append_nil] at X12
    have k12 : Go p e below (s₁.setTop (entryFrame m #[(.int p1), (.int p2), (.long q3)] maxLocals)) (T12.setTop (mkF m 50 #[.val (.int p1), .val (.int p2), .val (.long q3), .second, .val (.ref a4), .val (.int vl), .val (.int ch8), .val (.int ch10), .unset, .unset, .unset, .unset, .unset, .unset, .unset] [(.int ch12)])) := fun t kk => k11 t (st12 t kk)
    have k13 : Go p e below (s₁.setTop (entryFrame m #[(.int p1), (.int p2), (.long q3)] maxLocals)) (T12.setTop (mkF m 57 #[.val (.int p1), .val (.int p2), .val (.long q3), .second, .val (.ref a4), .val (.int vl), .val (.int ch8), .val (.int ch10), .val (.int ch12), .unset, .unset, .unset, .unset, .unset, .unset] [(.long q3), (.int p2), (.int (3 : Int32)), (.ref a4)])) := fun t kk => k12 t (by
      show Steps p.tables e below (T12.setTop (mkF m 50 #[.val (.int p1), .val (.int p2), .val (.long q3), .second, .val (.ref a4), .val (.int vl), .val (.int ch8), .val (.int ch10), .unset, .unset, .unset, .unset, .unset, .unset, .unset] [(.int ch12)])) _
      refine XS.istore X12.here hx rfl (hb hby at_50) rfl (l' := #[.val (.int p1), .val (.int p2), .val (.long q3), .second, .val (.ref a4), .val (.int vl), .val (.int ch8), .val (.int ch10), .val (.int ch12), .unset, .unset, .unset, .unset, .unset, .unset]) rfl ?_
      show Steps p.tables e below (T12.setTop (mkF m 52 #[.val (.int p1), .val (.int p2), .val (.long q3), .second, .val (.ref a4), .val (.int vl), .val (.int ch8), .val (.int ch10), .val (.int ch12), .unset, .unset, .unset, .unset, .unset, .unset] [])) _
      refine XS.aload X12.here hx rfl (hb hby at_52) rfl rfl ?_
      show Steps p.tables e below (T12.setTop (mkF m 54 #[.val (.int p1), .val (.int p2), .val (.long q3), .second, .val (.ref a4), .val (.int vl), .val (.int ch8), .val (.int ch10), .val (.int ch12), .unset, .unset, .unset, .unset, .unset, .unset] [(.ref a4)])) _
      refine XS.iconst X12.here hx rfl (hb hby at_54) ?_
      show Steps p.tables e below (T12.setTop (mkF m 55 #[.val (.int p1), .val (.int p2), .val (.long q3), .second, .val (.ref a4), .val (.int vl), .val (.int ch8), .val (.int ch10), .val (.int ch12), .unset, .unset, .unset, .unset, .unset, .unset] [(.int (3 : Int32)), (.ref a4)])) _
      refine XS.iloadN X12.here hx rfl (hb hby at_55) rfl ?_
      show Steps p.tables e below (T12.setTop (mkF m 56 #[.val (.int p1), .val (.int p2), .val (.long q3), .second, .val (.ref a4), .val (.int vl), .val (.int ch8), .val (.int ch10), .val (.int ch12), .unset, .unset, .unset, .unset, .unset, .unset] [(.int p2), (.int (3 : Int32)), (.ref a4)])) _
      refine XS.lloadN X12.here hx rfl (hb hby at_56) rfl ?_
      exact kk)
    obtain ⟨_, _, ⟨T14, L14, kx14, nx14⟩, -, X14, ⟨Lc14, hQ14, l14, y14, z14⟩, st14⟩ := Jvm.LawKit.callS X12 hx (y := (⟨"com/example/tabularium/tabularium/record/DealNamedPinLaw", "pick", "(Ljava/lang/String;IIJ)C"⟩ : MethodName)) hown4 (mvT hZ4 (hw _ (List.mem_of_getElem? (i := 8) rfl))) (mvT hZ4 (hw _ (List.mem_of_getElem? (i := 9) rfl))) (mvT hZ4 (hw _ (List.mem_of_getElem? (i := 10) rfl))) (mvT hZ4 (hw _ (List.mem_of_getElem? (i := 11) rfl))) (by decide) (backOf (W := 0) (rmK l Z a0 hw [] a4 (3 : Int32) p2 q3 own_L b4 kc4 (6 : Int32) _ cs fm 3 h4 n0 Zs4 xe4 xv4 xc4 V4 own_Lc own_Lb (own_stakeep S1 K4) hs1 (own_stakeep SF1 K4) rf1 (by decide) (by decide) rfl) hZ4 (hw _ (List.mem_of_getElem? (i := 11) rfl)) (hw _ (List.mem_of_getElem? (i := 10) rfl)) (by decide) (by decide)) (g := (mkF m 57 #[.val (.int p1), .val (.int p2), .val (.long q3), .second, .val (.ref a4), .val (.int vl), .val (.int ch8), .val (.int ch10), .val (.int ch12), .unset, .unset, .unset, .unset, .unset, .unset] [(.long q3), (.int p2), (.int (3 : Int32)), (.ref a4)])) rfl (by rw [hml]; rfl) (argsL := [(.ref a4), (.int (3 : Int32)), (.int p2), (.long q3)]) (rest := []) (lenOf pd_4 rfl) rfl (by show 2 * 0 + _ ≤ _; exact Nat.le_of_eq rfl) (hb hby at_57) (fun _ _ => ⟨rfl, e12, (by decide : 2 + 0 ≤ _), (by decide : 28 + 0 ≤ _)⟩)
    dsimp only [Pt.U, Pt.locs, Pt.cells, Pt.slots] at X14 l14 y14 z14 st14 hQ14
    subst l14 y14 z14
    obtain ⟨ch14, rfl, hb14, rfl, e14⟩ := hQ14
    try rw [List.append_nil] at X14
    have k14 : Go p e below (s₁.setTop (entryFrame m #[(.int p1), (.int p2), (.long q3)] maxLocals)) (T14.setTop (mkF m 60 #[.val (.int p1), .val (.int p2), .val (.long q3), .second, .val (.ref a4), .val (.int vl), .val (.int ch8), .val (.int ch10), .val (.int ch12), .unset, .unset, .unset, .unset, .unset, .unset] [(.int ch14)])) := fun t kk => k13 t (st14 t kk)
    have k15 : Go p e below (s₁.setTop (entryFrame m #[(.int p1), (.int p2), (.long q3)] maxLocals)) (T14.setTop (mkF m 67 #[.val (.int p1), .val (.int p2), .val (.long q3), .second, .val (.ref a4), .val (.int vl), .val (.int ch8), .val (.int ch10), .val (.int ch12), .val (.int ch14), .unset, .unset, .unset, .unset, .unset] [(.long q3), (.int p2), (.int (4 : Int32)), (.ref a4)])) := fun t kk => k14 t (by
      show Steps p.tables e below (T14.setTop (mkF m 60 #[.val (.int p1), .val (.int p2), .val (.long q3), .second, .val (.ref a4), .val (.int vl), .val (.int ch8), .val (.int ch10), .val (.int ch12), .unset, .unset, .unset, .unset, .unset, .unset] [(.int ch14)])) _
      refine XS.istore X14.here hx rfl (hb hby at_60) rfl (l' := #[.val (.int p1), .val (.int p2), .val (.long q3), .second, .val (.ref a4), .val (.int vl), .val (.int ch8), .val (.int ch10), .val (.int ch12), .val (.int ch14), .unset, .unset, .unset, .unset, .unset]) rfl ?_
      show Steps p.tables e below (T14.setTop (mkF m 62 #[.val (.int p1), .val (.int p2), .val (.long q3), .second, .val (.ref a4), .val (.int vl), .val (.int ch8), .val (.int ch10), .val (.int ch12), .val (.int ch14), .unset, .unset, .unset, .unset, .unset] [])) _
      refine XS.aload X14.here hx rfl (hb hby at_62) rfl rfl ?_
      show Steps p.tables e below (T14.setTop (mkF m 64 #[.val (.int p1), .val (.int p2), .val (.long q3), .second, .val (.ref a4), .val (.int vl), .val (.int ch8), .val (.int ch10), .val (.int ch12), .val (.int ch14), .unset, .unset, .unset, .unset, .unset] [(.ref a4)])) _
      refine XS.iconst X14.here hx rfl (hb hby at_64) ?_
      show Steps p.tables e below (T14.setTop (mkF m 65 #[.val (.int p1), .val (.int p2), .val (.long q3), .second, .val (.ref a4), .val (.int vl), .val (.int ch8), .val (.int ch10), .val (.int ch12), .val (.int ch14), .unset, .unset, .unset, .unset, .unset] [(.int (4 : Int32)), (.ref a4)])) _
      refine XS.iloadN X14.here hx rfl (hb hby at_65) rfl ?_
      show Steps p.tables e below (T14.setTop (mkF m 66 #[.val (.int p1), .val (.int p2), .val (.long q3), .second, .val (.ref a4), .val (.int vl), .val (.int ch8), .val (.int ch10), .val (.int ch12), .val (.int ch14), .unset, .unset, .unset, .unset, .unset] [(.int p2), (.int (4 : Int32)), (.ref a4)])) _
      refine XS.lloadN X14.here hx rfl (hb hby at_66) rfl ?_
      exact kk)
    obtain ⟨_, _, ⟨T16, L16, kx16, nx16⟩, -, X16, ⟨Lc16, hQ16, l16, y16, z16⟩, st16⟩ := Jvm.LawKit.callS X14 hx (y := (⟨"com/example/tabularium/tabularium/record/DealNamedPinLaw", "pick", "(Ljava/lang/String;IIJ)C"⟩ : MethodName)) hown4 (mvT hZ4 (hw _ (List.mem_of_getElem? (i := 8) rfl))) (mvT hZ4 (hw _ (List.mem_of_getElem? (i := 9) rfl))) (mvT hZ4 (hw _ (List.mem_of_getElem? (i := 10) rfl))) (mvT hZ4 (hw _ (List.mem_of_getElem? (i := 11) rfl))) (by decide) (backOf (W := 0) (rmK l Z a0 hw [] a4 (4 : Int32) p2 q3 own_L b4 kc4 (6 : Int32) _ cs fm 4 h4 n0 Zs4 xe4 xv4 xc4 V4 own_Lc own_Lb (own_stakeep S1 K4) hs1 (own_stakeep SF1 K4) rf1 (by decide) (by decide) rfl) hZ4 (hw _ (List.mem_of_getElem? (i := 11) rfl)) (hw _ (List.mem_of_getElem? (i := 10) rfl)) (by decide) (by decide)) (g := (mkF m 67 #[.val (.int p1), .val (.int p2), .val (.long q3), .second, .val (.ref a4), .val (.int vl), .val (.int ch8), .val (.int ch10), .val (.int ch12), .val (.int ch14), .unset, .unset, .unset, .unset, .unset] [(.long q3), (.int p2), (.int (4 : Int32)), (.ref a4)])) rfl (by rw [hml]; rfl) (argsL := [(.ref a4), (.int (4 : Int32)), (.int p2), (.long q3)]) (rest := []) (lenOf pd_4 rfl) rfl (by show 2 * 0 + _ ≤ _; exact Nat.le_of_eq rfl) (hb hby at_67) (fun _ _ => ⟨rfl, e14, (by decide : 2 + 0 ≤ _), (by decide : 28 + 0 ≤ _)⟩)
    dsimp only [Pt.U, Pt.locs, Pt.cells, Pt.slots] at X16 l16 y16 z16 st16 hQ16
    subst l16 y16 z16
    obtain ⟨ch16, rfl, hb16, rfl, e16⟩ := hQ16
    try rw [List.append_nil] at X16
    have k16 : Go p e below (s₁.setTop (entryFrame m #[(.int p1), (.int p2), (.long q3)] maxLocals)) (T16.setTop (mkF m 70 #[.val (.int p1), .val (.int p2), .val (.long q3), .second, .val (.ref a4), .val (.int vl), .val (.int ch8), .val (.int ch10), .val (.int ch12), .val (.int ch14), .unset, .unset, .unset, .unset, .unset] [(.int ch16)])) := fun t kk => k15 t (st16 t kk)
    have k17 : Go p e below (s₁.setTop (entryFrame m #[(.int p1), (.int p2), (.long q3)] maxLocals)) (T16.setTop (mkF m 77 #[.val (.int p1), .val (.int p2), .val (.long q3), .second, .val (.ref a4), .val (.int vl), .val (.int ch8), .val (.int ch10), .val (.int ch12), .val (.int ch14), .val (.int ch16), .unset, .unset, .unset, .unset] [(.long q3), (.int p2), (.int (5 : Int32)), (.ref a4)])) := fun t kk => k16 t (by
      show Steps p.tables e below (T16.setTop (mkF m 70 #[.val (.int p1), .val (.int p2), .val (.long q3), .second, .val (.ref a4), .val (.int vl), .val (.int ch8), .val (.int ch10), .val (.int ch12), .val (.int ch14), .unset, .unset, .unset, .unset, .unset] [(.int ch16)])) _
      refine XS.istore X16.here hx rfl (hb hby at_70) rfl (l' := #[.val (.int p1), .val (.int p2), .val (.long q3), .second, .val (.ref a4), .val (.int vl), .val (.int ch8), .val (.int ch10), .val (.int ch12), .val (.int ch14), .val (.int ch16), .unset, .unset, .unset, .unset]) rfl ?_
      show Steps p.tables e below (T16.setTop (mkF m 72 #[.val (.int p1), .val (.int p2), .val (.long q3), .second, .val (.ref a4), .val (.int vl), .val (.int ch8), .val (.int ch10), .val (.int ch12), .val (.int ch14), .val (.int ch16), .unset, .unset, .unset, .unset] [])) _
      refine XS.aload X16.here hx rfl (hb hby at_72) rfl rfl ?_
      show Steps p.tables e below (T16.setTop (mkF m 74 #[.val (.int p1), .val (.int p2), .val (.long q3), .second, .val (.ref a4), .val (.int vl), .val (.int ch8), .val (.int ch10), .val (.int ch12), .val (.int ch14), .val (.int ch16), .unset, .unset, .unset, .unset] [(.ref a4)])) _
      refine XS.iconst X16.here hx rfl (hb hby at_74) ?_
      show Steps p.tables e below (T16.setTop (mkF m 75 #[.val (.int p1), .val (.int p2), .val (.long q3), .second, .val (.ref a4), .val (.int vl), .val (.int ch8), .val (.int ch10), .val (.int ch12), .val (.int ch14), .val (.int ch16), .unset, .unset, .unset, .unset] [(.int (5 : Int32)), (.ref a4)])) _
      refine XS.iloadN X16.here hx rfl (hb hby at_75) rfl ?_
      show Steps p.tables e below (T16.setTop (mkF m 76 #[.val (.int p1), .val (.int p2), .val (.long q3), .second, .val (.ref a4), .val (.int vl), .val (.int ch8), .val (.int ch10), .val (.int ch12), .val (.int ch14), .val (.int ch16), .unset, .unset, .unset, .unset] [(.int p2), (.int (5 : Int32)), (.ref a4)])) _
      refine XS.lloadN X16.here hx rfl (hb hby at_76) rfl ?_
      exact kk)
    obtain ⟨_, _, ⟨T18, L18, kx18, nx18⟩, -, X18, ⟨Lc18, hQ18, l18, y18, z18⟩, st18⟩ := Jvm.LawKit.callS X16 hx (y := (⟨"com/example/tabularium/tabularium/record/DealNamedPinLaw", "pick", "(Ljava/lang/String;IIJ)C"⟩ : MethodName)) hown4 (mvT hZ4 (hw _ (List.mem_of_getElem? (i := 8) rfl))) (mvT hZ4 (hw _ (List.mem_of_getElem? (i := 9) rfl))) (mvT hZ4 (hw _ (List.mem_of_getElem? (i := 10) rfl))) (mvT hZ4 (hw _ (List.mem_of_getElem? (i := 11) rfl))) (by decide) (backOf (W := 0) (rmK l Z a0 hw [] a4 (5 : Int32) p2 q3 own_L b4 kc4 (6 : Int32) _ cs fm 5 h4 n0 Zs4 xe4 xv4 xc4 V4 own_Lc own_Lb (own_stakeep S1 K4) hs1 (own_stakeep SF1 K4) rf1 (by decide) (by decide) rfl) hZ4 (hw _ (List.mem_of_getElem? (i := 11) rfl)) (hw _ (List.mem_of_getElem? (i := 10) rfl)) (by decide) (by decide)) (g := (mkF m 77 #[.val (.int p1), .val (.int p2), .val (.long q3), .second, .val (.ref a4), .val (.int vl), .val (.int ch8), .val (.int ch10), .val (.int ch12), .val (.int ch14), .val (.int ch16), .unset, .unset, .unset, .unset] [(.long q3), (.int p2), (.int (5 : Int32)), (.ref a4)])) rfl (by rw [hml]; rfl) (argsL := [(.ref a4), (.int (5 : Int32)), (.int p2), (.long q3)]) (rest := []) (lenOf pd_4 rfl) rfl (by show 2 * 0 + _ ≤ _; exact Nat.le_of_eq rfl) (hb hby at_77) (fun _ _ => ⟨rfl, e16, (by decide : 2 + 0 ≤ _), (by decide : 28 + 0 ≤ _)⟩)
    dsimp only [Pt.U, Pt.locs, Pt.cells, Pt.slots] at X18 l18 y18 z18 st18 hQ18
    subst l18 y18 z18
    obtain ⟨ch18, rfl, hb18, rfl, e18⟩ := hQ18
    try rw [List.append_nil] at X18
    have k18 : Go p e below (s₁.setTop (entryFrame m #[(.int p1), (.int p2), (.long q3)] maxLocals)) (T18.setTop (mkF m 80 #[.val (.int p1), .val (.int p2), .val (.long q3), .second, .val (.ref a4), .val (.int vl), .val (.int ch8), .val (.int ch10), .val (.int ch12), .val (.int ch14), .val (.int ch16), .unset, .unset, .unset, .unset] [(.int ch18)])) := fun t kk => k17 t (st18 t kk)
    have k19 : Go p e below (s₁.setTop (entryFrame m #[(.int p1), (.int p2), (.long q3)] maxLocals)) (T18.setTop (mkF m 94 #[.val (.int p1), .val (.int p2), .val (.long q3), .second, .val (.ref a4), .val (.int vl), .val (.int ch8), .val (.int ch10), .val (.int ch12), .val (.int ch14), .val (.int ch16), .val (.int ch18), .val (.int (((((q3.toUInt64 >>> ((48 : Int32) &&& 0x3f).toInt64.toUInt64).toInt64) &&& (255 : Int64)).toInt32).toUInt32.toUInt16.toUInt32.toInt32)), .unset, .unset] [])) := fun t kk => k18 t (by
      show Steps p.tables e below (T18.setTop (mkF m 80 #[.val (.int p1), .val (.int p2), .val (.long q3), .second, .val (.ref a4), .val (.int vl), .val (.int ch8), .val (.int ch10), .val (.int ch12), .val (.int ch14), .val (.int ch16), .unset, .unset, .unset, .unset] [(.int ch18)])) _
      refine XS.istore X18.here hx rfl (hb hby at_80) rfl (l' := #[.val (.int p1), .val (.int p2), .val (.long q3), .second, .val (.ref a4), .val (.int vl), .val (.int ch8), .val (.int ch10), .val (.int ch12), .val (.int ch14), .val (.int ch16), .val (.int ch18), .unset, .unset, .unset]) rfl ?_
      show Steps p.tables e below (T18.setTop (mkF m 82 #[.val (.int p1), .val (.int p2), .val (.long q3), .second, .val (.ref a4), .val (.int vl), .val (.int ch8), .val (.int ch10), .val (.int ch12), .val (.int ch14), .val (.int ch16), .val (.int ch18), .unset, .unset, .unset] [])) _
      refine XS.lloadN X18.here hx rfl (hb hby at_82) rfl ?_
      show Steps p.tables e below (T18.setTop (mkF m 83 #[.val (.int p1), .val (.int p2), .val (.long q3), .second, .val (.ref a4), .val (.int vl), .val (.int ch8), .val (.int ch10), .val (.int ch12), .val (.int ch14), .val (.int ch16), .val (.int ch18), .unset, .unset, .unset] [(.long q3)])) _
      refine XS.bipush X18.here hx rfl (hb hby at_83) ?_
      show Steps p.tables e below (T18.setTop (mkF m 85 #[.val (.int p1), .val (.int p2), .val (.long q3), .second, .val (.ref a4), .val (.int vl), .val (.int ch8), .val (.int ch10), .val (.int ch12), .val (.int ch14), .val (.int ch16), .val (.int ch18), .unset, .unset, .unset] [(.int (48 : Int32)), (.long q3)])) _
      refine XS.lushr X18.here hx rfl (hb hby at_85) rfl ?_
      show Steps p.tables e below (T18.setTop (mkF m 86 #[.val (.int p1), .val (.int p2), .val (.long q3), .second, .val (.ref a4), .val (.int vl), .val (.int ch8), .val (.int ch10), .val (.int ch12), .val (.int ch14), .val (.int ch16), .val (.int ch18), .unset, .unset, .unset] [(.long ((q3.toUInt64 >>> ((48 : Int32) &&& 0x3f).toInt64.toUInt64).toInt64))])) _
      refine X18.ldc2Long hx hown4 (mvT hZ4 (hw _ (List.mem_of_getElem? (i := 12) rfl))) (g := (mkF m 86 #[.val (.int p1), .val (.int p2), .val (.long q3), .second, .val (.ref a4), .val (.int vl), .val (.int ch8), .val (.int ch10), .val (.int ch12), .val (.int ch14), .val (.int ch16), .val (.int ch18), .unset, .unset, .unset] [(.long ((q3.toUInt64 >>> ((48 : Int32) &&& 0x3f).toInt64.toUInt64).toInt64))])) rfl (hb hby at_86) _ ?_
      show Steps p.tables e below (T18.setTop (mkF m 89 #[.val (.int p1), .val (.int p2), .val (.long q3), .second, .val (.ref a4), .val (.int vl), .val (.int ch8), .val (.int ch10), .val (.int ch12), .val (.int ch14), .val (.int ch16), .val (.int ch18), .unset, .unset, .unset] [(.long (255 : Int64)), (.long ((q3.toUInt64 >>> ((48 : Int32) &&& 0x3f).toInt64.toUInt64).toInt64))])) _
      refine XS.land X18.here hx rfl (hb hby at_89) rfl ?_
      show Steps p.tables e below (T18.setTop (mkF m 90 #[.val (.int p1), .val (.int p2), .val (.long q3), .second, .val (.ref a4), .val (.int vl), .val (.int ch8), .val (.int ch10), .val (.int ch12), .val (.int ch14), .val (.int ch16), .val (.int ch18), .unset, .unset, .unset] [(.long (((q3.toUInt64 >>> ((48 : Int32) &&& 0x3f).toInt64.toUInt64).toInt64) &&& (255 : Int64)))])) _
      refine XS.l2i X18.here hx rfl (hb hby at_90) rfl ?_
      show Steps p.tables e below (T18.setTop (mkF m 91 #[.val (.int p1), .val (.int p2), .val (.long q3), .second, .val (.ref a4), .val (.int vl), .val (.int ch8), .val (.int ch10), .val (.int ch12), .val (.int ch14), .val (.int ch16), .val (.int ch18), .unset, .unset, .unset] [(.int ((((q3.toUInt64 >>> ((48 : Int32) &&& 0x3f).toInt64.toUInt64).toInt64) &&& (255 : Int64)).toInt32))])) _
      refine XS.i2c X18.here hx rfl (hb hby at_91) rfl ?_
      show Steps p.tables e below (T18.setTop (mkF m 92 #[.val (.int p1), .val (.int p2), .val (.long q3), .second, .val (.ref a4), .val (.int vl), .val (.int ch8), .val (.int ch10), .val (.int ch12), .val (.int ch14), .val (.int ch16), .val (.int ch18), .unset, .unset, .unset] [(.int (((((q3.toUInt64 >>> ((48 : Int32) &&& 0x3f).toInt64.toUInt64).toInt64) &&& (255 : Int64)).toInt32).toUInt32.toUInt16.toUInt32.toInt32))])) _
      refine XS.istore X18.here hx rfl (hb hby at_92) rfl (l' := #[.val (.int p1), .val (.int p2), .val (.long q3), .second, .val (.ref a4), .val (.int vl), .val (.int ch8), .val (.int ch10), .val (.int ch12), .val (.int ch14), .val (.int ch16), .val (.int ch18), .val (.int (((((q3.toUInt64 >>> ((48 : Int32) &&& 0x3f).toInt64.toUInt64).toInt64) &&& (255 : Int64)).toInt32).toUInt32.toUInt16.toUInt32.toInt32)), .unset, .unset]) rfl ?_
      exact kk)
    obtain ⟨vc6, h_vc6⟩ : ∃ z : Int32, z = (((((q3.toUInt64 >>> ((48 : Int32) &&& 0x3f).toInt64.toUInt64).toInt64) &&& (255 : Int64)).toInt32).toUInt32.toUInt16.toUInt32.toInt32) := ⟨_, rfl⟩
    rw [← h_vc6] at k19
    have hbc6 : ¬ vc6 < 0 ∧ ¬ (255 : Int32) < vc6 := by rw [h_vc6]; exact own_c8 _
    have k20 : Go p e below (s₁.setTop (entryFrame m #[(.int p1), (.int p2), (.long q3)] maxLocals)) (T18.setTop (mkF m 96 #[.val (.int p1), .val (.int p2), .val (.long q3), .second, .val (.ref a4), .val (.int vl), .val (.int ch8), .val (.int ch10), .val (.int ch12), .val (.int ch14), .val (.int ch16), .val (.int ch18), .val (.int vc6), .unset, .unset] [(.int vl)])) := fun t kk => k19 t (by
      show Steps p.tables e below (T18.setTop (mkF m 94 #[.val (.int p1), .val (.int p2), .val (.long q3), .second, .val (.ref a4), .val (.int vl), .val (.int ch8), .val (.int ch10), .val (.int ch12), .val (.int ch14), .val (.int ch16), .val (.int ch18), .val (.int vc6), .unset, .unset] [])) _
      refine XS.iload X18.here hx rfl (hb hby at_94) rfl ?_
      exact kk)
    by_cases hc96_21 : vl = (0 : Int32)
    · have k22 : Go p e below (s₁.setTop (entryFrame m #[(.int p1), (.int p2), (.long q3)] maxLocals)) (T18.setTop (mkF m 99 #[.val (.int p1), .val (.int p2), .val (.long q3), .second, .val (.ref a4), .val (.int vl), .val (.int ch8), .val (.int ch10), .val (.int ch12), .val (.int ch14), .val (.int ch16), .val (.int ch18), .val (.int vc6), .unset, .unset] [])) := fun t kk => k20 t (by
        show Steps p.tables e below (T18.setTop (mkF m 96 #[.val (.int p1), .val (.int p2), .val (.long q3), .second, .val (.ref a4), .val (.int vl), .val (.int ch8), .val (.int ch10), .val (.int ch12), .val (.int ch14), .val (.int ch16), .val (.int ch18), .val (.int vc6), .unset, .unset] [(.int vl)])) _
        refine XS.ifNo X18.here hx rfl (hb hby at_96) rfl ((if0 _ _).trans (teq hc96_21).2) ?_
        exact kk)
      obtain ⟨T23, h23, X23, e23, E23, A23, D23, -, st23⟩ := newO X18 hx hZ4 hown4 (hw _ (List.mem_of_getElem? (i := 38) rfl)) (hw _ (List.mem_of_getElem? (i := 2) rfl)) (hw _ (List.mem_of_getElem? (i := 1) rfl)) e18 (g := (mkF m 99 #[.val (.int p1), .val (.int p2), .val (.long q3), .second, .val (.ref a4), .val (.int vl), .val (.int ch8), .val (.int ch10), .val (.int ch12), .val (.int ch14), .val (.int ch16), .val (.int ch18), .val (.int vc6), .unset, .unset] [])) rfl (hb hby at_99) (by decide) (by decide)
      obtain ⟨b23, g23⟩ : ∃ z, z = (h4).size := ⟨_, rfl⟩
      rw [← g23] at A23 D23 st23
      have ne_a4_b23 : a4 ≠ b23 := Nat.ne_of_lt (Nat.lt_of_lt_of_le xe4.lt (Nat.le_of_eq g23.symm))
      have ne_b4_b23 : b4 ≠ b23 := Nat.ne_of_lt (Nat.lt_of_lt_of_le V4.lt (Nat.le_of_eq g23.symm))
      have sz_b23 : h0.size ≤ b23 := Nat.le_trans K4.1 (Nat.le_of_eq g23.symm)
      have ge_b23 : n0 ≤ b23 := Nat.le_trans Zs4 (Nat.le_of_eq g23.symm)
      have f24 := xe4.ext E23
      have f25 := xc4.ext E23
      have f26 := xv4.ext E23
      have f27 := V4.ext E23
      have sf23_b23 := Safe.ext E23 C4.1 (Safe.new (x := b23) (Nat.le_of_eq g23.symm))
      have C23 := C4.trans (CHr.ext E23 C4.1)
      have hku23 := Nat.le_trans hk4 E23.1
      have K23 := (K4).ext E23
      have Zs23 : n0 ≤ h23.size := Nat.le_trans Zs4 E23.1
      have F23_value : Fld Z h23 b23 "java/lang/String" "value" "[B" .null := D23 (Or.inr (hw _ (List.mem_of_getElem? (i := 4) rfl))) (ty := (.array .byte)) (by decide)
      have F23_coder : Fld Z h23 b23 "java/lang/String" "coder" "B" (.int (0 : Int32)) := D23 (Or.inr (hw _ (List.mem_of_getElem? (i := 5) rfl))) (ty := .byte) (by decide)
      have k23 : Go p e below (s₁.setTop (entryFrame m #[(.int p1), (.int p2), (.long q3)] maxLocals)) (T23.setTop (mkF m 102 #[.val (.int p1), .val (.int p2), .val (.long q3), .second, .val (.ref a4), .val (.int vl), .val (.int ch8), .val (.int ch10), .val (.int ch12), .val (.int ch14), .val (.int ch16), .val (.int ch18), .val (.int vc6), .unset, .unset] [(.ref b23)])) := fun t kk => k22 t (st23 t kk)
      have k28 : Go p e below (s₁.setTop (entryFrame m #[(.int p1), (.int p2), (.long q3)] maxLocals)) (T23.setTop (mkF m 104 #[.val (.int p1), .val (.int p2), .val (.long q3), .second, .val (.ref a4), .val (.int vl), .val (.int ch8), .val (.int ch10), .val (.int ch12), .val (.int ch14), .val (.int ch16), .val (.int ch18), .val (.int vc6), .unset, .unset] [(.int (0 : Int32)), (.ref b23), (.ref b23)])) := fun t kk => k23 t (by
        show Steps p.tables e below (T23.setTop (mkF m 102 #[.val (.int p1), .val (.int p2), .val (.long q3), .second, .val (.ref a4), .val (.int vl), .val (.int ch8), .val (.int ch10), .val (.int ch12), .val (.int ch14), .val (.int ch16), .val (.int ch18), .val (.int vc6), .unset, .unset] [(.ref b23)])) _
        refine XS.dup X23.here hx rfl (hb hby at_102) rfl rfl ?_
        show Steps p.tables e below (T23.setTop (mkF m 103 #[.val (.int p1), .val (.int p2), .val (.long q3), .second, .val (.ref a4), .val (.int vl), .val (.int ch8), .val (.int ch10), .val (.int ch12), .val (.int ch14), .val (.int ch16), .val (.int ch18), .val (.int vc6), .unset, .unset] [(.ref b23), (.ref b23)])) _
        refine XS.iconst X23.here hx rfl (hb hby at_103) ?_
        exact kk)
      obtain ⟨T29, h29, kc29, X29, e29, E29, A29, st29⟩ := newP X23 hx hZ4 (hw _ (List.mem_of_getElem? (i := 39) rfl)) e23 (g := (mkF m 104 #[.val (.int p1), .val (.int p2), .val (.long q3), .second, .val (.ref a4), .val (.int vl), .val (.int ch8), .val (.int ch10), .val (.int ch12), .val (.int ch14), .val (.int ch16), .val (.int ch18), .val (.int vc6), .unset, .unset] [(.int (0 : Int32)), (.ref b23), (.ref b23)])) rfl (hb hby at_104) rfl (by decide) (cap := 0) (by decide) (by decide) (by decide) (by decide)
      obtain ⟨b29, g29⟩ : ∃ z, z = (h23).size := ⟨_, rfl⟩
      rw [← g29] at A29 st29
      have ne_a4_b29 : a4 ≠ b29 := Nat.ne_of_lt (Nat.lt_of_lt_of_le f24.lt (Nat.le_of_eq g29.symm))
      have ne_b23_b29 : b23 ≠ b29 := Nat.ne_of_lt (Nat.lt_of_lt_of_le F23_value.lt (Nat.le_of_eq g29.symm))
      have ne_b4_b29 : b4 ≠ b29 := Nat.ne_of_lt (Nat.lt_of_lt_of_le f27.lt (Nat.le_of_eq g29.symm))
      have sz_b29 : h0.size ≤ b29 := Nat.le_trans K23.1 (Nat.le_of_eq g29.symm)
      have ge_b29 : n0 ≤ b29 := Nat.le_trans Zs23 (Nat.le_of_eq g29.symm)
      have f30 := f24.ext E29
      have f31 := f25.ext E29
      have f32 := f26.ext E29
      have f33 := f27.ext E29
      have f34 := F23_value.ext E29
      have f35 := F23_coder.ext E29
      have f36 := A23.ext E29
      have sf29_b23 := Safe.ext E29 C23.1 sf23_b23
      have sf29_b29 := Safe.ext E29 C23.1 (Safe.new (x := b29) (Nat.le_of_eq g29.symm))
      have C29 := C23.trans (CHr.ext E29 C23.1)
      have hku29 := Nat.le_trans hku23 E29.1
      have K29 := (K23).ext E29
      have Zs29 : n0 ≤ h29.size := Nat.le_trans Zs23 E29.1
      have V29 : Arv Z h29 b29 kc29 .char (0 : Int32) [] (.int (0 : Int32)) := (Arv.new A29 (by decide)).pad (pad_rep [] (.int (0 : Int32)) 0)
      have k29 : Go p e below (s₁.setTop (entryFrame m #[(.int p1), (.int p2), (.long q3)] maxLocals)) (T29.setTop (mkF m 106 #[.val (.int p1), .val (.int p2), .val (.long q3), .second, .val (.ref a4), .val (.int vl), .val (.int ch8), .val (.int ch10), .val (.int ch12), .val (.int ch14), .val (.int ch16), .val (.int ch18), .val (.int vc6), .unset, .unset] [(.ref b29), (.ref b23), (.ref b23)])) := fun t kk => k28 t (st29 t kk)
      have hcs37 : StrChars.Road.CodA ([] : List Int32) 0 (0 : Int32) [] := Or.inl ⟨rfl, rfl, rfl, fun c hc => by cases hc⟩
      have Xb38 : Stand p l e room_1 (s.setVm T4.vm) m #[(.int p1), (.int p2), (.long q3)] below meth c T29 _ _ _ := X29
      obtain ⟨_, _, ⟨T37, L37, kx37, nx37⟩, -, Xq37, hSq37, hgr37, ⟨Lc37, hQ37, l37, y37, z37, Cq37⟩, st37⟩ := Xb38.specialBackS hx (y := (⟨"java/lang/String", "<init>", "([C)V"⟩ : MethodName)) rfl hown4 (mvT hZ4 (hw _ (List.mem_of_getElem? (i := 40) rfl))) (mvT hZ4 (hw _ (List.mem_of_getElem? (i := 41) rfl))) (mvT hZ4 (hw _ (List.mem_of_getElem? (i := 42) rfl))) (by decide) (own_backSH (s := s) (W := 1) (xs := [b23]) (rmC l Z a0 hw [] b23 b29 kc29 h29 n0 Zs29 f34 f35 f36 ge_b23 V29) hZ4 (hw _ (List.mem_of_getElem? (i := 42) rfl)) (hw _ (List.mem_of_getElem? (i := 1) rfl)) (by decide) (by decide) (EW.cons (hw _ (List.mem_of_getElem? (i := 60) rfl)) (by decide) (EW.cons (hw _ (List.mem_of_getElem? (i := 0) rfl)) (by decide) (EW.cons (hw _ (List.mem_of_getElem? (i := 50) rfl)) (by decide) EW.nil))) C29.1 (allS ⟨f34.lt, sf29_b23⟩ all0)) (g := (mkF m 106 #[.val (.int p1), .val (.int p2), .val (.long q3), .second, .val (.ref a4), .val (.int vl), .val (.int ch8), .val (.int ch10), .val (.int ch12), .val (.int ch14), .val (.int ch16), .val (.int ch18), .val (.int vc6), .unset, .unset] [(.ref b29), (.ref b23), (.ref b23)])) rfl (by rw [hml]; rfl) (Steps.refl _) (a := b23) (argsL := [(.ref b29)]) (rest := [(.ref b23)]) (lenOf pd_5 rfl) rfl (by show 2 * 0 + _ ≤ _; exact Nat.le_of_eq rfl) (hb hby at_106) (fun _ _ => ⟨rfl, e29, (by decide : 4 + 2 ≤ _), (by decide : 32 + 4 ≤ _)⟩)
      dsimp only [Pt.U, Pt.locs, Pt.cells, Pt.slots] at Xq37 l37 y37 z37 st37 hQ37 hSq37 hgr37 Cq37
      subst l37 y37 z37
      obtain ⟨X37, hS37, hZ37, hown37⟩ := rebS (s := s) (vm0 := T4.vm) hS4 (by rw [e29]; exact hku29) Xq37 hSq37 hgr37 hZ4 hown4
      obtain ⟨rfl, N37q, K37q, x37_e, x37_c, t37, kb37, x37_v, x37_a⟩ := hQ37
      have N37 := Fr.app N0 N37q
      have f39 := f30.keep K37q
      have f40 := f31.keep K37q (ninS ne_a4_b23 nin0)
      have f41 := f32.keep K37q (ninS ne_a4_b23 nin0)
      have f42 := f33.keep K37q (ninS ne_b4_b23 nin0)
      have f43 := V29.keep K37q (ninS (Ne.symm ne_b23_b29) nin0)
      have K37 := (K29).trans K37q (allS (Or.inr sz_b23) all0)
      have Zs37 : n0 ≤ T37.heap.size := Nat.le_trans Zs29 K37q.1
      have hkr37 : T37.heap.size ≤ T37.heap.size := Nat.le_refl _
      have sf37_b23 := CHr.safe Cq37 f34.lt sf29_b23
      have sf37_b29 := CHr.safe Cq37 V29.lt sf29_b29
      have C37 := C29.trans Cq37
      have k37 : Go p e below (s₁.setTop (entryFrame m #[(.int p1), (.int p2), (.long q3)] maxLocals)) (T37.setTop (mkF m 109 #[.val (.int p1), .val (.int p2), .val (.long q3), .second, .val (.ref a4), .val (.int vl), .val (.int ch8), .val (.int ch10), .val (.int ch12), .val (.int ch14), .val (.int ch16), .val (.int ch18), .val (.int vc6), .unset, .unset] [(.ref b23)])) := fun t kk => k29 t (st37.trans kk)
      have k44 : Go p e below (s₁.setTop (entryFrame m #[(.int p1), (.int p2), (.long q3)] maxLocals)) (T37.setTop (mkF m 263 #[.val (.int p1), .val (.int p2), .val (.long q3), .second, .val (.ref a4), .val (.int vl), .val (.int ch8), .val (.int ch10), .val (.int ch12), .val (.int ch14), .val (.int ch16), .val (.int ch18), .val (.int vc6), .val (.ref b23), .unset] [(.ref b23)])) := fun t kk => k37 t (by
        show Steps p.tables e below (T37.setTop (mkF m 109 #[.val (.int p1), .val (.int p2), .val (.long q3), .second, .val (.ref a4), .val (.int vl), .val (.int ch8), .val (.int ch10), .val (.int ch12), .val (.int ch14), .val (.int ch16), .val (.int ch18), .val (.int vc6), .unset, .unset] [(.ref b23)])) _
        refine XS.astore X37.here hx rfl (hb hby at_109) rfl rfl (l' := #[.val (.int p1), .val (.int p2), .val (.long q3), .second, .val (.ref a4), .val (.int vl), .val (.int ch8), .val (.int ch10), .val (.int ch12), .val (.int ch14), .val (.int ch16), .val (.int ch18), .val (.int vc6), .val (.ref b23), .unset]) rfl ?_
        show Steps p.tables e below (T37.setTop (mkF m 111 #[.val (.int p1), .val (.int p2), .val (.long q3), .second, .val (.ref a4), .val (.int vl), .val (.int ch8), .val (.int ch10), .val (.int ch12), .val (.int ch14), .val (.int ch16), .val (.int ch18), .val (.int vc6), .val (.ref b23), .unset] [])) _
        refine XS.goto X37.here hx rfl (pc0 := 111) (pc' := 261) rfl (hb hby at_111) (by decide) (by decide) ?_
        show Steps p.tables e below (T37.setTop (mkF m 261 #[.val (.int p1), .val (.int p2), .val (.long q3), .second, .val (.ref a4), .val (.int vl), .val (.int ch8), .val (.int ch10), .val (.int ch12), .val (.int ch14), .val (.int ch16), .val (.int ch18), .val (.int vc6), .val (.ref b23), .unset] [])) _
        refine XS.aload X37.here hx rfl (hb hby at_261) rfl rfl ?_
        exact kk)
      have Xb46 : Stand p l e room_1 (s.setVm T37.vm) m #[(.int p1), (.int p2), (.long q3)] below meth c T37 _ _ _ := X37
      obtain ⟨a45, T45, h45, kn45, b45, kc45, X45, e45, E45, hS45, hk45, hZ45, hown45, xe45, xc45, xv45, V45, -, -, Cn45, lit45, nsf45, st45⟩ := ldcCH (s := s) (vm0 := T37.vm) Xb46 hx hZ37 hown37 (hw _ (List.mem_of_getElem? (i := 0) rfl)) wS0 rfl hS37 hkr37 (EW.cons (hw _ (List.mem_of_getElem? (i := 60) rfl)) (by decide) (EW.cons (hw _ (List.mem_of_getElem? (i := 0) rfl)) (by decide) (EW.cons (hw _ (List.mem_of_getElem? (i := 50) rfl)) (by decide) EW.nil))) (List.mem_of_getElem? (i := 1) rfl) C37.1 (vs := [(.int (108 : Int32)), (.int (105 : Int32)), (.int (115 : Int32)), (.int (116 : Int32)), (.int (101 : Int32)), (.int (100 : Int32))]) (z := 6) ⟨by decide, by decide⟩ (by decide) rfl (g := (mkF m 263 #[.val (.int p1), .val (.int p2), .val (.long q3), .second, .val (.ref a4), .val (.int vl), .val (.int ch8), .val (.int ch10), .val (.int ch12), .val (.int ch14), .val (.int ch16), .val (.int ch18), .val (.int vc6), .val (.ref b23), .unset] [(.ref b23)])) rfl (hb hby at_263) (n := 24) (by decide) (by decide) (by decide) (by decide)
      have sf45_b23 := CHr.safe Cn45 x37_e.lt sf37_b23
      have sf45_b29 := CHr.safe Cn45 f43.lt sf37_b29
      have C45 := C37.trans Cn45
      have f47 := f39.ext E45
      have f48 := f40.ext E45
      have f49 := f41.ext E45
      have f50 := f42.ext E45
      have f51 := f43.ext E45
      have f52 := x37_e.ext E45
      have f53 := x37_c.ext E45
      have f54 := x37_v.ext E45
      have f55 := x37_a.ext E45
      have K45 := (K37).ext E45
      have Zs45 : n0 ≤ h45.size := Nat.le_trans Zs37 E45.1
      have k45 : Go p e below (s₁.setTop (entryFrame m #[(.int p1), (.int p2), (.long q3)] maxLocals)) (T45.setTop (mkF m 265 #[.val (.int p1), .val (.int p2), .val (.long q3), .second, .val (.ref a4), .val (.int vl), .val (.int ch8), .val (.int ch10), .val (.int ch12), .val (.int ch14), .val (.int ch16), .val (.int ch18), .val (.int vc6), .val (.ref b23), .unset] [(.ref a45), (.ref b23)])) := fun t kk => k44 t (st45 t kk)
      obtain ⟨cq56, kq56, q56a, q56b, q56c⟩ := isOf hZ45 e45 f52
      obtain ⟨_, _, ⟨T56, L56, kx56, nx56⟩, -, X56, ⟨Lc56, hQ56, l56, y56, z56⟩, st56⟩ := X45.virtualBack hx (y := (⟨"java/lang/String", "equals", "(Ljava/lang/Object;)Z"⟩ : MethodName)) (z := (⟨"java/lang/String", "equals", "(Ljava/lang/Object;)Z"⟩ : MethodName)) hown45 (mvT hZ45 (hw _ (List.mem_of_getElem? (i := 51) rfl))) (mvT hZ45 (hw _ (List.mem_of_getElem? (i := 52) rfl))) (notFace_of_selects (args := #[]) (mvT hZ45 (hw _ (List.mem_of_getElem? (i := 54) rfl)))) (mvT hZ45 (hw _ (List.mem_of_getElem? (i := 54) rfl))) (mvT hZ45 (hw _ (List.mem_of_getElem? (i := 53) rfl))) (by decide) (StrChars.Road.eqW (W := 0) hZ45 heq (kI := 4) (hw _ (List.mem_of_getElem? (i := 2) rfl)) f52 f54 f53 f55 hcs37 (fun c hc => by cases hc) (Nat.le_of_ble_eq_true rfl) xe45 xv45 xc45 V45 own_Lc (own_up _ own_Lb) (Nat.le_of_ble_eq_true rfl) (own_stakeep S1 K45) hs1 (by decide) (by decide)) q56a q56c (g := (mkF m 265 #[.val (.int p1), .val (.int p2), .val (.long q3), .second, .val (.ref a4), .val (.int vl), .val (.int ch8), .val (.int ch10), .val (.int ch12), .val (.int ch14), .val (.int ch16), .val (.int ch18), .val (.int vc6), .val (.ref b23), .unset] [(.ref a45), (.ref b23)])) rfl (by rw [hml]; rfl) (Steps.refl _) (argsL := [(.ref a45)]) (rest := []) (lenOf pd_3 rfl) rfl (by show 2 * 0 + _ ≤ _; exact Nat.le_of_eq rfl) (hb hby at_265) (fun _ _ => ⟨rfl, e45, (by decide : 8 + 0 ≤ _), (by decide : 64 + 0 ≤ _)⟩)
      dsimp only [Pt.U, Pt.locs, Pt.cells, Pt.slots] at X56 l56 y56 z56 st56 hQ56
      subst l56 y56 z56
      obtain ⟨hcase56, rfl, e56⟩ := hQ56
      try rw [List.append_nil] at X56
      obtain ⟨vq56, rfl, hvq56⟩ := own_case hcase56
      have k56 : Go p e below (s₁.setTop (entryFrame m #[(.int p1), (.int p2), (.long q3)] maxLocals)) (T56.setTop (mkF m 268 #[.val (.int p1), .val (.int p2), .val (.long q3), .second, .val (.ref a4), .val (.int vl), .val (.int ch8), .val (.int ch10), .val (.int ch12), .val (.int ch14), .val (.int ch16), .val (.int ch18), .val (.int vc6), .val (.ref b23), .unset] [(.int vq56)])) := fun t kk => k45 t (st56.trans kk)
      by_cases hc268_57 : vq56 = (0 : Int32)
      · have k58 : Go p e below (s₁.setTop (entryFrame m #[(.int p1), (.int p2), (.long q3)] maxLocals)) (T56.setTop (mkF m 281 #[.val (.int p1), .val (.int p2), .val (.long q3), .second, .val (.ref a4), .val (.int vl), .val (.int ch8), .val (.int ch10), .val (.int ch12), .val (.int ch14), .val (.int ch16), .val (.int ch18), .val (.int vc6), .val (.ref b23), .unset] [(.ref b23)])) := fun t kk => k56 t (by
          show Steps p.tables e below (T56.setTop (mkF m 268 #[.val (.int p1), .val (.int p2), .val (.long q3), .second, .val (.ref a4), .val (.int vl), .val (.int ch8), .val (.int ch10), .val (.int ch12), .val (.int ch14), .val (.int ch16), .val (.int ch18), .val (.int vc6), .val (.ref b23), .unset] [(.int vq56)])) _
          refine XS.ifYes X56.here hx rfl (pc0 := 268) (pc' := 279) rfl (hb hby at_268) rfl ((if0 _ _).trans (teq hc268_57).1) (by decide) (by decide) ?_
          show Steps p.tables e below (T56.setTop (mkF m 279 #[.val (.int p1), .val (.int p2), .val (.long q3), .second, .val (.ref a4), .val (.int vl), .val (.int ch8), .val (.int ch10), .val (.int ch12), .val (.int ch14), .val (.int ch16), .val (.int ch18), .val (.int vc6), .val (.ref b23), .unset] [])) _
          refine XS.aload X56.here hx rfl (hb hby at_279) rfl rfl ?_
          exact kk)
        have Xb60 : Stand p l e room_1 (s.setVm T45.vm) m #[(.int p1), (.int p2), (.long q3)] below meth c T56 _ _ _ := X56
        obtain ⟨a59, T59, h59, kn59, b59, kc59, X59, e59, E59, hS59, hk59, hZ59, hown59, xe59, xc59, xv59, V59, -, -, Cn59, lit59, nsf59, st59⟩ := ldcCH (s := s) (vm0 := T45.vm) Xb60 hx hZ45 hown45 (hw _ (List.mem_of_getElem? (i := 60) rfl)) wS0 e56 hS45 hk45 (EW.cons (hw _ (List.mem_of_getElem? (i := 60) rfl)) (by decide) (EW.cons (hw _ (List.mem_of_getElem? (i := 0) rfl)) (by decide) (EW.cons (hw _ (List.mem_of_getElem? (i := 50) rfl)) (by decide) EW.nil))) (List.mem_of_getElem? (i := 0) rfl) C45.1 (vs := [(.int (115 : Int32)), (.int (101 : Int32)), (.int (101 : Int32)), (.int (100 : Int32)), (.int (101 : Int32)), (.int (100 : Int32))]) (z := 6) ⟨by decide, by decide⟩ (by decide) rfl (g := (mkF m 281 #[.val (.int p1), .val (.int p2), .val (.long q3), .second, .val (.ref a4), .val (.int vl), .val (.int ch8), .val (.int ch10), .val (.int ch12), .val (.int ch14), .val (.int ch16), .val (.int ch18), .val (.int vc6), .val (.ref b23), .unset] [(.ref b23)])) rfl (hb hby at_281) (n := 24) (by decide) (by decide) (by decide) (by decide)
        have sf59_b23 := CHr.safe Cn59 f52.lt sf45_b23
        have sf59_b29 := CHr.safe Cn59 f51.lt sf45_b29
        have C59 := C45.trans Cn59
        have f61 := f47.ext E59
        have f62 := f48.ext E59
        have f63 := f49.ext E59
        have f64 := f50.ext E59
        have f65 := f51.ext E59
        have f66 := f52.ext E59
        have f67 := f53.ext E59
        have f68 := f54.ext E59
        have f69 := f55.ext E59
        have f70 := xe45.ext E59
        have f71 := xc45.ext E59
        have f72 := xv45.ext E59
        have f73 := V45.ext E59
        have K59 := (K45).ext E59
        have Zs59 : n0 ≤ h59.size := Nat.le_trans Zs45 E59.1
        have k59 : Go p e below (s₁.setTop (entryFrame m #[(.int p1), (.int p2), (.long q3)] maxLocals)) (T59.setTop (mkF m 283 #[.val (.int p1), .val (.int p2), .val (.long q3), .second, .val (.ref a4), .val (.int vl), .val (.int ch8), .val (.int ch10), .val (.int ch12), .val (.int ch14), .val (.int ch16), .val (.int ch18), .val (.int vc6), .val (.ref b23), .unset] [(.ref a59), (.ref b23)])) := fun t kk => k58 t (st59 t kk)
        obtain ⟨cq74, kq74, q74a, q74b, q74c⟩ := isOf hZ59 e59 f66
        obtain ⟨_, _, ⟨T74, L74, kx74, nx74⟩, -, X74, ⟨Lc74, hQ74, l74, y74, z74⟩, st74⟩ := X59.virtualBack hx (y := (⟨"java/lang/String", "equals", "(Ljava/lang/Object;)Z"⟩ : MethodName)) (z := (⟨"java/lang/String", "equals", "(Ljava/lang/Object;)Z"⟩ : MethodName)) hown59 (mvT hZ59 (hw _ (List.mem_of_getElem? (i := 51) rfl))) (mvT hZ59 (hw _ (List.mem_of_getElem? (i := 52) rfl))) (notFace_of_selects (args := #[]) (mvT hZ59 (hw _ (List.mem_of_getElem? (i := 54) rfl)))) (mvT hZ59 (hw _ (List.mem_of_getElem? (i := 54) rfl))) (mvT hZ59 (hw _ (List.mem_of_getElem? (i := 53) rfl))) (by decide) (StrChars.Road.eqW (W := 0) hZ59 heq (kI := 4) (hw _ (List.mem_of_getElem? (i := 2) rfl)) f66 f68 f67 f69 hcs37 (fun c hc => by cases hc) (Nat.le_of_ble_eq_true rfl) xe59 xv59 xc59 V59 own_Sc (own_up _ own_Sb) (Nat.le_of_ble_eq_true rfl) (own_stakeep S1 K59) hs1 (by decide) (by decide)) q74a q74c (g := (mkF m 283 #[.val (.int p1), .val (.int p2), .val (.long q3), .second, .val (.ref a4), .val (.int vl), .val (.int ch8), .val (.int ch10), .val (.int ch12), .val (.int ch14), .val (.int ch16), .val (.int ch18), .val (.int vc6), .val (.ref b23), .unset] [(.ref a59), (.ref b23)])) rfl (by rw [hml]; rfl) (Steps.refl _) (argsL := [(.ref a59)]) (rest := []) (lenOf pd_3 rfl) rfl (by show 2 * 0 + _ ≤ _; exact Nat.le_of_eq rfl) (hb hby at_283) (fun _ _ => ⟨rfl, e59, (by decide : 10 + 0 ≤ _), (by decide : 92 + 0 ≤ _)⟩)
        dsimp only [Pt.U, Pt.locs, Pt.cells, Pt.slots] at X74 l74 y74 z74 st74 hQ74
        subst l74 y74 z74
        obtain ⟨hcase74, rfl, e74⟩ := hQ74
        try rw [List.append_nil] at X74
        obtain ⟨vq74, rfl, hvq74⟩ := own_case hcase74
        have k74 : Go p e below (s₁.setTop (entryFrame m #[(.int p1), (.int p2), (.long q3)] maxLocals)) (T74.setTop (mkF m 286 #[.val (.int p1), .val (.int p2), .val (.long q3), .second, .val (.ref a4), .val (.int vl), .val (.int ch8), .val (.int ch10), .val (.int ch12), .val (.int ch14), .val (.int ch16), .val (.int ch18), .val (.int vc6), .val (.ref b23), .unset] [(.int vq74)])) := fun t kk => k59 t (st74.trans kk)
        by_cases hc286_75 : vq74 = (0 : Int32)
        · have k76 : Go p e below (s₁.setTop (entryFrame m #[(.int p1), (.int p2), (.long q3)] maxLocals)) (T74.setTop (mkF m 302 #[.val (.int p1), .val (.int p2), .val (.long q3), .second, .val (.ref a4), .val (.int vl), .val (.int ch8), .val (.int ch10), .val (.int ch12), .val (.int ch14), .val (.int ch16), .val (.int ch18), .val (.int vc6), .val (.ref b23), .val .null] [(.ref b23)])) := fun t kk => k74 t (by
            show Steps p.tables e below (T74.setTop (mkF m 286 #[.val (.int p1), .val (.int p2), .val (.long q3), .second, .val (.ref a4), .val (.int vl), .val (.int ch8), .val (.int ch10), .val (.int ch12), .val (.int ch14), .val (.int ch16), .val (.int ch18), .val (.int vc6), .val (.ref b23), .unset] [(.int vq74)])) _
            refine XS.ifYes X74.here hx rfl (pc0 := 286) (pc' := 297) rfl (hb hby at_286) rfl ((if0 _ _).trans (teq hc286_75).1) (by decide) (by decide) ?_
            show Steps p.tables e below (T74.setTop (mkF m 297 #[.val (.int p1), .val (.int p2), .val (.long q3), .second, .val (.ref a4), .val (.int vl), .val (.int ch8), .val (.int ch10), .val (.int ch12), .val (.int ch14), .val (.int ch16), .val (.int ch18), .val (.int vc6), .val (.ref b23), .unset] [])) _
            refine XS.aconstNull X74.here hx rfl (hb hby at_297) ?_
            show Steps p.tables e below (T74.setTop (mkF m 298 #[.val (.int p1), .val (.int p2), .val (.long q3), .second, .val (.ref a4), .val (.int vl), .val (.int ch8), .val (.int ch10), .val (.int ch12), .val (.int ch14), .val (.int ch16), .val (.int ch18), .val (.int vc6), .val (.ref b23), .unset] [.null])) _
            refine XS.astore X74.here hx rfl (hb hby at_298) rfl rfl (l' := #[.val (.int p1), .val (.int p2), .val (.long q3), .second, .val (.ref a4), .val (.int vl), .val (.int ch8), .val (.int ch10), .val (.int ch12), .val (.int ch14), .val (.int ch16), .val (.int ch18), .val (.int vc6), .val (.ref b23), .val .null]) rfl ?_
            show Steps p.tables e below (T74.setTop (mkF m 300 #[.val (.int p1), .val (.int p2), .val (.long q3), .second, .val (.ref a4), .val (.int vl), .val (.int ch8), .val (.int ch10), .val (.int ch12), .val (.int ch14), .val (.int ch16), .val (.int ch18), .val (.int vc6), .val (.ref b23), .val .null] [])) _
            refine XS.aload X74.here hx rfl (hb hby at_300) rfl rfl ?_
            exact kk)
          obtain ⟨_, _, ⟨T77, L77, kx77, nx77⟩, -, X77, ⟨Lc77, hQ77, l77, y77, z77⟩, st77⟩ := Jvm.LawKit.callS X74 hx (y := (⟨"com/example/tabularium/tabularium/record/Deal", "named", "(Ljava/lang/String;)Lcom/example/tabularium/tabularium/record/Deal;"⟩ : MethodName)) hown59 (mvT hZ59 (hw _ (List.mem_of_getElem? (i := 61) rfl))) (mvT hZ59 (hw _ (List.mem_of_getElem? (i := 62) rfl))) (mvT hZ59 (hw _ (List.mem_of_getElem? (i := 63) rfl))) (mvT hZ59 (hw _ (List.mem_of_getElem? (i := 64) rfl))) (by decide) (backOf (W := 0) (rmD l Z a0 hw [] b23 a__VALUES kV a_LISTED a_SEEDED s_LISTED t_LISTED kL s_SEEDED t_SEEDED kS ([] : List Int32) t37 kb37 (0 : Int32) _ cs h59 n0 Zs59 (own_stakeep SV K59) (PAV.keep K59 nin0) (PEV.keep K59) (f_LISTED.keep K59 nin0) (es_LISTED.keep K59) (cs_LISTED.keep K59 nin0) (vs_LISTED.keep K59 nin0) (as_LISTED.keep K59 nin0) (f_SEEDED.keep K59 nin0) (es_SEEDED.keep K59) (cs_SEEDED.keep K59 nin0) (vs_SEEDED.keep K59 nin0) (as_SEEDED.keep K59 nin0) f66 f68 f67 f69 hcs37 (fun c hc => by cases hc) (Nat.le_of_ble_eq_true rfl) (own_stakeep S1 K59) hs1) hZ59 (hw _ (List.mem_of_getElem? (i := 64) rfl)) (hw _ (List.mem_of_getElem? (i := 63) rfl)) (by decide) (by decide)) (g := (mkF m 302 #[.val (.int p1), .val (.int p2), .val (.long q3), .second, .val (.ref a4), .val (.int vl), .val (.int ch8), .val (.int ch10), .val (.int ch12), .val (.int ch14), .val (.int ch16), .val (.int ch18), .val (.int vc6), .val (.ref b23), .val .null] [(.ref b23)])) rfl (by rw [hml]; rfl) (argsL := [(.ref b23)]) (rest := []) (lenOf pd_6 rfl) rfl (by show 2 * 0 + _ ≤ _; exact Nat.le_of_eq rfl) (hb hby at_302) (fun _ _ => ⟨rfl, e74, (by decide : 10 + 1 ≤ _), (by decide : 92 + 2 ≤ _)⟩)
          dsimp only [Pt.U, Pt.locs, Pt.cells, Pt.slots] at X77 l77 y77 z77 st77 hQ77
          subst l77 y77 z77
          obtain ⟨hv77, N77q, K77q⟩ := hQ77
          rw [show own_named ([] : List Int32) a_LISTED a_SEEDED = .null from (by unfold own_named; rw [if_neg (fun q => own_no hvq56 hc268_57 q.symm), if_neg (fun q => own_no hvq74 hc286_75 q.symm)])] at hv77
          subst hv77
          have N77 := Fr.app N37 N77q
          have hku77 := Nat.le_trans hk59 K77q.1
          have K77 := (K59).trans K77q all0
          have Zs77 : n0 ≤ T77.heap.size := Nat.le_trans Zs59 K77q.1
          have k77 : Go p e below (s₁.setTop (entryFrame m #[(.int p1), (.int p2), (.long q3)] maxLocals)) (T77.setTop (mkF m 305 #[.val (.int p1), .val (.int p2), .val (.long q3), .second, .val (.ref a4), .val (.int vl), .val (.int ch8), .val (.int ch10), .val (.int ch12), .val (.int ch14), .val (.int ch16), .val (.int ch18), .val (.int vc6), .val (.ref b23), .val .null] [.null])) := fun t kk => k76 t (st77 t kk)
          have k78 : Go p e below (s₁.setTop (entryFrame m #[(.int p1), (.int p2), (.long q3)] maxLocals)) (T77.setTop (mkF m 315 #[.val (.int p1), .val (.int p2), .val (.long q3), .second, .val (.ref a4), .val (.int vl), .val (.int ch8), .val (.int ch10), .val (.int ch12), .val (.int ch14), .val (.int ch16), .val (.int ch18), .val (.int vc6), .val (.ref b23), .val .null] [(.int (1 : Int32))])) := fun t kk => k77 t (by
            show Steps p.tables e below (T77.setTop (mkF m 305 #[.val (.int p1), .val (.int p2), .val (.long q3), .second, .val (.ref a4), .val (.int vl), .val (.int ch8), .val (.int ch10), .val (.int ch12), .val (.int ch14), .val (.int ch16), .val (.int ch18), .val (.int vc6), .val (.ref b23), .val .null] [.null])) _
            refine XS.aload X77.here hx rfl (hb hby at_305) rfl rfl ?_
            show Steps p.tables e below (T77.setTop (mkF m 307 #[.val (.int p1), .val (.int p2), .val (.long q3), .second, .val (.ref a4), .val (.int vl), .val (.int ch8), .val (.int ch10), .val (.int ch12), .val (.int ch14), .val (.int ch16), .val (.int ch18), .val (.int vc6), .val (.ref b23), .val .null] [.null, .null])) _
            refine Jvm.RoadKit.acmp (g := (mkF m 307 #[.val (.int p1), .val (.int p2), .val (.long q3), .second, .val (.ref a4), .val (.int vl), .val (.int ch8), .val (.int ch10), .val (.int ch12), .val (.int ch14), .val (.int ch16), .val (.int ch18), .val (.int vc6), .val (.ref b23), .val .null] [.null, .null])) X77 hx rfl rfl rfl (pc0 := 307) (pc' := 310) (same := true) rfl (hb hby at_307) rfl (decide_eq_true (rfl : Value.null = Value.null)) (by decide) (by decide) ?_
            show Steps p.tables e below (T77.setTop (mkF m 310 #[.val (.int p1), .val (.int p2), .val (.long q3), .second, .val (.ref a4), .val (.int vl), .val (.int ch8), .val (.int ch10), .val (.int ch12), .val (.int ch14), .val (.int ch16), .val (.int ch18), .val (.int vc6), .val (.ref b23), .val .null] [])) _
            refine XS.iconst X77.here hx rfl (hb hby at_310) ?_
            show Steps p.tables e below (T77.setTop (mkF m 311 #[.val (.int p1), .val (.int p2), .val (.long q3), .second, .val (.ref a4), .val (.int vl), .val (.int ch8), .val (.int ch10), .val (.int ch12), .val (.int ch14), .val (.int ch16), .val (.int ch18), .val (.int vc6), .val (.ref b23), .val .null] [(.int (1 : Int32))])) _
            refine XS.goto X77.here hx rfl (pc0 := 311) (pc' := 315) rfl (hb hby at_311) (by decide) (by decide) ?_
            exact kk)
          have Xb80 : Stand p l e room_1 (s.setVm T59.vm) m #[(.int p1), (.int p2), (.long q3)] below meth c T77 _ _ _ := X77
          obtain ⟨fs, hr, hrun, hended, hW⟩ := leaveW Xb80 hS59 hku77 (v := some (.int (1 : Int32))) (fun h => by rw [Bd.returns] at h; cases h)
          refine ⟨_, _, k78 _ ?_, hrun, hended, _, _, rfl, ?_, hW.1, hW.2.1, hW.2.2.1, hW.2.2.2.mono (by decide) (by decide)⟩
          · show Steps p.tables e below (T77.setTop (mkF m 315 #[.val (.int p1), .val (.int p2), .val (.long q3), .second, .val (.ref a4), .val (.int vl), .val (.int ch8), .val (.int ch10), .val (.int ch12), .val (.int ch14), .val (.int ch16), .val (.int ch18), .val (.int vc6), .val (.ref b23), .val .null] [(.int (1 : Int32))])) _
            exact retN X77 hx (t := .boolean) Bd.returns (by simp) (hb hby at_315) hr
          · show Q0 Z p1 p2 q3 a__VALUES kV a_LISTED a_SEEDED s_LISTED t_LISTED kL s_SEEDED t_SEEDED kS cs fm h0 n0 _ T77.heap _
            exact ⟨rfl, N77⟩
        · have k81 : Go p e below (s₁.setTop (entryFrame m #[(.int p1), (.int p2), (.long q3)] maxLocals)) (T74.setTop (mkF m 289 #[.val (.int p1), .val (.int p2), .val (.long q3), .second, .val (.ref a4), .val (.int vl), .val (.int ch8), .val (.int ch10), .val (.int ch12), .val (.int ch14), .val (.int ch16), .val (.int ch18), .val (.int vc6), .val (.ref b23), .unset] [])) := fun t kk => k74 t (by
            show Steps p.tables e below (T74.setTop (mkF m 286 #[.val (.int p1), .val (.int p2), .val (.long q3), .second, .val (.ref a4), .val (.int vl), .val (.int ch8), .val (.int ch10), .val (.int ch12), .val (.int ch14), .val (.int ch16), .val (.int ch18), .val (.int vc6), .val (.ref b23), .unset] [(.int vq74)])) _
            refine XS.ifNo X74.here hx rfl (hb hby at_286) rfl ((if0 _ _).trans (feq hc286_75).1) ?_
            exact kk)
          obtain ⟨T82, X82, e82, st82⟩ := getS2 X74 hx hZ59 hown59 (host := "") (Or.inl (hw _ (List.mem_of_getElem? (i := 96) rfl))) Via.refl e74 (own_stakeep S_SEEDED K59) (g := (mkF m 289 #[.val (.int p1), .val (.int p2), .val (.long q3), .second, .val (.ref a4), .val (.int vl), .val (.int ch8), .val (.int ch10), .val (.int ch12), .val (.int ch14), .val (.int ch16), .val (.int ch18), .val (.int vc6), .val (.ref b23), .unset] [])) rfl (hb hby at_289)
          have k82 : Go p e below (s₁.setTop (entryFrame m #[(.int p1), (.int p2), (.long q3)] maxLocals)) (T82.setTop (mkF m 292 #[.val (.int p1), .val (.int p2), .val (.long q3), .second, .val (.ref a4), .val (.int vl), .val (.int ch8), .val (.int ch10), .val (.int ch12), .val (.int ch14), .val (.int ch16), .val (.int ch18), .val (.int vc6), .val (.ref b23), .unset] [(.ref a_SEEDED)])) := fun t kk => k81 t (st82 t kk)
          have k83 : Go p e below (s₁.setTop (entryFrame m #[(.int p1), (.int p2), (.long q3)] maxLocals)) (T82.setTop (mkF m 302 #[.val (.int p1), .val (.int p2), .val (.long q3), .second, .val (.ref a4), .val (.int vl), .val (.int ch8), .val (.int ch10), .val (.int ch12), .val (.int ch14), .val (.int ch16), .val (.int ch18), .val (.int vc6), .val (.ref b23), .val (.ref a_SEEDED)] [(.ref b23)])) := fun t kk => k82 t (by
            show Steps p.tables e below (T82.setTop (mkF m 292 #[.val (.int p1), .val (.int p2), .val (.long q3), .second, .val (.ref a4), .val (.int vl), .val (.int ch8), .val (.int ch10), .val (.int ch12), .val (.int ch14), .val (.int ch16), .val (.int ch18), .val (.int vc6), .val (.ref b23), .unset] [(.ref a_SEEDED)])) _
            refine XS.astore X82.here hx rfl (hb hby at_292) rfl rfl (l' := #[.val (.int p1), .val (.int p2), .val (.long q3), .second, .val (.ref a4), .val (.int vl), .val (.int ch8), .val (.int ch10), .val (.int ch12), .val (.int ch14), .val (.int ch16), .val (.int ch18), .val (.int vc6), .val (.ref b23), .val (.ref a_SEEDED)]) rfl ?_
            show Steps p.tables e below (T82.setTop (mkF m 294 #[.val (.int p1), .val (.int p2), .val (.long q3), .second, .val (.ref a4), .val (.int vl), .val (.int ch8), .val (.int ch10), .val (.int ch12), .val (.int ch14), .val (.int ch16), .val (.int ch18), .val (.int vc6), .val (.ref b23), .val (.ref a_SEEDED)] [])) _
            refine XS.goto X82.here hx rfl (pc0 := 294) (pc' := 300) rfl (hb hby at_294) (by decide) (by decide) ?_
            show Steps p.tables e below (T82.setTop (mkF m 300 #[.val (.int p1), .val (.int p2), .val (.long q3), .second, .val (.ref a4), .val (.int vl), .val (.int ch8), .val (.int ch10), .val (.int ch12), .val (.int ch14), .val (.int ch16), .val (.int ch18), .val (.int vc6), .val (.ref b23), .val (.ref a_SEEDED)] [])) _
            refine XS.aload X82.here hx rfl (hb hby at_300) rfl rfl ?_
            exact kk)
          obtain ⟨_, _, ⟨T84, L84, kx84, nx84⟩, -, X84, ⟨Lc84, hQ84, l84, y84, z84⟩, st84⟩ := Jvm.LawKit.callS X82 hx (y := (⟨"com/example/tabularium/tabularium/record/Deal", "named", "(Ljava/lang/String;)Lcom/example/tabularium/tabularium/record/Deal;"⟩ : MethodName)) hown59 (mvT hZ59 (hw _ (List.mem_of_getElem? (i := 61) rfl))) (mvT hZ59 (hw _ (List.mem_of_getElem? (i := 62) rfl))) (mvT hZ59 (hw _ (List.mem_of_getElem? (i := 63) rfl))) (mvT hZ59 (hw _ (List.mem_of_getElem? (i := 64) rfl))) (by decide) (backOf (W := 0) (rmD l Z a0 hw [] b23 a__VALUES kV a_LISTED a_SEEDED s_LISTED t_LISTED kL s_SEEDED t_SEEDED kS ([] : List Int32) t37 kb37 (0 : Int32) _ cs h59 n0 Zs59 (own_stakeep SV K59) (PAV.keep K59 nin0) (PEV.keep K59) (f_LISTED.keep K59 nin0) (es_LISTED.keep K59) (cs_LISTED.keep K59 nin0) (vs_LISTED.keep K59 nin0) (as_LISTED.keep K59 nin0) (f_SEEDED.keep K59 nin0) (es_SEEDED.keep K59) (cs_SEEDED.keep K59 nin0) (vs_SEEDED.keep K59 nin0) (as_SEEDED.keep K59 nin0) f66 f68 f67 f69 hcs37 (fun c hc => by cases hc) (Nat.le_of_ble_eq_true rfl) (own_stakeep S1 K59) hs1) hZ59 (hw _ (List.mem_of_getElem? (i := 64) rfl)) (hw _ (List.mem_of_getElem? (i := 63) rfl)) (by decide) (by decide)) (g := (mkF m 302 #[.val (.int p1), .val (.int p2), .val (.long q3), .second, .val (.ref a4), .val (.int vl), .val (.int ch8), .val (.int ch10), .val (.int ch12), .val (.int ch14), .val (.int ch16), .val (.int ch18), .val (.int vc6), .val (.ref b23), .val (.ref a_SEEDED)] [(.ref b23)])) rfl (by rw [hml]; rfl) (argsL := [(.ref b23)]) (rest := []) (lenOf pd_6 rfl) rfl (by show 2 * 0 + _ ≤ _; exact Nat.le_of_eq rfl) (hb hby at_302) (fun _ _ => ⟨rfl, e82, (by decide : 10 + 1 ≤ _), (by decide : 92 + 2 ≤ _)⟩)
          dsimp only [Pt.U, Pt.locs, Pt.cells, Pt.slots] at X84 l84 y84 z84 st84 hQ84
          subst l84 y84 z84
          obtain ⟨hv84, N84q, K84q⟩ := hQ84
          rw [show own_named ([] : List Int32) a_LISTED a_SEEDED = .ref a_SEEDED from (by unfold own_named; rw [if_neg (fun q => own_no hvq56 hc268_57 q.symm), if_pos (own_yes hvq74 hc286_75).symm])] at hv84
          subst hv84
          have N84 := Fr.app N37 N84q
          have hku84 := Nat.le_trans hk59 K84q.1
          have K84 := (K59).trans K84q all0
          have Zs84 : n0 ≤ T84.heap.size := Nat.le_trans Zs59 K84q.1
          have k84 : Go p e below (s₁.setTop (entryFrame m #[(.int p1), (.int p2), (.long q3)] maxLocals)) (T84.setTop (mkF m 305 #[.val (.int p1), .val (.int p2), .val (.long q3), .second, .val (.ref a4), .val (.int vl), .val (.int ch8), .val (.int ch10), .val (.int ch12), .val (.int ch14), .val (.int ch16), .val (.int ch18), .val (.int vc6), .val (.ref b23), .val (.ref a_SEEDED)] [(.ref a_SEEDED)])) := fun t kk => k83 t (st84 t kk)
          have k85 : Go p e below (s₁.setTop (entryFrame m #[(.int p1), (.int p2), (.long q3)] maxLocals)) (T84.setTop (mkF m 315 #[.val (.int p1), .val (.int p2), .val (.long q3), .second, .val (.ref a4), .val (.int vl), .val (.int ch8), .val (.int ch10), .val (.int ch12), .val (.int ch14), .val (.int ch16), .val (.int ch18), .val (.int vc6), .val (.ref b23), .val (.ref a_SEEDED)] [(.int (1 : Int32))])) := fun t kk => k84 t (by
            show Steps p.tables e below (T84.setTop (mkF m 305 #[.val (.int p1), .val (.int p2), .val (.long q3), .second, .val (.ref a4), .val (.int vl), .val (.int ch8), .val (.int ch10), .val (.int ch12), .val (.int ch14), .val (.int ch16), .val (.int ch18), .val (.int vc6), .val (.ref b23), .val (.ref a_SEEDED)] [(.ref a_SEEDED)])) _
            refine XS.aload X84.here hx rfl (hb hby at_305) rfl rfl ?_
            show Steps p.tables e below (T84.setTop (mkF m 307 #[.val (.int p1), .val (.int p2), .val (.long q3), .second, .val (.ref a4), .val (.int vl), .val (.int ch8), .val (.int ch10), .val (.int ch12), .val (.int ch14), .val (.int ch16), .val (.int ch18), .val (.int vc6), .val (.ref b23), .val (.ref a_SEEDED)] [(.ref a_SEEDED), (.ref a_SEEDED)])) _
            refine Jvm.RoadKit.acmp (g := (mkF m 307 #[.val (.int p1), .val (.int p2), .val (.long q3), .second, .val (.ref a4), .val (.int vl), .val (.int ch8), .val (.int ch10), .val (.int ch12), .val (.int ch14), .val (.int ch16), .val (.int ch18), .val (.int vc6), .val (.ref b23), .val (.ref a_SEEDED)] [(.ref a_SEEDED), (.ref a_SEEDED)])) X84 hx rfl rfl rfl (pc0 := 307) (pc' := 310) (same := true) rfl (hb hby at_307) rfl (decide_eq_true (rfl : (Value.ref a_SEEDED) = (Value.ref a_SEEDED))) (by decide) (by decide) ?_
            show Steps p.tables e below (T84.setTop (mkF m 310 #[.val (.int p1), .val (.int p2), .val (.long q3), .second, .val (.ref a4), .val (.int vl), .val (.int ch8), .val (.int ch10), .val (.int ch12), .val (.int ch14), .val (.int ch16), .val (.int ch18), .val (.int vc6), .val (.ref b23), .val (.ref a_SEEDED)] [])) _
            refine XS.iconst X84.here hx rfl (hb hby at_310) ?_
            show Steps p.tables e below (T84.setTop (mkF m 311 #[.val (.int p1), .val (.int p2), .val (.long q3), .second, .val (.ref a4), .val (.int vl), .val (.int ch8), .val (.int ch10), .val (.int ch12), .val (.int ch14), .val (.int ch16), .val (.int ch18), .val (.int vc6), .val (.ref b23), .val (.ref a_SEEDED)] [(.int (1 : Int32))])) _
            refine XS.goto X84.here hx rfl (pc0 := 311) (pc' := 315) rfl (hb hby at_311) (by decide) (by decide) ?_
            exact kk)
          have Xb87 : Stand p l e room_1 (s.setVm T59.vm) m #[(.int p1), (.int p2), (.long q3)] below meth c T84 _ _ _ := X84
          obtain ⟨fs, hr, hrun, hended, hW⟩ := leaveW Xb87 hS59 hku84 (v := some (.int (1 : Int32))) (fun h => by rw [Bd.returns] at h; cases h)
          refine ⟨_, _, k85 _ ?_, hrun, hended, _, _, rfl, ?_, hW.1, hW.2.1, hW.2.2.1, hW.2.2.2.mono (by decide) (by decide)⟩
          · show Steps p.tables e below (T84.setTop (mkF m 315 #[.val (.int p1), .val (.int p2), .val (.long q3), .second, .val (.ref a4), .val (.int vl), .val (.int ch8), .val (.int ch10), .val (.int ch12), .val (.int ch14), .val (.int ch16), .val (.int ch18), .val (.int vc6), .val (.ref b23), .val (.ref a_SEEDED)] [(.int (1 : Int32))])) _
            exact retN X84 hx (t := .boolean) Bd.returns (by simp) (hb hby at_315) hr
          · show Q0 Z p1 p2 q3 a__VALUES kV a_LISTED a_SEEDED s_LISTED t_LISTED kL s_SEEDED t_SEEDED kS cs fm h0 n0 _ T84.heap _
            exact ⟨rfl, N84⟩
      · have k88 : Go p e below (s₁.setTop (entryFrame m #[(.int p1), (.int p2), (.long q3)] maxLocals)) (T56.setTop (mkF m 271 #[.val (.int p1), .val (.int p2), .val (.long q3), .second, .val (.ref a4), .val (.int vl), .val (.int ch8), .val (.int ch10), .val (.int ch12), .val (.int ch14), .val (.int ch16), .val (.int ch18), .val (.int vc6), .val (.ref b23), .unset] [])) := fun t kk => k56 t (by
          show Steps p.tables e below (T56.setTop (mkF m 268 #[.val (.int p1), .val (.int p2), .val (.long q3), .second, .val (.ref a4), .val (.int vl), .val (.int ch8), .val (.int ch10), .val (.int ch12), .val (.int ch14), .val (.int ch16), .val (.int ch18), .val (.int vc6), .val (.ref b23), .unset] [(.int vq56)])) _
          refine XS.ifNo X56.here hx rfl (hb hby at_268) rfl ((if0 _ _).trans (feq hc268_57).1) ?_
          exact kk)
        obtain ⟨T89, X89, e89, st89⟩ := getS2 X56 hx hZ45 hown45 (host := "") (Or.inl (hw _ (List.mem_of_getElem? (i := 95) rfl))) Via.refl e56 (own_stakeep S_LISTED K45) (g := (mkF m 271 #[.val (.int p1), .val (.int p2), .val (.long q3), .second, .val (.ref a4), .val (.int vl), .val (.int ch8), .val (.int ch10), .val (.int ch12), .val (.int ch14), .val (.int ch16), .val (.int ch18), .val (.int vc6), .val (.ref b23), .unset] [])) rfl (hb hby at_271)
        have k89 : Go p e below (s₁.setTop (entryFrame m #[(.int p1), (.int p2), (.long q3)] maxLocals)) (T89.setTop (mkF m 274 #[.val (.int p1), .val (.int p2), .val (.long q3), .second, .val (.ref a4), .val (.int vl), .val (.int ch8), .val (.int ch10), .val (.int ch12), .val (.int ch14), .val (.int ch16), .val (.int ch18), .val (.int vc6), .val (.ref b23), .unset] [(.ref a_LISTED)])) := fun t kk => k88 t (st89 t kk)
        have k90 : Go p e below (s₁.setTop (entryFrame m #[(.int p1), (.int p2), (.long q3)] maxLocals)) (T89.setTop (mkF m 302 #[.val (.int p1), .val (.int p2), .val (.long q3), .second, .val (.ref a4), .val (.int vl), .val (.int ch8), .val (.int ch10), .val (.int ch12), .val (.int ch14), .val (.int ch16), .val (.int ch18), .val (.int vc6), .val (.ref b23), .val (.ref a_LISTED)] [(.ref b23)])) := fun t kk => k89 t (by
          show Steps p.tables e below (T89.setTop (mkF m 274 #[.val (.int p1), .val (.int p2), .val (.long q3), .second, .val (.ref a4), .val (.int vl), .val (.int ch8), .val (.int ch10), .val (.int ch12), .val (.int ch14), .val (.int ch16), .val (.int ch18), .val (.int vc6), .val (.ref b23), .unset] [(.ref a_LISTED)])) _
          refine XS.astore X89.here hx rfl (hb hby at_274) rfl rfl (l' := #[.val (.int p1), .val (.int p2), .val (.long q3), .second, .val (.ref a4), .val (.int vl), .val (.int ch8), .val (.int ch10), .val (.int ch12), .val (.int ch14), .val (.int ch16), .val (.int ch18), .val (.int vc6), .val (.ref b23), .val (.ref a_LISTED)]) rfl ?_
          show Steps p.tables e below (T89.setTop (mkF m 276 #[.val (.int p1), .val (.int p2), .val (.long q3), .second, .val (.ref a4), .val (.int vl), .val (.int ch8), .val (.int ch10), .val (.int ch12), .val (.int ch14), .val (.int ch16), .val (.int ch18), .val (.int vc6), .val (.ref b23), .val (.ref a_LISTED)] [])) _
          refine XS.goto X89.here hx rfl (pc0 := 276) (pc' := 300) rfl (hb hby at_276) (by decide) (by decide) ?_
          show Steps p.tables e below (T89.setTop (mkF m 300 #[.val (.int p1), .val (.int p2), .val (.long q3), .second, .val (.ref a4), .val (.int vl), .val (.int ch8), .val (.int ch10), .val (.int ch12), .val (.int ch14), .val (.int ch16), .val (.int ch18), .val (.int vc6), .val (.ref b23), .val (.ref a_LISTED)] [])) _
          refine XS.aload X89.here hx rfl (hb hby at_300) rfl rfl ?_
          exact kk)
        obtain ⟨_, _, ⟨T91, L91, kx91, nx91⟩, -, X91, ⟨Lc91, hQ91, l91, y91, z91⟩, st91⟩ := Jvm.LawKit.callS X89 hx (y := (⟨"com/example/tabularium/tabularium/record/Deal", "named", "(Ljava/lang/String;)Lcom/example/tabularium/tabularium/record/Deal;"⟩ : MethodName)) hown45 (mvT hZ45 (hw _ (List.mem_of_getElem? (i := 61) rfl))) (mvT hZ45 (hw _ (List.mem_of_getElem? (i := 62) rfl))) (mvT hZ45 (hw _ (List.mem_of_getElem? (i := 63) rfl))) (mvT hZ45 (hw _ (List.mem_of_getElem? (i := 64) rfl))) (by decide) (backOf (W := 0) (rmD l Z a0 hw [] b23 a__VALUES kV a_LISTED a_SEEDED s_LISTED t_LISTED kL s_SEEDED t_SEEDED kS ([] : List Int32) t37 kb37 (0 : Int32) _ cs h45 n0 Zs45 (own_stakeep SV K45) (PAV.keep K45 nin0) (PEV.keep K45) (f_LISTED.keep K45 nin0) (es_LISTED.keep K45) (cs_LISTED.keep K45 nin0) (vs_LISTED.keep K45 nin0) (as_LISTED.keep K45 nin0) (f_SEEDED.keep K45 nin0) (es_SEEDED.keep K45) (cs_SEEDED.keep K45 nin0) (vs_SEEDED.keep K45 nin0) (as_SEEDED.keep K45 nin0) f52 f54 f53 f55 hcs37 (fun c hc => by cases hc) (Nat.le_of_ble_eq_true rfl) (own_stakeep S1 K45) hs1) hZ45 (hw _ (List.mem_of_getElem? (i := 64) rfl)) (hw _ (List.mem_of_getElem? (i := 63) rfl)) (by decide) (by decide)) (g := (mkF m 302 #[.val (.int p1), .val (.int p2), .val (.long q3), .second, .val (.ref a4), .val (.int vl), .val (.int ch8), .val (.int ch10), .val (.int ch12), .val (.int ch14), .val (.int ch16), .val (.int ch18), .val (.int vc6), .val (.ref b23), .val (.ref a_LISTED)] [(.ref b23)])) rfl (by rw [hml]; rfl) (argsL := [(.ref b23)]) (rest := []) (lenOf pd_6 rfl) rfl (by show 2 * 0 + _ ≤ _; exact Nat.le_of_eq rfl) (hb hby at_302) (fun _ _ => ⟨rfl, e89, (by decide : 8 + 1 ≤ _), (by decide : 64 + 2 ≤ _)⟩)
        dsimp only [Pt.U, Pt.locs, Pt.cells, Pt.slots] at X91 l91 y91 z91 st91 hQ91
        subst l91 y91 z91
        obtain ⟨hv91, N91q, K91q⟩ := hQ91
        rw [show own_named ([] : List Int32) a_LISTED a_SEEDED = .ref a_LISTED from (by unfold own_named; rw [if_pos (own_yes hvq56 hc268_57).symm])] at hv91
        subst hv91
        have N91 := Fr.app N37 N91q
        have hku91 := Nat.le_trans hk45 K91q.1
        have K91 := (K45).trans K91q all0
        have Zs91 : n0 ≤ T91.heap.size := Nat.le_trans Zs45 K91q.1
        have k91 : Go p e below (s₁.setTop (entryFrame m #[(.int p1), (.int p2), (.long q3)] maxLocals)) (T91.setTop (mkF m 305 #[.val (.int p1), .val (.int p2), .val (.long q3), .second, .val (.ref a4), .val (.int vl), .val (.int ch8), .val (.int ch10), .val (.int ch12), .val (.int ch14), .val (.int ch16), .val (.int ch18), .val (.int vc6), .val (.ref b23), .val (.ref a_LISTED)] [(.ref a_LISTED)])) := fun t kk => k90 t (st91 t kk)
        have k92 : Go p e below (s₁.setTop (entryFrame m #[(.int p1), (.int p2), (.long q3)] maxLocals)) (T91.setTop (mkF m 315 #[.val (.int p1), .val (.int p2), .val (.long q3), .second, .val (.ref a4), .val (.int vl), .val (.int ch8), .val (.int ch10), .val (.int ch12), .val (.int ch14), .val (.int ch16), .val (.int ch18), .val (.int vc6), .val (.ref b23), .val (.ref a_LISTED)] [(.int (1 : Int32))])) := fun t kk => k91 t (by
          show Steps p.tables e below (T91.setTop (mkF m 305 #[.val (.int p1), .val (.int p2), .val (.long q3), .second, .val (.ref a4), .val (.int vl), .val (.int ch8), .val (.int ch10), .val (.int ch12), .val (.int ch14), .val (.int ch16), .val (.int ch18), .val (.int vc6), .val (.ref b23), .val (.ref a_LISTED)] [(.ref a_LISTED)])) _
          refine XS.aload X91.here hx rfl (hb hby at_305) rfl rfl ?_
          show Steps p.tables e below (T91.setTop (mkF m 307 #[.val (.int p1), .val (.int p2), .val (.long q3), .second, .val (.ref a4), .val (.int vl), .val (.int ch8), .val (.int ch10), .val (.int ch12), .val (.int ch14), .val (.int ch16), .val (.int ch18), .val (.int vc6), .val (.ref b23), .val (.ref a_LISTED)] [(.ref a_LISTED), (.ref a_LISTED)])) _
          refine Jvm.RoadKit.acmp (g := (mkF m 307 #[.val (.int p1), .val (.int p2), .val (.long q3), .second, .val (.ref a4), .val (.int vl), .val (.int ch8), .val (.int ch10), .val (.int ch12), .val (.int ch14), .val (.int ch16), .val (.int ch18), .val (.int vc6), .val (.ref b23), .val (.ref a_LISTED)] [(.ref a_LISTED), (.ref a_LISTED)])) X91 hx rfl rfl rfl (pc0 := 307) (pc' := 310) (same := true) rfl (hb hby at_307) rfl (decide_eq_true (rfl : (Value.ref a_LISTED) = (Value.ref a_LISTED))) (by decide) (by decide) ?_
          show Steps p.tables e below (T91.setTop (mkF m 310 #[.val (.int p1), .val (.int p2), .val (.long q3), .second, .val (.ref a4), .val (.int vl), .val (.int ch8), .val (.int ch10), .val (.int ch12), .val (.int ch14), .val (.int ch16), .val (.int ch18), .val (.int vc6), .val (.ref b23), .val (.ref a_LISTED)] [])) _
          refine XS.iconst X91.here hx rfl (hb hby at_310) ?_
          show Steps p.tables e below (T91.setTop (mkF m 311 #[.val (.int p1), .val (.int p2), .val (.long q3), .second, .val (.ref a4), .val (.int vl), .val (.int ch8), .val (.int ch10), .val (.int ch12), .val (.int ch14), .val (.int ch16), .val (.int ch18), .val (.int vc6), .val (.ref b23), .val (.ref a_LISTED)] [(.int (1 : Int32))])) _
          refine XS.goto X91.here hx rfl (pc0 := 311) (pc' := 315) rfl (hb hby at_311) (by decide) (by decide) ?_
          exact kk)
        have Xb94 : Stand p l e room_1 (s.setVm T45.vm) m #[(.int p1), (.int p2), (.long q3)] below meth c T91 _ _ _ := X91
        obtain ⟨fs, hr, hrun, hended, hW⟩ := leaveW Xb94 hS45 hku91 (v := some (.int (1 : Int32))) (fun h => by rw [Bd.returns] at h; cases h)
        refine ⟨_, _, k92 _ ?_, hrun, hended, _, _, rfl, ?_, hW.1, hW.2.1, hW.2.2.1, hW.2.2.2.mono (by decide) (by decide)⟩
        · show Steps p.tables e below (T91.setTop (mkF m 315 #[.val (.int p1), .val (.int p2), .val (.long q3), .second, .val (.ref a4), .val (.int vl), .val (.int ch8), .val (.int ch10), .val (.int ch12), .val (.int ch14), .val (.int ch16), .val (.int ch18), .val (.int vc6), .val (.ref b23), .val (.ref a_LISTED)] [(.int (1 : Int32))])) _
          exact retN X91 hx (t := .boolean) Bd.returns (by simp) (hb hby at_315) hr
        · show Q0 Z p1 p2 q3 a__VALUES kV a_LISTED a_SEEDED s_LISTED t_LISTED kL s_SEEDED t_SEEDED kS cs fm h0 n0 _ T91.heap _
          exact ⟨rfl, N91⟩
    · have k95 : Go p e below (s₁.setTop (entryFrame m #[(.int p1), (.int p2), (.long q3)] maxLocals)) (T18.setTop (mkF m 117 #[.val (.int p1), .val (.int p2), .val (.long q3), .second, .val (.ref a4), .val (.int vl), .val (.int ch8), .val (.int ch10), .val (.int ch12), .val (.int ch14), .val (.int ch16), .val (.int ch18), .val (.int vc6), .unset, .unset] [(.int (1 : Int32)), (.int vl)])) := fun t kk => k20 t (by
        show Steps p.tables e below (T18.setTop (mkF m 96 #[.val (.int p1), .val (.int p2), .val (.long q3), .second, .val (.ref a4), .val (.int vl), .val (.int ch8), .val (.int ch10), .val (.int ch12), .val (.int ch14), .val (.int ch16), .val (.int ch18), .val (.int vc6), .unset, .unset] [(.int vl)])) _
        refine XS.ifYes X18.here hx rfl (pc0 := 96) (pc' := 114) rfl (hb hby at_96) rfl ((if0 _ _).trans (feq hc96_21).2) (by decide) (by decide) ?_
        show Steps p.tables e below (T18.setTop (mkF m 114 #[.val (.int p1), .val (.int p2), .val (.long q3), .second, .val (.ref a4), .val (.int vl), .val (.int ch8), .val (.int ch10), .val (.int ch12), .val (.int ch14), .val (.int ch16), .val (.int ch18), .val (.int vc6), .unset, .unset] [])) _
        refine XS.iload X18.here hx rfl (hb hby at_114) rfl ?_
        show Steps p.tables e below (T18.setTop (mkF m 116 #[.val (.int p1), .val (.int p2), .val (.long q3), .second, .val (.ref a4), .val (.int vl), .val (.int ch8), .val (.int ch10), .val (.int ch12), .val (.int ch14), .val (.int ch16), .val (.int ch18), .val (.int vc6), .unset, .unset] [(.int vl)])) _
        refine XS.iconst X18.here hx rfl (hb hby at_116) ?_
        exact kk)
      by_cases hc117_96 : vl = (1 : Int32)
      · have k97 : Go p e below (s₁.setTop (entryFrame m #[(.int p1), (.int p2), (.long q3)] maxLocals)) (T18.setTop (mkF m 120 #[.val (.int p1), .val (.int p2), .val (.long q3), .second, .val (.ref a4), .val (.int vl), .val (.int ch8), .val (.int ch10), .val (.int ch12), .val (.int ch14), .val (.int ch16), .val (.int ch18), .val (.int vc6), .unset, .unset] [])) := fun t kk => k95 t (by
          show Steps p.tables e below (T18.setTop (mkF m 117 #[.val (.int p1), .val (.int p2), .val (.long q3), .second, .val (.ref a4), .val (.int vl), .val (.int ch8), .val (.int ch10), .val (.int ch12), .val (.int ch14), .val (.int ch16), .val (.int ch18), .val (.int vc6), .unset, .unset] [(.int (1 : Int32)), (.int vl)])) _
          refine XS.icmpNo X18.here hx rfl (hb hby at_117) rfl (teq hc117_96).2 ?_
          exact kk)
        obtain ⟨T98, h98, X98, e98, E98, A98, D98, -, st98⟩ := newO X18 hx hZ4 hown4 (hw _ (List.mem_of_getElem? (i := 38) rfl)) (hw _ (List.mem_of_getElem? (i := 2) rfl)) (hw _ (List.mem_of_getElem? (i := 1) rfl)) e18 (g := (mkF m 120 #[.val (.int p1), .val (.int p2), .val (.long q3), .second, .val (.ref a4), .val (.int vl), .val (.int ch8), .val (.int ch10), .val (.int ch12), .val (.int ch14), .val (.int ch16), .val (.int ch18), .val (.int vc6), .unset, .unset] [])) rfl (hb hby at_120) (by decide) (by decide)
        obtain ⟨b98, g98⟩ : ∃ z, z = (h4).size := ⟨_, rfl⟩
        rw [← g98] at A98 D98 st98
        have ne_a4_b98 : a4 ≠ b98 := Nat.ne_of_lt (Nat.lt_of_lt_of_le xe4.lt (Nat.le_of_eq g98.symm))
        have ne_b4_b98 : b4 ≠ b98 := Nat.ne_of_lt (Nat.lt_of_lt_of_le V4.lt (Nat.le_of_eq g98.symm))
        have sz_b98 : h0.size ≤ b98 := Nat.le_trans K4.1 (Nat.le_of_eq g98.symm)
        have ge_b98 : n0 ≤ b98 := Nat.le_trans Zs4 (Nat.le_of_eq g98.symm)
        have f99 := xe4.ext E98
        have f100 := xc4.ext E98
        have f101 := xv4.ext E98
        have f102 := V4.ext E98
        have sf98_b98 := Safe.ext E98 C4.1 (Safe.new (x := b98) (Nat.le_of_eq g98.symm))
        have C98 := C4.trans (CHr.ext E98 C4.1)
        have hku98 := Nat.le_trans hk4 E98.1
        have K98 := (K4).ext E98
        have Zs98 : n0 ≤ h98.size := Nat.le_trans Zs4 E98.1
        have F98_value : Fld Z h98 b98 "java/lang/String" "value" "[B" .null := D98 (Or.inr (hw _ (List.mem_of_getElem? (i := 4) rfl))) (ty := (.array .byte)) (by decide)
        have F98_coder : Fld Z h98 b98 "java/lang/String" "coder" "B" (.int (0 : Int32)) := D98 (Or.inr (hw _ (List.mem_of_getElem? (i := 5) rfl))) (ty := .byte) (by decide)
        have k98 : Go p e below (s₁.setTop (entryFrame m #[(.int p1), (.int p2), (.long q3)] maxLocals)) (T98.setTop (mkF m 123 #[.val (.int p1), .val (.int p2), .val (.long q3), .second, .val (.ref a4), .val (.int vl), .val (.int ch8), .val (.int ch10), .val (.int ch12), .val (.int ch14), .val (.int ch16), .val (.int ch18), .val (.int vc6), .unset, .unset] [(.ref b98)])) := fun t kk => k97 t (st98 t kk)
        have k103 : Go p e below (s₁.setTop (entryFrame m #[(.int p1), (.int p2), (.long q3)] maxLocals)) (T98.setTop (mkF m 125 #[.val (.int p1), .val (.int p2), .val (.long q3), .second, .val (.ref a4), .val (.int vl), .val (.int ch8), .val (.int ch10), .val (.int ch12), .val (.int ch14), .val (.int ch16), .val (.int ch18), .val (.int vc6), .unset, .unset] [(.int (5 : Int32)), (.ref b98), (.ref b98)])) := fun t kk => k98 t (by
          show Steps p.tables e below (T98.setTop (mkF m 123 #[.val (.int p1), .val (.int p2), .val (.long q3), .second, .val (.ref a4), .val (.int vl), .val (.int ch8), .val (.int ch10), .val (.int ch12), .val (.int ch14), .val (.int ch16), .val (.int ch18), .val (.int vc6), .unset, .unset] [(.ref b98)])) _
          refine XS.dup X98.here hx rfl (hb hby at_123) rfl rfl ?_
          show Steps p.tables e below (T98.setTop (mkF m 124 #[.val (.int p1), .val (.int p2), .val (.long q3), .second, .val (.ref a4), .val (.int vl), .val (.int ch8), .val (.int ch10), .val (.int ch12), .val (.int ch14), .val (.int ch16), .val (.int ch18), .val (.int vc6), .unset, .unset] [(.ref b98), (.ref b98)])) _
          refine XS.iconst X98.here hx rfl (hb hby at_124) ?_
          exact kk)
        obtain ⟨T104, h104, kc104, X104, e104, E104, A104, st104⟩ := newP X98 hx hZ4 (hw _ (List.mem_of_getElem? (i := 39) rfl)) e98 (g := (mkF m 125 #[.val (.int p1), .val (.int p2), .val (.long q3), .second, .val (.ref a4), .val (.int vl), .val (.int ch8), .val (.int ch10), .val (.int ch12), .val (.int ch14), .val (.int ch16), .val (.int ch18), .val (.int vc6), .unset, .unset] [(.int (5 : Int32)), (.ref b98), (.ref b98)])) rfl (hb hby at_125) rfl (by decide) (cap := 5) (by decide) (by decide) (by decide) (by decide)
        obtain ⟨b104, g104⟩ : ∃ z, z = (h98).size := ⟨_, rfl⟩
        rw [← g104] at A104 st104
        have ne_a4_b104 : a4 ≠ b104 := Nat.ne_of_lt (Nat.lt_of_lt_of_le f99.lt (Nat.le_of_eq g104.symm))
        have ne_b4_b104 : b4 ≠ b104 := Nat.ne_of_lt (Nat.lt_of_lt_of_le f102.lt (Nat.le_of_eq g104.symm))
        have ne_b98_b104 : b98 ≠ b104 := Nat.ne_of_lt (Nat.lt_of_lt_of_le F98_value.lt (Nat.le_of_eq g104.symm))
        have sz_b104 : h0.size ≤ b104 := Nat.le_trans K98.1 (Nat.le_of_eq g104.symm)
        have ge_b104 : n0 ≤ b104 := Nat.le_trans Zs98 (Nat.le_of_eq g104.symm)
        have f105 := f99.ext E104
        have f106 := f100.ext E104
        have f107 := f101.ext E104
        have f108 := f102.ext E104
        have f109 := F98_value.ext E104
        have f110 := F98_coder.ext E104
        have f111 := A98.ext E104
        have sf104_b98 := Safe.ext E104 C98.1 sf98_b98
        have sf104_b104 := Safe.ext E104 C98.1 (Safe.new (x := b104) (Nat.le_of_eq g104.symm))
        have C104 := C98.trans (CHr.ext E104 C98.1)
        have hku104 := Nat.le_trans hku98 E104.1
        have K104 := (K98).ext E104
        have Zs104 : n0 ≤ h104.size := Nat.le_trans Zs98 E104.1
        have V104 : Arv Z h104 b104 kc104 .char (5 : Int32) [(.int (0 : Int32)), (.int (0 : Int32)), (.int (0 : Int32)), (.int (0 : Int32)), (.int (0 : Int32))] (.int (0 : Int32)) := (Arv.new A104 (by decide)).pad (pad_rep [] (.int (0 : Int32)) 5)
        have k104 : Go p e below (s₁.setTop (entryFrame m #[(.int p1), (.int p2), (.long q3)] maxLocals)) (T104.setTop (mkF m 127 #[.val (.int p1), .val (.int p2), .val (.long q3), .second, .val (.ref a4), .val (.int vl), .val (.int ch8), .val (.int ch10), .val (.int ch12), .val (.int ch14), .val (.int ch16), .val (.int ch18), .val (.int vc6), .unset, .unset] [(.ref b104), (.ref b98), (.ref b98)])) := fun t kk => k103 t (st104 t kk)
        have k112 : Go p e below (s₁.setTop (entryFrame m #[(.int p1), (.int p2), (.long q3)] maxLocals)) (T104.setTop (mkF m 131 #[.val (.int p1), .val (.int p2), .val (.long q3), .second, .val (.ref a4), .val (.int vl), .val (.int ch8), .val (.int ch10), .val (.int ch12), .val (.int ch14), .val (.int ch16), .val (.int ch18), .val (.int vc6), .unset, .unset] [(.int ch8), (.int (0 : Int32)), (.ref b104), (.ref b104), (.ref b98), (.ref b98)])) := fun t kk => k104 t (by
          show Steps p.tables e below (T104.setTop (mkF m 127 #[.val (.int p1), .val (.int p2), .val (.long q3), .second, .val (.ref a4), .val (.int vl), .val (.int ch8), .val (.int ch10), .val (.int ch12), .val (.int ch14), .val (.int ch16), .val (.int ch18), .val (.int vc6), .unset, .unset] [(.ref b104), (.ref b98), (.ref b98)])) _
          refine XS.dup X104.here hx rfl (hb hby at_127) rfl rfl ?_
          show Steps p.tables e below (T104.setTop (mkF m 128 #[.val (.int p1), .val (.int p2), .val (.long q3), .second, .val (.ref a4), .val (.int vl), .val (.int ch8), .val (.int ch10), .val (.int ch12), .val (.int ch14), .val (.int ch16), .val (.int ch18), .val (.int vc6), .unset, .unset] [(.ref b104), (.ref b104), (.ref b98), (.ref b98)])) _
          refine XS.iconst X104.here hx rfl (hb hby at_128) ?_
          show Steps p.tables e below (T104.setTop (mkF m 129 #[.val (.int p1), .val (.int p2), .val (.long q3), .second, .val (.ref a4), .val (.int vl), .val (.int ch8), .val (.int ch10), .val (.int ch12), .val (.int ch14), .val (.int ch16), .val (.int ch18), .val (.int vc6), .unset, .unset] [(.int (0 : Int32)), (.ref b104), (.ref b104), (.ref b98), (.ref b98)])) _
          refine XS.iload X104.here hx rfl (hb hby at_129) rfl ?_
          exact kk)
        obtain ⟨cl113, Ar113, q113, S113, G113, H113, J113⟩ := V104
        have hin113 : ¬ ((0 : Int32) < 0 ∨ cl113.slots.size ≤ ((0 : Int32)).toNatClampNeg) := inb_of S113 ⟨by decide, by decide⟩
        obtain ⟨T113, h113, X113, e113, W113, st113⟩ := stC X104 hx hZ4 e104 Ar113 (j := (0 : Int32)) hin113 (g := (mkF m 131 #[.val (.int p1), .val (.int p2), .val (.long q3), .second, .val (.ref a4), .val (.int vl), .val (.int ch8), .val (.int ch10), .val (.int ch12), .val (.int ch14), .val (.int ch16), .val (.int ch18), .val (.int vc6), .unset, .unset] [(.int ch8), (.int (0 : Int32)), (.ref b104), (.ref b104), (.ref b98), (.ref b98)])) rfl rfl (hb hby at_131)
        have V113 := Arv.set Ar113 q113 S113 G113 H113 J113 (fits_nar_char _) W113 0 rfl (Nat.le_of_ble_eq_true rfl)
        have N113 := Fr.snoc X113 N0 ge_b104
        have hku113 := Nat.le_trans hku104 (Keep.of_wr W113).1
        have sf113_b98 := Safe.wr W113 sf104_b104 C104.1 sf104_b98
        have sf113_b104 := Safe.wr W113 sf104_b104 C104.1 sf104_b104
        have C113 := C104.trans (CHr.wr W113 sf104_b104 C104.1)
        have f114 := f105.wr W113
        have f115 := f106.other W113 (Or.inl ne_a4_b104)
        have f116 := f107.other W113 (Or.inl ne_a4_b104)
        have f117 := f108.other W113 ne_b4_b104
        have f118 := f109.other W113 (Or.inl ne_b98_b104)
        have f119 := f110.other W113 (Or.inl ne_b98_b104)
        have f120 := f111.wr W113
        have K113 := (K104).wr W113 (Or.inr sz_b104)
        have Zs113 : n0 ≤ h113.size := Nat.le_trans Zs104 (Keep.of_wr W113).1
        have k113 : Go p e below (s₁.setTop (entryFrame m #[(.int p1), (.int p2), (.long q3)] maxLocals)) (T113.setTop (mkF m 132 #[.val (.int p1), .val (.int p2), .val (.long q3), .second, .val (.ref a4), .val (.int vl), .val (.int ch8), .val (.int ch10), .val (.int ch12), .val (.int ch14), .val (.int ch16), .val (.int ch18), .val (.int vc6), .unset, .unset] [(.ref b104), (.ref b98), (.ref b98)])) := fun t kk => k112 t (st113 t kk)
        have k121 : Go p e below (s₁.setTop (entryFrame m #[(.int p1), (.int p2), (.long q3)] maxLocals)) (T113.setTop (mkF m 136 #[.val (.int p1), .val (.int p2), .val (.long q3), .second, .val (.ref a4), .val (.int vl), .val (.int ch8), .val (.int ch10), .val (.int ch12), .val (.int ch14), .val (.int ch16), .val (.int ch18), .val (.int vc6), .unset, .unset] [(.int ch10), (.int (1 : Int32)), (.ref b104), (.ref b104), (.ref b98), (.ref b98)])) := fun t kk => k113 t (by
          show Steps p.tables e below (T113.setTop (mkF m 132 #[.val (.int p1), .val (.int p2), .val (.long q3), .second, .val (.ref a4), .val (.int vl), .val (.int ch8), .val (.int ch10), .val (.int ch12), .val (.int ch14), .val (.int ch16), .val (.int ch18), .val (.int vc6), .unset, .unset] [(.ref b104), (.ref b98), (.ref b98)])) _
          refine XS.dup X113.here hx rfl (hb hby at_132) rfl rfl ?_
          show Steps p.tables e below (T113.setTop (mkF m 133 #[.val (.int p1), .val (.int p2), .val (.long q3), .second, .val (.ref a4), .val (.int vl), .val (.int ch8), .val (.int ch10), .val (.int ch12), .val (.int ch14), .val (.int ch16), .val (.int ch18), .val (.int vc6), .unset, .unset] [(.ref b104), (.ref b104), (.ref b98), (.ref b98)])) _
          refine XS.iconst X113.here hx rfl (hb hby at_133) ?_
          show Steps p.tables e below (T113.setTop (mkF m 134 #[.val (.int p1), .val (.int p2), .val (.long q3), .second, .val (.ref a4), .val (.int vl), .val (.int ch8), .val (.int ch10), .val (.int ch12), .val (.int ch14), .val (.int ch16), .val (.int ch18), .val (.int vc6), .unset, .unset] [(.int (1 : Int32)), (.ref b104), (.ref b104), (.ref b98), (.ref b98)])) _
          refine XS.iload X113.here hx rfl (hb hby at_134) rfl ?_
          exact kk)
        obtain ⟨cl122, Ar122, q122, S122, G122, H122, J122⟩ := V113
        have hin122 : ¬ ((1 : Int32) < 0 ∨ cl122.slots.size ≤ ((1 : Int32)).toNatClampNeg) := inb_of S122 ⟨by decide, by decide⟩
        obtain ⟨T122, h122, X122, e122, W122, st122⟩ := stC X113 hx hZ4 e113 Ar122 (j := (1 : Int32)) hin122 (g := (mkF m 136 #[.val (.int p1), .val (.int p2), .val (.long q3), .second, .val (.ref a4), .val (.int vl), .val (.int ch8), .val (.int ch10), .val (.int ch12), .val (.int ch14), .val (.int ch16), .val (.int ch18), .val (.int vc6), .unset, .unset] [(.int ch10), (.int (1 : Int32)), (.ref b104), (.ref b104), (.ref b98), (.ref b98)])) rfl rfl (hb hby at_136)
        have V122 := Arv.set Ar122 q122 S122 G122 H122 J122 (fits_nar_char _) W122 1 rfl (Nat.le_of_ble_eq_true rfl)
        have N122 := Fr.snoc X122 N113 ge_b104
        have hku122 := Nat.le_trans hku113 (Keep.of_wr W122).1
        have sf122_b98 := Safe.wr W122 sf113_b104 C113.1 sf113_b98
        have sf122_b104 := Safe.wr W122 sf113_b104 C113.1 sf113_b104
        have C122 := C113.trans (CHr.wr W122 sf113_b104 C113.1)
        have f123 := f114.wr W122
        have f124 := f115.other W122 (Or.inl ne_a4_b104)
        have f125 := f116.other W122 (Or.inl ne_a4_b104)
        have f126 := f117.other W122 ne_b4_b104
        have f127 := f118.other W122 (Or.inl ne_b98_b104)
        have f128 := f119.other W122 (Or.inl ne_b98_b104)
        have f129 := f120.wr W122
        have K122 := (K113).wr W122 (Or.inr sz_b104)
        have Zs122 : n0 ≤ h122.size := Nat.le_trans Zs113 (Keep.of_wr W122).1
        have k122 : Go p e below (s₁.setTop (entryFrame m #[(.int p1), (.int p2), (.long q3)] maxLocals)) (T122.setTop (mkF m 137 #[.val (.int p1), .val (.int p2), .val (.long q3), .second, .val (.ref a4), .val (.int vl), .val (.int ch8), .val (.int ch10), .val (.int ch12), .val (.int ch14), .val (.int ch16), .val (.int ch18), .val (.int vc6), .unset, .unset] [(.ref b104), (.ref b98), (.ref b98)])) := fun t kk => k121 t (st122 t kk)
        have k130 : Go p e below (s₁.setTop (entryFrame m #[(.int p1), (.int p2), (.long q3)] maxLocals)) (T122.setTop (mkF m 141 #[.val (.int p1), .val (.int p2), .val (.long q3), .second, .val (.ref a4), .val (.int vl), .val (.int ch8), .val (.int ch10), .val (.int ch12), .val (.int ch14), .val (.int ch16), .val (.int ch18), .val (.int vc6), .unset, .unset] [(.int ch12), (.int (2 : Int32)), (.ref b104), (.ref b104), (.ref b98), (.ref b98)])) := fun t kk => k122 t (by
          show Steps p.tables e below (T122.setTop (mkF m 137 #[.val (.int p1), .val (.int p2), .val (.long q3), .second, .val (.ref a4), .val (.int vl), .val (.int ch8), .val (.int ch10), .val (.int ch12), .val (.int ch14), .val (.int ch16), .val (.int ch18), .val (.int vc6), .unset, .unset] [(.ref b104), (.ref b98), (.ref b98)])) _
          refine XS.dup X122.here hx rfl (hb hby at_137) rfl rfl ?_
          show Steps p.tables e below (T122.setTop (mkF m 138 #[.val (.int p1), .val (.int p2), .val (.long q3), .second, .val (.ref a4), .val (.int vl), .val (.int ch8), .val (.int ch10), .val (.int ch12), .val (.int ch14), .val (.int ch16), .val (.int ch18), .val (.int vc6), .unset, .unset] [(.ref b104), (.ref b104), (.ref b98), (.ref b98)])) _
          refine XS.iconst X122.here hx rfl (hb hby at_138) ?_
          show Steps p.tables e below (T122.setTop (mkF m 139 #[.val (.int p1), .val (.int p2), .val (.long q3), .second, .val (.ref a4), .val (.int vl), .val (.int ch8), .val (.int ch10), .val (.int ch12), .val (.int ch14), .val (.int ch16), .val (.int ch18), .val (.int vc6), .unset, .unset] [(.int (2 : Int32)), (.ref b104), (.ref b104), (.ref b98), (.ref b98)])) _
          refine XS.iload X122.here hx rfl (hb hby at_139) rfl ?_
          exact kk)
        obtain ⟨cl131, Ar131, q131, S131, G131, H131, J131⟩ := V122
        have hin131 : ¬ ((2 : Int32) < 0 ∨ cl131.slots.size ≤ ((2 : Int32)).toNatClampNeg) := inb_of S131 ⟨by decide, by decide⟩
        obtain ⟨T131, h131, X131, e131, W131, st131⟩ := stC X122 hx hZ4 e122 Ar131 (j := (2 : Int32)) hin131 (g := (mkF m 141 #[.val (.int p1), .val (.int p2), .val (.long q3), .second, .val (.ref a4), .val (.int vl), .val (.int ch8), .val (.int ch10), .val (.int ch12), .val (.int ch14), .val (.int ch16), .val (.int ch18), .val (.int vc6), .unset, .unset] [(.int ch12), (.int (2 : Int32)), (.ref b104), (.ref b104), (.ref b98), (.ref b98)])) rfl rfl (hb hby at_141)
        have V131 := Arv.set Ar131 q131 S131 G131 H131 J131 (fits_nar_char _) W131 2 rfl (Nat.le_of_ble_eq_true rfl)
        have N131 := Fr.snoc X131 N122 ge_b104
        have hku131 := Nat.le_trans hku122 (Keep.of_wr W131).1
        have sf131_b98 := Safe.wr W131 sf122_b104 C122.1 sf122_b98
        have sf131_b104 := Safe.wr W131 sf122_b104 C122.1 sf122_b104
        have C131 := C122.trans (CHr.wr W131 sf122_b104 C122.1)
        have f132 := f123.wr W131
        have f133 := f124.other W131 (Or.inl ne_a4_b104)
        have f134 := f125.other W131 (Or.inl ne_a4_b104)
        have f135 := f126.other W131 ne_b4_b104
        have f136 := f127.other W131 (Or.inl ne_b98_b104)
        have f137 := f128.other W131 (Or.inl ne_b98_b104)
        have f138 := f129.wr W131
        have K131 := (K122).wr W131 (Or.inr sz_b104)
        have Zs131 : n0 ≤ h131.size := Nat.le_trans Zs122 (Keep.of_wr W131).1
        have k131 : Go p e below (s₁.setTop (entryFrame m #[(.int p1), (.int p2), (.long q3)] maxLocals)) (T131.setTop (mkF m 142 #[.val (.int p1), .val (.int p2), .val (.long q3), .second, .val (.ref a4), .val (.int vl), .val (.int ch8), .val (.int ch10), .val (.int ch12), .val (.int ch14), .val (.int ch16), .val (.int ch18), .val (.int vc6), .unset, .unset] [(.ref b104), (.ref b98), (.ref b98)])) := fun t kk => k130 t (st131 t kk)
        have k139 : Go p e below (s₁.setTop (entryFrame m #[(.int p1), (.int p2), (.long q3)] maxLocals)) (T131.setTop (mkF m 146 #[.val (.int p1), .val (.int p2), .val (.long q3), .second, .val (.ref a4), .val (.int vl), .val (.int ch8), .val (.int ch10), .val (.int ch12), .val (.int ch14), .val (.int ch16), .val (.int ch18), .val (.int vc6), .unset, .unset] [(.int ch14), (.int (3 : Int32)), (.ref b104), (.ref b104), (.ref b98), (.ref b98)])) := fun t kk => k131 t (by
          show Steps p.tables e below (T131.setTop (mkF m 142 #[.val (.int p1), .val (.int p2), .val (.long q3), .second, .val (.ref a4), .val (.int vl), .val (.int ch8), .val (.int ch10), .val (.int ch12), .val (.int ch14), .val (.int ch16), .val (.int ch18), .val (.int vc6), .unset, .unset] [(.ref b104), (.ref b98), (.ref b98)])) _
          refine XS.dup X131.here hx rfl (hb hby at_142) rfl rfl ?_
          show Steps p.tables e below (T131.setTop (mkF m 143 #[.val (.int p1), .val (.int p2), .val (.long q3), .second, .val (.ref a4), .val (.int vl), .val (.int ch8), .val (.int ch10), .val (.int ch12), .val (.int ch14), .val (.int ch16), .val (.int ch18), .val (.int vc6), .unset, .unset] [(.ref b104), (.ref b104), (.ref b98), (.ref b98)])) _
          refine XS.iconst X131.here hx rfl (hb hby at_143) ?_
          show Steps p.tables e below (T131.setTop (mkF m 144 #[.val (.int p1), .val (.int p2), .val (.long q3), .second, .val (.ref a4), .val (.int vl), .val (.int ch8), .val (.int ch10), .val (.int ch12), .val (.int ch14), .val (.int ch16), .val (.int ch18), .val (.int vc6), .unset, .unset] [(.int (3 : Int32)), (.ref b104), (.ref b104), (.ref b98), (.ref b98)])) _
          refine XS.iload X131.here hx rfl (hb hby at_144) rfl ?_
          exact kk)
        obtain ⟨cl140, Ar140, q140, S140, G140, H140, J140⟩ := V131
        have hin140 : ¬ ((3 : Int32) < 0 ∨ cl140.slots.size ≤ ((3 : Int32)).toNatClampNeg) := inb_of S140 ⟨by decide, by decide⟩
        obtain ⟨T140, h140, X140, e140, W140, st140⟩ := stC X131 hx hZ4 e131 Ar140 (j := (3 : Int32)) hin140 (g := (mkF m 146 #[.val (.int p1), .val (.int p2), .val (.long q3), .second, .val (.ref a4), .val (.int vl), .val (.int ch8), .val (.int ch10), .val (.int ch12), .val (.int ch14), .val (.int ch16), .val (.int ch18), .val (.int vc6), .unset, .unset] [(.int ch14), (.int (3 : Int32)), (.ref b104), (.ref b104), (.ref b98), (.ref b98)])) rfl rfl (hb hby at_146)
        have V140 := Arv.set Ar140 q140 S140 G140 H140 J140 (fits_nar_char _) W140 3 rfl (Nat.le_of_ble_eq_true rfl)
        have N140 := Fr.snoc X140 N131 ge_b104
        have hku140 := Nat.le_trans hku131 (Keep.of_wr W140).1
        have sf140_b98 := Safe.wr W140 sf131_b104 C131.1 sf131_b98
        have sf140_b104 := Safe.wr W140 sf131_b104 C131.1 sf131_b104
        have C140 := C131.trans (CHr.wr W140 sf131_b104 C131.1)
        have f141 := f132.wr W140
        have f142 := f133.other W140 (Or.inl ne_a4_b104)
        have f143 := f134.other W140 (Or.inl ne_a4_b104)
        have f144 := f135.other W140 ne_b4_b104
        have f145 := f136.other W140 (Or.inl ne_b98_b104)
        have f146 := f137.other W140 (Or.inl ne_b98_b104)
        have f147 := f138.wr W140
        have K140 := (K131).wr W140 (Or.inr sz_b104)
        have Zs140 : n0 ≤ h140.size := Nat.le_trans Zs131 (Keep.of_wr W140).1
        have k140 : Go p e below (s₁.setTop (entryFrame m #[(.int p1), (.int p2), (.long q3)] maxLocals)) (T140.setTop (mkF m 147 #[.val (.int p1), .val (.int p2), .val (.long q3), .second, .val (.ref a4), .val (.int vl), .val (.int ch8), .val (.int ch10), .val (.int ch12), .val (.int ch14), .val (.int ch16), .val (.int ch18), .val (.int vc6), .unset, .unset] [(.ref b104), (.ref b98), (.ref b98)])) := fun t kk => k139 t (st140 t kk)
        have k148 : Go p e below (s₁.setTop (entryFrame m #[(.int p1), (.int p2), (.long q3)] maxLocals)) (T140.setTop (mkF m 151 #[.val (.int p1), .val (.int p2), .val (.long q3), .second, .val (.ref a4), .val (.int vl), .val (.int ch8), .val (.int ch10), .val (.int ch12), .val (.int ch14), .val (.int ch16), .val (.int ch18), .val (.int vc6), .unset, .unset] [(.int ch16), (.int (4 : Int32)), (.ref b104), (.ref b104), (.ref b98), (.ref b98)])) := fun t kk => k140 t (by
          show Steps p.tables e below (T140.setTop (mkF m 147 #[.val (.int p1), .val (.int p2), .val (.long q3), .second, .val (.ref a4), .val (.int vl), .val (.int ch8), .val (.int ch10), .val (.int ch12), .val (.int ch14), .val (.int ch16), .val (.int ch18), .val (.int vc6), .unset, .unset] [(.ref b104), (.ref b98), (.ref b98)])) _
          refine XS.dup X140.here hx rfl (hb hby at_147) rfl rfl ?_
          show Steps p.tables e below (T140.setTop (mkF m 148 #[.val (.int p1), .val (.int p2), .val (.long q3), .second, .val (.ref a4), .val (.int vl), .val (.int ch8), .val (.int ch10), .val (.int ch12), .val (.int ch14), .val (.int ch16), .val (.int ch18), .val (.int vc6), .unset, .unset] [(.ref b104), (.ref b104), (.ref b98), (.ref b98)])) _
          refine XS.iconst X140.here hx rfl (hb hby at_148) ?_
          show Steps p.tables e below (T140.setTop (mkF m 149 #[.val (.int p1), .val (.int p2), .val (.long q3), .second, .val (.ref a4), .val (.int vl), .val (.int ch8), .val (.int ch10), .val (.int ch12), .val (.int ch14), .val (.int ch16), .val (.int ch18), .val (.int vc6), .unset, .unset] [(.int (4 : Int32)), (.ref b104), (.ref b104), (.ref b98), (.ref b98)])) _
          refine XS.iload X140.here hx rfl (hb hby at_149) rfl ?_
          exact kk)
        obtain ⟨cl149, Ar149, q149, S149, G149, H149, J149⟩ := V140
        have hin149 : ¬ ((4 : Int32) < 0 ∨ cl149.slots.size ≤ ((4 : Int32)).toNatClampNeg) := inb_of S149 ⟨by decide, by decide⟩
        obtain ⟨T149, h149, X149, e149, W149, st149⟩ := stC X140 hx hZ4 e140 Ar149 (j := (4 : Int32)) hin149 (g := (mkF m 151 #[.val (.int p1), .val (.int p2), .val (.long q3), .second, .val (.ref a4), .val (.int vl), .val (.int ch8), .val (.int ch10), .val (.int ch12), .val (.int ch14), .val (.int ch16), .val (.int ch18), .val (.int vc6), .unset, .unset] [(.int ch16), (.int (4 : Int32)), (.ref b104), (.ref b104), (.ref b98), (.ref b98)])) rfl rfl (hb hby at_151)
        have V149 := Arv.set Ar149 q149 S149 G149 H149 J149 (fits_nar_char _) W149 4 rfl (Nat.le_of_ble_eq_true rfl)
        have N149 := Fr.snoc X149 N140 ge_b104
        have hku149 := Nat.le_trans hku140 (Keep.of_wr W149).1
        have sf149_b98 := Safe.wr W149 sf140_b104 C140.1 sf140_b98
        have sf149_b104 := Safe.wr W149 sf140_b104 C140.1 sf140_b104
        have C149 := C140.trans (CHr.wr W149 sf140_b104 C140.1)
        have f150 := f141.wr W149
        have f151 := f142.other W149 (Or.inl ne_a4_b104)
        have f152 := f143.other W149 (Or.inl ne_a4_b104)
        have f153 := f144.other W149 ne_b4_b104
        have f154 := f145.other W149 (Or.inl ne_b98_b104)
        have f155 := f146.other W149 (Or.inl ne_b98_b104)
        have f156 := f147.wr W149
        have K149 := (K140).wr W149 (Or.inr sz_b104)
        have Zs149 : n0 ≤ h149.size := Nat.le_trans Zs140 (Keep.of_wr W149).1
        have k149 : Go p e below (s₁.setTop (entryFrame m #[(.int p1), (.int p2), (.long q3)] maxLocals)) (T149.setTop (mkF m 152 #[.val (.int p1), .val (.int p2), .val (.long q3), .second, .val (.ref a4), .val (.int vl), .val (.int ch8), .val (.int ch10), .val (.int ch12), .val (.int ch14), .val (.int ch16), .val (.int ch18), .val (.int vc6), .unset, .unset] [(.ref b104), (.ref b98), (.ref b98)])) := fun t kk => k148 t (st149 t kk)
        have hps157 : ∀ c ∈ (([ch8, ch10, ch12, ch14, ch16] : List Int32).map (nar .char)), ¬ c < 0 ∧ ¬ (255 : Int32) < c := own_nars _ (by
          intro x hx
          simp only [List.mem_cons, List.not_mem_nil, or_false] at hx
          rcases hx with rfl | rfl | rfl | rfl | rfl
          · exact hb8
          · exact hb10
          · exact hb12
          · exact hb14
          · exact hb16)
        have hcs157 : StrChars.Road.CodA (([ch8, ch10, ch12, ch14, ch16] : List Int32).map (nar .char)) 0 (5 : Int32) ((((([ch8, ch10, ch12, ch14, ch16] : List Int32).map (nar .char))).map (fun c => c.toInt8.toInt32)).map Value.int) := StrChars.Road.codOf (n := 5) rfl (fun c hc => (hps157 c hc).2)
        obtain ⟨_, _, ⟨T157, L157, kx157, nx157⟩, -, X157, ⟨Lc157, hQ157, l157, y157, z157⟩, st157⟩ := X149.specialBack hx (y := (⟨"java/lang/String", "<init>", "([C)V"⟩ : MethodName)) rfl hown4 (mvT hZ4 (hw _ (List.mem_of_getElem? (i := 40) rfl))) (mvT hZ4 (hw _ (List.mem_of_getElem? (i := 41) rfl))) (mvT hZ4 (hw _ (List.mem_of_getElem? (i := 42) rfl))) (by decide) (StrChars.Road.backV (W := 1) hZ4 hws (kI := 4) (hw _ (List.mem_of_getElem? (i := 2) rfl)) (cs := (([ch8, ch10, ch12, ch14, ch16] : List Int32).map (nar .char))) (bs := ((([ch8, ch10, ch12, ch14, ch16] : List Int32).map (nar .char))).map (fun c => c.toInt8.toInt32)) (n := 5) ge_b98 Zs149 f156 f154 f155 V149 (own_stakeep S1 K149) hs1 rfl rfl (by decide) (by decide) hps157 rfl (by decide) (by decide)) (g := (mkF m 152 #[.val (.int p1), .val (.int p2), .val (.long q3), .second, .val (.ref a4), .val (.int vl), .val (.int ch8), .val (.int ch10), .val (.int ch12), .val (.int ch14), .val (.int ch16), .val (.int ch18), .val (.int vc6), .unset, .unset] [(.ref b104), (.ref b98), (.ref b98)])) rfl (by rw [hml]; rfl) (Steps.refl _) (a := b98) (argsL := [(.ref b104)]) (rest := [(.ref b98)]) (lenOf pd_5 rfl) rfl (by show 2 * 0 + _ ≤ _; exact Nat.le_of_eq rfl) (hb hby at_152) (fun _ _ => ⟨rfl, e149, (by decide : 4 + 1 ≤ _), (by decide : 37 + 5 ≤ _)⟩)
        dsimp only [Pt.U, Pt.locs, Pt.cells, Pt.slots] at X157 l157 y157 z157 st157 hQ157
        subst l157 y157 z157
        obtain ⟨rfl, N157q, K157q, x157_e, x157_c, t157, kb157, -, zt157, -, x157_v, x157_a⟩ := hQ157
        have N157 := Fr.app N149 N157q
        have sf157_b98 := Safe.keep K157q (sfS sf149_b98 sf0) C149.1 sf149_b98
        have sf157_b104 := Safe.keep K157q (sfS sf149_b98 sf0) C149.1 sf149_b104
        have C157 := C149.trans (CHr.keep K157q (sfS sf149_b98 sf0) C149.1)
        have hku157 := Nat.le_trans hku149 K157q.1
        have ne_a4_t157 : a4 ≠ t157 := Nat.ne_of_lt (Nat.lt_of_lt_of_le f150.lt zt157)
        have ne_b104_t157 : b104 ≠ t157 := Nat.ne_of_lt (Nat.lt_of_lt_of_le V149.lt zt157)
        have ne_b4_t157 : b4 ≠ t157 := Nat.ne_of_lt (Nat.lt_of_lt_of_le f153.lt zt157)
        have f158 := f150.keep K157q
        have f159 := f151.keep K157q (ninS ne_a4_b98 nin0)
        have f160 := f152.keep K157q (ninS ne_a4_b98 nin0)
        have f161 := f153.keep K157q (ninS ne_b4_b98 nin0)
        have f162 := V149.keep K157q (ninS (Ne.symm ne_b98_b104) nin0)
        have K157 := (K149).trans K157q (allS (Or.inr sz_b98) all0)
        have sz_t157 : h0.size ≤ t157 := Nat.le_trans K149.1 zt157
        have Zs157 : n0 ≤ T157.heap.size := Nat.le_trans Zs149 K157q.1
        have k157 : Go p e below (s₁.setTop (entryFrame m #[(.int p1), (.int p2), (.long q3)] maxLocals)) (T157.setTop (mkF m 155 #[.val (.int p1), .val (.int p2), .val (.long q3), .second, .val (.ref a4), .val (.int vl), .val (.int ch8), .val (.int ch10), .val (.int ch12), .val (.int ch14), .val (.int ch16), .val (.int ch18), .val (.int vc6), .unset, .unset] [(.ref b98)])) := fun t kk => k149 t (st157.trans kk)
        have k163 : Go p e below (s₁.setTop (entryFrame m #[(.int p1), (.int p2), (.long q3)] maxLocals)) (T157.setTop (mkF m 263 #[.val (.int p1), .val (.int p2), .val (.long q3), .second, .val (.ref a4), .val (.int vl), .val (.int ch8), .val (.int ch10), .val (.int ch12), .val (.int ch14), .val (.int ch16), .val (.int ch18), .val (.int vc6), .val (.ref b98), .unset] [(.ref b98)])) := fun t kk => k157 t (by
          show Steps p.tables e below (T157.setTop (mkF m 155 #[.val (.int p1), .val (.int p2), .val (.long q3), .second, .val (.ref a4), .val (.int vl), .val (.int ch8), .val (.int ch10), .val (.int ch12), .val (.int ch14), .val (.int ch16), .val (.int ch18), .val (.int vc6), .unset, .unset] [(.ref b98)])) _
          refine XS.astore X157.here hx rfl (hb hby at_155) rfl rfl (l' := #[.val (.int p1), .val (.int p2), .val (.long q3), .second, .val (.ref a4), .val (.int vl), .val (.int ch8), .val (.int ch10), .val (.int ch12), .val (.int ch14), .val (.int ch16), .val (.int ch18), .val (.int vc6), .val (.ref b98), .unset]) rfl ?_
          show Steps p.tables e below (T157.setTop (mkF m 157 #[.val (.int p1), .val (.int p2), .val (.long q3), .second, .val (.ref a4), .val (.int vl), .val (.int ch8), .val (.int ch10), .val (.int ch12), .val (.int ch14), .val (.int ch16), .val (.int ch18), .val (.int vc6), .val (.ref b98), .unset] [])) _
          refine XS.goto X157.here hx rfl (pc0 := 157) (pc' := 261) rfl (hb hby at_157) (by decide) (by decide) ?_
          show Steps p.tables e below (T157.setTop (mkF m 261 #[.val (.int p1), .val (.int p2), .val (.long q3), .second, .val (.ref a4), .val (.int vl), .val (.int ch8), .val (.int ch10), .val (.int ch12), .val (.int ch14), .val (.int ch16), .val (.int ch18), .val (.int vc6), .val (.ref b98), .unset] [])) _
          refine XS.aload X157.here hx rfl (hb hby at_261) rfl rfl ?_
          exact kk)
        have Xb165 : Stand p l e room_1 (s.setVm T4.vm) m #[(.int p1), (.int p2), (.long q3)] below meth c T157 _ _ _ := X157
        have k166 : Go p e below (s₁.setTop (entryFrame m #[(.int p1), (.int p2), (.long q3)] maxLocals)) (T157.setTop (mkF m 265 #[.val (.int p1), .val (.int p2), .val (.long q3), .second, .val (.ref a4), .val (.int vl), .val (.int ch8), .val (.int ch10), .val (.int ch12), .val (.int ch14), .val (.int ch16), .val (.int ch18), .val (.int vc6), .val (.ref b98), .unset] [(.ref a4), (.ref b98)])) := fun t kk => k163 t (by
          show Steps p.tables e below (T157.setTop (mkF m 263 #[.val (.int p1), .val (.int p2), .val (.long q3), .second, .val (.ref a4), .val (.int vl), .val (.int ch8), .val (.int ch10), .val (.int ch12), .val (.int ch14), .val (.int ch16), .val (.int ch18), .val (.int vc6), .val (.ref b98), .unset] [(.ref b98)])) _
          refine ldcAgain Xb165 hx hZ4 hown4 (hw _ (List.mem_of_getElem? (i := 0) rfl)) lit4 (g := (mkF m 263 #[.val (.int p1), .val (.int p2), .val (.long q3), .second, .val (.ref a4), .val (.int vl), .val (.int ch8), .val (.int ch10), .val (.int ch12), .val (.int ch14), .val (.int ch16), .val (.int ch18), .val (.int vc6), .val (.ref b98), .unset] [(.ref b98)])) rfl (hb hby at_263) _ ?_
          exact kk)
        obtain ⟨cq167, kq167, q167a, q167b, q167c⟩ := isOf hZ4 rfl x157_e
        obtain ⟨_, _, ⟨T167, L167, kx167, nx167⟩, -, X167, ⟨Lc167, hQ167, l167, y167, z167⟩, st167⟩ := X157.virtualBack hx (y := (⟨"java/lang/String", "equals", "(Ljava/lang/Object;)Z"⟩ : MethodName)) (z := (⟨"java/lang/String", "equals", "(Ljava/lang/Object;)Z"⟩ : MethodName)) hown4 (mvT hZ4 (hw _ (List.mem_of_getElem? (i := 51) rfl))) (mvT hZ4 (hw _ (List.mem_of_getElem? (i := 52) rfl))) (notFace_of_selects (args := #[]) (mvT hZ4 (hw _ (List.mem_of_getElem? (i := 54) rfl)))) (mvT hZ4 (hw _ (List.mem_of_getElem? (i := 54) rfl))) (mvT hZ4 (hw _ (List.mem_of_getElem? (i := 53) rfl))) (by decide) (StrChars.Road.eqW (W := 0) hZ4 heq (kI := 4) (hw _ (List.mem_of_getElem? (i := 2) rfl)) x157_e x157_v x157_c x157_a hcs157 (own_up _ hps157) (Nat.le_of_ble_eq_true rfl) f158 f160 f159 f161 own_Lc (own_up _ own_Lb) (Nat.le_of_ble_eq_true rfl) (own_stakeep S1 K157) hs1 (by decide) (by decide)) q167a q167c (g := (mkF m 265 #[.val (.int p1), .val (.int p2), .val (.long q3), .second, .val (.ref a4), .val (.int vl), .val (.int ch8), .val (.int ch10), .val (.int ch12), .val (.int ch14), .val (.int ch16), .val (.int ch18), .val (.int vc6), .val (.ref b98), .unset] [(.ref a4), (.ref b98)])) rfl (by rw [hml]; rfl) (Steps.refl _) (argsL := [(.ref a4)]) (rest := []) (lenOf pd_3 rfl) rfl (by show 2 * 0 + _ ≤ _; exact Nat.le_of_eq rfl) (hb hby at_265) (fun _ _ => ⟨rfl, rfl, (by decide : 5 + 0 ≤ _), (by decide : 42 + 0 ≤ _)⟩)
        dsimp only [Pt.U, Pt.locs, Pt.cells, Pt.slots] at X167 l167 y167 z167 st167 hQ167
        subst l167 y167 z167
        obtain ⟨hcase167, rfl, e167⟩ := hQ167
        try rw [List.append_nil] at X167
        obtain ⟨vq167, rfl, hvq167⟩ := own_case hcase167
        have k167 : Go p e below (s₁.setTop (entryFrame m #[(.int p1), (.int p2), (.long q3)] maxLocals)) (T167.setTop (mkF m 268 #[.val (.int p1), .val (.int p2), .val (.long q3), .second, .val (.ref a4), .val (.int vl), .val (.int ch8), .val (.int ch10), .val (.int ch12), .val (.int ch14), .val (.int ch16), .val (.int ch18), .val (.int vc6), .val (.ref b98), .unset] [(.int vq167)])) := fun t kk => k166 t (st167.trans kk)
        by_cases hc268_168 : vq167 = (0 : Int32)
        · have k169 : Go p e below (s₁.setTop (entryFrame m #[(.int p1), (.int p2), (.long q3)] maxLocals)) (T167.setTop (mkF m 281 #[.val (.int p1), .val (.int p2), .val (.long q3), .second, .val (.ref a4), .val (.int vl), .val (.int ch8), .val (.int ch10), .val (.int ch12), .val (.int ch14), .val (.int ch16), .val (.int ch18), .val (.int vc6), .val (.ref b98), .unset] [(.ref b98)])) := fun t kk => k167 t (by
            show Steps p.tables e below (T167.setTop (mkF m 268 #[.val (.int p1), .val (.int p2), .val (.long q3), .second, .val (.ref a4), .val (.int vl), .val (.int ch8), .val (.int ch10), .val (.int ch12), .val (.int ch14), .val (.int ch16), .val (.int ch18), .val (.int vc6), .val (.ref b98), .unset] [(.int vq167)])) _
            refine XS.ifYes X167.here hx rfl (pc0 := 268) (pc' := 279) rfl (hb hby at_268) rfl ((if0 _ _).trans (teq hc268_168).1) (by decide) (by decide) ?_
            show Steps p.tables e below (T167.setTop (mkF m 279 #[.val (.int p1), .val (.int p2), .val (.long q3), .second, .val (.ref a4), .val (.int vl), .val (.int ch8), .val (.int ch10), .val (.int ch12), .val (.int ch14), .val (.int ch16), .val (.int ch18), .val (.int vc6), .val (.ref b98), .unset] [])) _
            refine XS.aload X167.here hx rfl (hb hby at_279) rfl rfl ?_
            exact kk)
          have Xb171 : Stand p l e room_1 (s.setVm T4.vm) m #[(.int p1), (.int p2), (.long q3)] below meth c T167 _ _ _ := X167
          obtain ⟨a170, T170, h170, kn170, b170, kc170, X170, e170, E170, hS170, hk170, hZ170, hown170, xe170, xc170, xv170, V170, -, -, Cn170, lit170, nsf170, st170⟩ := ldcCH (s := s) (vm0 := T4.vm) Xb171 hx hZ4 hown4 (hw _ (List.mem_of_getElem? (i := 60) rfl)) wS0 e167 hS4 hku157 (EW.cons (hw _ (List.mem_of_getElem? (i := 60) rfl)) (by decide) (EW.cons (hw _ (List.mem_of_getElem? (i := 0) rfl)) (by decide) (EW.cons (hw _ (List.mem_of_getElem? (i := 50) rfl)) (by decide) EW.nil))) (List.mem_of_getElem? (i := 0) rfl) C157.1 (vs := [(.int (115 : Int32)), (.int (101 : Int32)), (.int (101 : Int32)), (.int (100 : Int32)), (.int (101 : Int32)), (.int (100 : Int32))]) (z := 6) ⟨by decide, by decide⟩ (by decide) rfl (g := (mkF m 281 #[.val (.int p1), .val (.int p2), .val (.long q3), .second, .val (.ref a4), .val (.int vl), .val (.int ch8), .val (.int ch10), .val (.int ch12), .val (.int ch14), .val (.int ch16), .val (.int ch18), .val (.int vc6), .val (.ref b98), .unset] [(.ref b98)])) rfl (hb hby at_281) (n := 24) (by decide) (by decide) (by decide) (by decide)
          have sf170_b98 := CHr.safe Cn170 x157_e.lt sf157_b98
          have sf170_b104 := CHr.safe Cn170 f162.lt sf157_b104
          have C170 := C157.trans Cn170
          have f172 := f158.ext E170
          have f173 := f159.ext E170
          have f174 := f160.ext E170
          have f175 := f161.ext E170
          have f176 := f162.ext E170
          have f177 := x157_e.ext E170
          have f178 := x157_c.ext E170
          have f179 := x157_v.ext E170
          have f180 := x157_a.ext E170
          have K170 := (K157).ext E170
          have Zs170 : n0 ≤ h170.size := Nat.le_trans Zs157 E170.1
          have k170 : Go p e below (s₁.setTop (entryFrame m #[(.int p1), (.int p2), (.long q3)] maxLocals)) (T170.setTop (mkF m 283 #[.val (.int p1), .val (.int p2), .val (.long q3), .second, .val (.ref a4), .val (.int vl), .val (.int ch8), .val (.int ch10), .val (.int ch12), .val (.int ch14), .val (.int ch16), .val (.int ch18), .val (.int vc6), .val (.ref b98), .unset] [(.ref a170), (.ref b98)])) := fun t kk => k169 t (st170 t kk)
          obtain ⟨cq181, kq181, q181a, q181b, q181c⟩ := isOf hZ170 e170 f177
          obtain ⟨_, _, ⟨T181, L181, kx181, nx181⟩, -, X181, ⟨Lc181, hQ181, l181, y181, z181⟩, st181⟩ := X170.virtualBack hx (y := (⟨"java/lang/String", "equals", "(Ljava/lang/Object;)Z"⟩ : MethodName)) (z := (⟨"java/lang/String", "equals", "(Ljava/lang/Object;)Z"⟩ : MethodName)) hown170 (mvT hZ170 (hw _ (List.mem_of_getElem? (i := 51) rfl))) (mvT hZ170 (hw _ (List.mem_of_getElem? (i := 52) rfl))) (notFace_of_selects (args := #[]) (mvT hZ170 (hw _ (List.mem_of_getElem? (i := 54) rfl)))) (mvT hZ170 (hw _ (List.mem_of_getElem? (i := 54) rfl))) (mvT hZ170 (hw _ (List.mem_of_getElem? (i := 53) rfl))) (by decide) (StrChars.Road.eqW (W := 0) hZ170 heq (kI := 4) (hw _ (List.mem_of_getElem? (i := 2) rfl)) f177 f179 f178 f180 hcs157 (own_up _ hps157) (Nat.le_of_ble_eq_true rfl) xe170 xv170 xc170 V170 own_Sc (own_up _ own_Sb) (Nat.le_of_ble_eq_true rfl) (own_stakeep S1 K170) hs1 (by decide) (by decide)) q181a q181c (g := (mkF m 283 #[.val (.int p1), .val (.int p2), .val (.long q3), .second, .val (.ref a4), .val (.int vl), .val (.int ch8), .val (.int ch10), .val (.int ch12), .val (.int ch14), .val (.int ch16), .val (.int ch18), .val (.int vc6), .val (.ref b98), .unset] [(.ref a170), (.ref b98)])) rfl (by rw [hml]; rfl) (Steps.refl _) (argsL := [(.ref a170)]) (rest := []) (lenOf pd_3 rfl) rfl (by show 2 * 0 + _ ≤ _; exact Nat.le_of_eq rfl) (hb hby at_283) (fun _ _ => ⟨rfl, e170, (by decide : 7 + 0 ≤ _), (by decide : 70 + 0 ≤ _)⟩)
          dsimp only [Pt.U, Pt.locs, Pt.cells, Pt.slots] at X181 l181 y181 z181 st181 hQ181
          subst l181 y181 z181
          obtain ⟨hcase181, rfl, e181⟩ := hQ181
          try rw [List.append_nil] at X181
          obtain ⟨vq181, rfl, hvq181⟩ := own_case hcase181
          have k181 : Go p e below (s₁.setTop (entryFrame m #[(.int p1), (.int p2), (.long q3)] maxLocals)) (T181.setTop (mkF m 286 #[.val (.int p1), .val (.int p2), .val (.long q3), .second, .val (.ref a4), .val (.int vl), .val (.int ch8), .val (.int ch10), .val (.int ch12), .val (.int ch14), .val (.int ch16), .val (.int ch18), .val (.int vc6), .val (.ref b98), .unset] [(.int vq181)])) := fun t kk => k170 t (st181.trans kk)
          by_cases hc286_182 : vq181 = (0 : Int32)
          · have k183 : Go p e below (s₁.setTop (entryFrame m #[(.int p1), (.int p2), (.long q3)] maxLocals)) (T181.setTop (mkF m 302 #[.val (.int p1), .val (.int p2), .val (.long q3), .second, .val (.ref a4), .val (.int vl), .val (.int ch8), .val (.int ch10), .val (.int ch12), .val (.int ch14), .val (.int ch16), .val (.int ch18), .val (.int vc6), .val (.ref b98), .val .null] [(.ref b98)])) := fun t kk => k181 t (by
              show Steps p.tables e below (T181.setTop (mkF m 286 #[.val (.int p1), .val (.int p2), .val (.long q3), .second, .val (.ref a4), .val (.int vl), .val (.int ch8), .val (.int ch10), .val (.int ch12), .val (.int ch14), .val (.int ch16), .val (.int ch18), .val (.int vc6), .val (.ref b98), .unset] [(.int vq181)])) _
              refine XS.ifYes X181.here hx rfl (pc0 := 286) (pc' := 297) rfl (hb hby at_286) rfl ((if0 _ _).trans (teq hc286_182).1) (by decide) (by decide) ?_
              show Steps p.tables e below (T181.setTop (mkF m 297 #[.val (.int p1), .val (.int p2), .val (.long q3), .second, .val (.ref a4), .val (.int vl), .val (.int ch8), .val (.int ch10), .val (.int ch12), .val (.int ch14), .val (.int ch16), .val (.int ch18), .val (.int vc6), .val (.ref b98), .unset] [])) _
              refine XS.aconstNull X181.here hx rfl (hb hby at_297) ?_
              show Steps p.tables e below (T181.setTop (mkF m 298 #[.val (.int p1), .val (.int p2), .val (.long q3), .second, .val (.ref a4), .val (.int vl), .val (.int ch8), .val (.int ch10), .val (.int ch12), .val (.int ch14), .val (.int ch16), .val (.int ch18), .val (.int vc6), .val (.ref b98), .unset] [.null])) _
              refine XS.astore X181.here hx rfl (hb hby at_298) rfl rfl (l' := #[.val (.int p1), .val (.int p2), .val (.long q3), .second, .val (.ref a4), .val (.int vl), .val (.int ch8), .val (.int ch10), .val (.int ch12), .val (.int ch14), .val (.int ch16), .val (.int ch18), .val (.int vc6), .val (.ref b98), .val .null]) rfl ?_
              show Steps p.tables e below (T181.setTop (mkF m 300 #[.val (.int p1), .val (.int p2), .val (.long q3), .second, .val (.ref a4), .val (.int vl), .val (.int ch8), .val (.int ch10), .val (.int ch12), .val (.int ch14), .val (.int ch16), .val (.int ch18), .val (.int vc6), .val (.ref b98), .val .null] [])) _
              refine XS.aload X181.here hx rfl (hb hby at_300) rfl rfl ?_
              exact kk)
            obtain ⟨_, _, ⟨T184, L184, kx184, nx184⟩, -, X184, ⟨Lc184, hQ184, l184, y184, z184⟩, st184⟩ := Jvm.LawKit.callS X181 hx (y := (⟨"com/example/tabularium/tabularium/record/Deal", "named", "(Ljava/lang/String;)Lcom/example/tabularium/tabularium/record/Deal;"⟩ : MethodName)) hown170 (mvT hZ170 (hw _ (List.mem_of_getElem? (i := 61) rfl))) (mvT hZ170 (hw _ (List.mem_of_getElem? (i := 62) rfl))) (mvT hZ170 (hw _ (List.mem_of_getElem? (i := 63) rfl))) (mvT hZ170 (hw _ (List.mem_of_getElem? (i := 64) rfl))) (by decide) (backOf (W := 0) (rmD l Z a0 hw [] b98 a__VALUES kV a_LISTED a_SEEDED s_LISTED t_LISTED kL s_SEEDED t_SEEDED kS (([ch8, ch10, ch12, ch14, ch16] : List Int32).map (nar .char)) t157 kb157 (5 : Int32) _ cs h170 n0 Zs170 (own_stakeep SV K170) (PAV.keep K170 nin0) (PEV.keep K170) (f_LISTED.keep K170 nin0) (es_LISTED.keep K170) (cs_LISTED.keep K170 nin0) (vs_LISTED.keep K170 nin0) (as_LISTED.keep K170 nin0) (f_SEEDED.keep K170 nin0) (es_SEEDED.keep K170) (cs_SEEDED.keep K170 nin0) (vs_SEEDED.keep K170 nin0) (as_SEEDED.keep K170 nin0) f177 f179 f178 f180 hcs157 (own_up _ hps157) (Nat.le_of_ble_eq_true rfl) (own_stakeep S1 K170) hs1) hZ170 (hw _ (List.mem_of_getElem? (i := 64) rfl)) (hw _ (List.mem_of_getElem? (i := 63) rfl)) (by decide) (by decide)) (g := (mkF m 302 #[.val (.int p1), .val (.int p2), .val (.long q3), .second, .val (.ref a4), .val (.int vl), .val (.int ch8), .val (.int ch10), .val (.int ch12), .val (.int ch14), .val (.int ch16), .val (.int ch18), .val (.int vc6), .val (.ref b98), .val .null] [(.ref b98)])) rfl (by rw [hml]; rfl) (argsL := [(.ref b98)]) (rest := []) (lenOf pd_6 rfl) rfl (by show 2 * 0 + _ ≤ _; exact Nat.le_of_eq rfl) (hb hby at_302) (fun _ _ => ⟨rfl, e181, (by decide : 7 + 1 ≤ _), (by decide : 70 + 2 ≤ _)⟩)
            dsimp only [Pt.U, Pt.locs, Pt.cells, Pt.slots] at X184 l184 y184 z184 st184 hQ184
            subst l184 y184 z184
            obtain ⟨hv184, N184q, K184q⟩ := hQ184
            rw [show own_named (([ch8, ch10, ch12, ch14, ch16] : List Int32).map (nar .char)) a_LISTED a_SEEDED = .null from (by unfold own_named; rw [if_neg (fun q => own_no hvq167 hc268_168 q.symm), if_neg (fun q => own_no hvq181 hc286_182 q.symm)])] at hv184
            subst hv184
            have N184 := Fr.app N157 N184q
            have hku184 := Nat.le_trans hk170 K184q.1
            have K184 := (K170).trans K184q all0
            have Zs184 : n0 ≤ T184.heap.size := Nat.le_trans Zs170 K184q.1
            have k184 : Go p e below (s₁.setTop (entryFrame m #[(.int p1), (.int p2), (.long q3)] maxLocals)) (T184.setTop (mkF m 305 #[.val (.int p1), .val (.int p2), .val (.long q3), .second, .val (.ref a4), .val (.int vl), .val (.int ch8), .val (.int ch10), .val (.int ch12), .val (.int ch14), .val (.int ch16), .val (.int ch18), .val (.int vc6), .val (.ref b98), .val .null] [.null])) := fun t kk => k183 t (st184 t kk)
            have k185 : Go p e below (s₁.setTop (entryFrame m #[(.int p1), (.int p2), (.long q3)] maxLocals)) (T184.setTop (mkF m 315 #[.val (.int p1), .val (.int p2), .val (.long q3), .second, .val (.ref a4), .val (.int vl), .val (.int ch8), .val (.int ch10), .val (.int ch12), .val (.int ch14), .val (.int ch16), .val (.int ch18), .val (.int vc6), .val (.ref b98), .val .null] [(.int (1 : Int32))])) := fun t kk => k184 t (by
              show Steps p.tables e below (T184.setTop (mkF m 305 #[.val (.int p1), .val (.int p2), .val (.long q3), .second, .val (.ref a4), .val (.int vl), .val (.int ch8), .val (.int ch10), .val (.int ch12), .val (.int ch14), .val (.int ch16), .val (.int ch18), .val (.int vc6), .val (.ref b98), .val .null] [.null])) _
              refine XS.aload X184.here hx rfl (hb hby at_305) rfl rfl ?_
              show Steps p.tables e below (T184.setTop (mkF m 307 #[.val (.int p1), .val (.int p2), .val (.long q3), .second, .val (.ref a4), .val (.int vl), .val (.int ch8), .val (.int ch10), .val (.int ch12), .val (.int ch14), .val (.int ch16), .val (.int ch18), .val (.int vc6), .val (.ref b98), .val .null] [.null, .null])) _
              refine Jvm.RoadKit.acmp (g := (mkF m 307 #[.val (.int p1), .val (.int p2), .val (.long q3), .second, .val (.ref a4), .val (.int vl), .val (.int ch8), .val (.int ch10), .val (.int ch12), .val (.int ch14), .val (.int ch16), .val (.int ch18), .val (.int vc6), .val (.ref b98), .val .null] [.null, .null])) X184 hx rfl rfl rfl (pc0 := 307) (pc' := 310) (same := true) rfl (hb hby at_307) rfl (decide_eq_true (rfl : Value.null = Value.null)) (by decide) (by decide) ?_
              show Steps p.tables e below (T184.setTop (mkF m 310 #[.val (.int p1), .val (.int p2), .val (.long q3), .second, .val (.ref a4), .val (.int vl), .val (.int ch8), .val (.int ch10), .val (.int ch12), .val (.int ch14), .val (.int ch16), .val (.int ch18), .val (.int vc6), .val (.ref b98), .val .null] [])) _
              refine XS.iconst X184.here hx rfl (hb hby at_310) ?_
              show Steps p.tables e below (T184.setTop (mkF m 311 #[.val (.int p1), .val (.int p2), .val (.long q3), .second, .val (.ref a4), .val (.int vl), .val (.int ch8), .val (.int ch10), .val (.int ch12), .val (.int ch14), .val (.int ch16), .val (.int ch18), .val (.int vc6), .val (.ref b98), .val .null] [(.int (1 : Int32))])) _
              refine XS.goto X184.here hx rfl (pc0 := 311) (pc' := 315) rfl (hb hby at_311) (by decide) (by decide) ?_
              exact kk)
            have Xb187 : Stand p l e room_1 (s.setVm T170.vm) m #[(.int p1), (.int p2), (.long q3)] below meth c T184 _ _ _ := X184
            obtain ⟨fs, hr, hrun, hended, hW⟩ := leaveW Xb187 hS170 hku184 (v := some (.int (1 : Int32))) (fun h => by rw [Bd.returns] at h; cases h)
            refine ⟨_, _, k185 _ ?_, hrun, hended, _, _, rfl, ?_, hW.1, hW.2.1, hW.2.2.1, hW.2.2.2.mono (by decide) (by decide)⟩
            · show Steps p.tables e below (T184.setTop (mkF m 315 #[.val (.int p1), .val (.int p2), .val (.long q3), .second, .val (.ref a4), .val (.int vl), .val (.int ch8), .val (.int ch10), .val (.int ch12), .val (.int ch14), .val (.int ch16), .val (.int ch18), .val (.int vc6), .val (.ref b98), .val .null] [(.int (1 : Int32))])) _
              exact retN X184 hx (t := .boolean) Bd.returns (by simp) (hb hby at_315) hr
            · show Q0 Z p1 p2 q3 a__VALUES kV a_LISTED a_SEEDED s_LISTED t_LISTED kL s_SEEDED t_SEEDED kS cs fm h0 n0 _ T184.heap _
              exact ⟨rfl, N184⟩
          · have k188 : Go p e below (s₁.setTop (entryFrame m #[(.int p1), (.int p2), (.long q3)] maxLocals)) (T181.setTop (mkF m 289 #[.val (.int p1), .val (.int p2), .val (.long q3), .second, .val (.ref a4), .val (.int vl), .val (.int ch8), .val (.int ch10), .val (.int ch12), .val (.int ch14), .val (.int ch16), .val (.int ch18), .val (.int vc6), .val (.ref b98), .unset] [])) := fun t kk => k181 t (by
              show Steps p.tables e below (T181.setTop (mkF m 286 #[.val (.int p1), .val (.int p2), .val (.long q3), .second, .val (.ref a4), .val (.int vl), .val (.int ch8), .val (.int ch10), .val (.int ch12), .val (.int ch14), .val (.int ch16), .val (.int ch18), .val (.int vc6), .val (.ref b98), .unset] [(.int vq181)])) _
              refine XS.ifNo X181.here hx rfl (hb hby at_286) rfl ((if0 _ _).trans (feq hc286_182).1) ?_
              exact kk)
            obtain ⟨T189, X189, e189, st189⟩ := getS2 X181 hx hZ170 hown170 (host := "") (Or.inl (hw _ (List.mem_of_getElem? (i := 96) rfl))) Via.refl e181 (own_stakeep S_SEEDED K170) (g := (mkF m 289 #[.val (.int p1), .val (.int p2), .val (.long q3), .second, .val (.ref a4), .val (.int vl), .val (.int ch8), .val (.int ch10), .val (.int ch12), .val (.int ch14), .val (.int ch16), .val (.int ch18), .val (.int vc6), .val (.ref b98), .unset] [])) rfl (hb hby at_289)
            have k189 : Go p e below (s₁.setTop (entryFrame m #[(.int p1), (.int p2), (.long q3)] maxLocals)) (T189.setTop (mkF m 292 #[.val (.int p1), .val (.int p2), .val (.long q3), .second, .val (.ref a4), .val (.int vl), .val (.int ch8), .val (.int ch10), .val (.int ch12), .val (.int ch14), .val (.int ch16), .val (.int ch18), .val (.int vc6), .val (.ref b98), .unset] [(.ref a_SEEDED)])) := fun t kk => k188 t (st189 t kk)
            have k190 : Go p e below (s₁.setTop (entryFrame m #[(.int p1), (.int p2), (.long q3)] maxLocals)) (T189.setTop (mkF m 302 #[.val (.int p1), .val (.int p2), .val (.long q3), .second, .val (.ref a4), .val (.int vl), .val (.int ch8), .val (.int ch10), .val (.int ch12), .val (.int ch14), .val (.int ch16), .val (.int ch18), .val (.int vc6), .val (.ref b98), .val (.ref a_SEEDED)] [(.ref b98)])) := fun t kk => k189 t (by
              show Steps p.tables e below (T189.setTop (mkF m 292 #[.val (.int p1), .val (.int p2), .val (.long q3), .second, .val (.ref a4), .val (.int vl), .val (.int ch8), .val (.int ch10), .val (.int ch12), .val (.int ch14), .val (.int ch16), .val (.int ch18), .val (.int vc6), .val (.ref b98), .unset] [(.ref a_SEEDED)])) _
              refine XS.astore X189.here hx rfl (hb hby at_292) rfl rfl (l' := #[.val (.int p1), .val (.int p2), .val (.long q3), .second, .val (.ref a4), .val (.int vl), .val (.int ch8), .val (.int ch10), .val (.int ch12), .val (.int ch14), .val (.int ch16), .val (.int ch18), .val (.int vc6), .val (.ref b98), .val (.ref a_SEEDED)]) rfl ?_
              show Steps p.tables e below (T189.setTop (mkF m 294 #[.val (.int p1), .val (.int p2), .val (.long q3), .second, .val (.ref a4), .val (.int vl), .val (.int ch8), .val (.int ch10), .val (.int ch12), .val (.int ch14), .val (.int ch16), .val (.int ch18), .val (.int vc6), .val (.ref b98), .val (.ref a_SEEDED)] [])) _
              refine XS.goto X189.here hx rfl (pc0 := 294) (pc' := 300) rfl (hb hby at_294) (by decide) (by decide) ?_
              show Steps p.tables e below (T189.setTop (mkF m 300 #[.val (.int p1), .val (.int p2), .val (.long q3), .second, .val (.ref a4), .val (.int vl), .val (.int ch8), .val (.int ch10), .val (.int ch12), .val (.int ch14), .val (.int ch16), .val (.int ch18), .val (.int vc6), .val (.ref b98), .val (.ref a_SEEDED)] [])) _
              refine XS.aload X189.here hx rfl (hb hby at_300) rfl rfl ?_
              exact kk)
            obtain ⟨_, _, ⟨T191, L191, kx191, nx191⟩, -, X191, ⟨Lc191, hQ191, l191, y191, z191⟩, st191⟩ := Jvm.LawKit.callS X189 hx (y := (⟨"com/example/tabularium/tabularium/record/Deal", "named", "(Ljava/lang/String;)Lcom/example/tabularium/tabularium/record/Deal;"⟩ : MethodName)) hown170 (mvT hZ170 (hw _ (List.mem_of_getElem? (i := 61) rfl))) (mvT hZ170 (hw _ (List.mem_of_getElem? (i := 62) rfl))) (mvT hZ170 (hw _ (List.mem_of_getElem? (i := 63) rfl))) (mvT hZ170 (hw _ (List.mem_of_getElem? (i := 64) rfl))) (by decide) (backOf (W := 0) (rmD l Z a0 hw [] b98 a__VALUES kV a_LISTED a_SEEDED s_LISTED t_LISTED kL s_SEEDED t_SEEDED kS (([ch8, ch10, ch12, ch14, ch16] : List Int32).map (nar .char)) t157 kb157 (5 : Int32) _ cs h170 n0 Zs170 (own_stakeep SV K170) (PAV.keep K170 nin0) (PEV.keep K170) (f_LISTED.keep K170 nin0) (es_LISTED.keep K170) (cs_LISTED.keep K170 nin0) (vs_LISTED.keep K170 nin0) (as_LISTED.keep K170 nin0) (f_SEEDED.keep K170 nin0) (es_SEEDED.keep K170) (cs_SEEDED.keep K170 nin0) (vs_SEEDED.keep K170 nin0) (as_SEEDED.keep K170 nin0) f177 f179 f178 f180 hcs157 (own_up _ hps157) (Nat.le_of_ble_eq_true rfl) (own_stakeep S1 K170) hs1) hZ170 (hw _ (List.mem_of_getElem? (i := 64) rfl)) (hw _ (List.mem_of_getElem? (i := 63) rfl)) (by decide) (by decide)) (g := (mkF m 302 #[.val (.int p1), .val (.int p2), .val (.long q3), .second, .val (.ref a4), .val (.int vl), .val (.int ch8), .val (.int ch10), .val (.int ch12), .val (.int ch14), .val (.int ch16), .val (.int ch18), .val (.int vc6), .val (.ref b98), .val (.ref a_SEEDED)] [(.ref b98)])) rfl (by rw [hml]; rfl) (argsL := [(.ref b98)]) (rest := []) (lenOf pd_6 rfl) rfl (by show 2 * 0 + _ ≤ _; exact Nat.le_of_eq rfl) (hb hby at_302) (fun _ _ => ⟨rfl, e189, (by decide : 7 + 1 ≤ _), (by decide : 70 + 2 ≤ _)⟩)
            dsimp only [Pt.U, Pt.locs, Pt.cells, Pt.slots] at X191 l191 y191 z191 st191 hQ191
            subst l191 y191 z191
            obtain ⟨hv191, N191q, K191q⟩ := hQ191
            rw [show own_named (([ch8, ch10, ch12, ch14, ch16] : List Int32).map (nar .char)) a_LISTED a_SEEDED = .ref a_SEEDED from (by unfold own_named; rw [if_neg (fun q => own_no hvq167 hc268_168 q.symm), if_pos (own_yes hvq181 hc286_182).symm])] at hv191
            subst hv191
            have N191 := Fr.app N157 N191q
            have hku191 := Nat.le_trans hk170 K191q.1
            have K191 := (K170).trans K191q all0
            have Zs191 : n0 ≤ T191.heap.size := Nat.le_trans Zs170 K191q.1
            have k191 : Go p e below (s₁.setTop (entryFrame m #[(.int p1), (.int p2), (.long q3)] maxLocals)) (T191.setTop (mkF m 305 #[.val (.int p1), .val (.int p2), .val (.long q3), .second, .val (.ref a4), .val (.int vl), .val (.int ch8), .val (.int ch10), .val (.int ch12), .val (.int ch14), .val (.int ch16), .val (.int ch18), .val (.int vc6), .val (.ref b98), .val (.ref a_SEEDED)] [(.ref a_SEEDED)])) := fun t kk => k190 t (st191 t kk)
            have k192 : Go p e below (s₁.setTop (entryFrame m #[(.int p1), (.int p2), (.long q3)] maxLocals)) (T191.setTop (mkF m 315 #[.val (.int p1), .val (.int p2), .val (.long q3), .second, .val (.ref a4), .val (.int vl), .val (.int ch8), .val (.int ch10), .val (.int ch12), .val (.int ch14), .val (.int ch16), .val (.int ch18), .val (.int vc6), .val (.ref b98), .val (.ref a_SEEDED)] [(.int (1 : Int32))])) := fun t kk => k191 t (by
              show Steps p.tables e below (T191.setTop (mkF m 305 #[.val (.int p1), .val (.int p2), .val (.long q3), .second, .val (.ref a4), .val (.int vl), .val (.int ch8), .val (.int ch10), .val (.int ch12), .val (.int ch14), .val (.int ch16), .val (.int ch18), .val (.int vc6), .val (.ref b98), .val (.ref a_SEEDED)] [(.ref a_SEEDED)])) _
              refine XS.aload X191.here hx rfl (hb hby at_305) rfl rfl ?_
              show Steps p.tables e below (T191.setTop (mkF m 307 #[.val (.int p1), .val (.int p2), .val (.long q3), .second, .val (.ref a4), .val (.int vl), .val (.int ch8), .val (.int ch10), .val (.int ch12), .val (.int ch14), .val (.int ch16), .val (.int ch18), .val (.int vc6), .val (.ref b98), .val (.ref a_SEEDED)] [(.ref a_SEEDED), (.ref a_SEEDED)])) _
              refine Jvm.RoadKit.acmp (g := (mkF m 307 #[.val (.int p1), .val (.int p2), .val (.long q3), .second, .val (.ref a4), .val (.int vl), .val (.int ch8), .val (.int ch10), .val (.int ch12), .val (.int ch14), .val (.int ch16), .val (.int ch18), .val (.int vc6), .val (.ref b98), .val (.ref a_SEEDED)] [(.ref a_SEEDED), (.ref a_SEEDED)])) X191 hx rfl rfl rfl (pc0 := 307) (pc' := 310) (same := true) rfl (hb hby at_307) rfl (decide_eq_true (rfl : (Value.ref a_SEEDED) = (Value.ref a_SEEDED))) (by decide) (by decide) ?_
              show Steps p.tables e below (T191.setTop (mkF m 310 #[.val (.int p1), .val (.int p2), .val (.long q3), .second, .val (.ref a4), .val (.int vl), .val (.int ch8), .val (.int ch10), .val (.int ch12), .val (.int ch14), .val (.int ch16), .val (.int ch18), .val (.int vc6), .val (.ref b98), .val (.ref a_SEEDED)] [])) _
              refine XS.iconst X191.here hx rfl (hb hby at_310) ?_
              show Steps p.tables e below (T191.setTop (mkF m 311 #[.val (.int p1), .val (.int p2), .val (.long q3), .second, .val (.ref a4), .val (.int vl), .val (.int ch8), .val (.int ch10), .val (.int ch12), .val (.int ch14), .val (.int ch16), .val (.int ch18), .val (.int vc6), .val (.ref b98), .val (.ref a_SEEDED)] [(.int (1 : Int32))])) _
              refine XS.goto X191.here hx rfl (pc0 := 311) (pc' := 315) rfl (hb hby at_311) (by decide) (by decide) ?_
              exact kk)
            have Xb194 : Stand p l e room_1 (s.setVm T170.vm) m #[(.int p1), (.int p2), (.long q3)] below meth c T191 _ _ _ := X191
            obtain ⟨fs, hr, hrun, hended, hW⟩ := leaveW Xb194 hS170 hku191 (v := some (.int (1 : Int32))) (fun h => by rw [Bd.returns] at h; cases h)
            refine ⟨_, _, k192 _ ?_, hrun, hended, _, _, rfl, ?_, hW.1, hW.2.1, hW.2.2.1, hW.2.2.2.mono (by decide) (by decide)⟩
            · show Steps p.tables e below (T191.setTop (mkF m 315 #[.val (.int p1), .val (.int p2), .val (.long q3), .second, .val (.ref a4), .val (.int vl), .val (.int ch8), .val (.int ch10), .val (.int ch12), .val (.int ch14), .val (.int ch16), .val (.int ch18), .val (.int vc6), .val (.ref b98), .val (.ref a_SEEDED)] [(.int (1 : Int32))])) _
              exact retN X191 hx (t := .boolean) Bd.returns (by simp) (hb hby at_315) hr
            · show Q0 Z p1 p2 q3 a__VALUES kV a_LISTED a_SEEDED s_LISTED t_LISTED kL s_SEEDED t_SEEDED kS cs fm h0 n0 _ T191.heap _
              exact ⟨rfl, N191⟩
        · have k195 : Go p e below (s₁.setTop (entryFrame m #[(.int p1), (.int p2), (.long q3)] maxLocals)) (T167.setTop (mkF m 271 #[.val (.int p1), .val (.int p2), .val (.long q3), .second, .val (.ref a4), .val (.int vl), .val (.int ch8), .val (.int ch10), .val (.int ch12), .val (.int ch14), .val (.int ch16), .val (.int ch18), .val (.int vc6), .val (.ref b98), .unset] [])) := fun t kk => k167 t (by
            show Steps p.tables e below (T167.setTop (mkF m 268 #[.val (.int p1), .val (.int p2), .val (.long q3), .second, .val (.ref a4), .val (.int vl), .val (.int ch8), .val (.int ch10), .val (.int ch12), .val (.int ch14), .val (.int ch16), .val (.int ch18), .val (.int vc6), .val (.ref b98), .unset] [(.int vq167)])) _
            refine XS.ifNo X167.here hx rfl (hb hby at_268) rfl ((if0 _ _).trans (feq hc268_168).1) ?_
            exact kk)
          obtain ⟨T196, X196, e196, st196⟩ := getS2 X167 hx hZ4 hown4 (host := "") (Or.inl (hw _ (List.mem_of_getElem? (i := 95) rfl))) Via.refl e167 (own_stakeep S_LISTED K157) (g := (mkF m 271 #[.val (.int p1), .val (.int p2), .val (.long q3), .second, .val (.ref a4), .val (.int vl), .val (.int ch8), .val (.int ch10), .val (.int ch12), .val (.int ch14), .val (.int ch16), .val (.int ch18), .val (.int vc6), .val (.ref b98), .unset] [])) rfl (hb hby at_271)
          have k196 : Go p e below (s₁.setTop (entryFrame m #[(.int p1), (.int p2), (.long q3)] maxLocals)) (T196.setTop (mkF m 274 #[.val (.int p1), .val (.int p2), .val (.long q3), .second, .val (.ref a4), .val (.int vl), .val (.int ch8), .val (.int ch10), .val (.int ch12), .val (.int ch14), .val (.int ch16), .val (.int ch18), .val (.int vc6), .val (.ref b98), .unset] [(.ref a_LISTED)])) := fun t kk => k195 t (st196 t kk)
          have k197 : Go p e below (s₁.setTop (entryFrame m #[(.int p1), (.int p2), (.long q3)] maxLocals)) (T196.setTop (mkF m 302 #[.val (.int p1), .val (.int p2), .val (.long q3), .second, .val (.ref a4), .val (.int vl), .val (.int ch8), .val (.int ch10), .val (.int ch12), .val (.int ch14), .val (.int ch16), .val (.int ch18), .val (.int vc6), .val (.ref b98), .val (.ref a_LISTED)] [(.ref b98)])) := fun t kk => k196 t (by
            show Steps p.tables e below (T196.setTop (mkF m 274 #[.val (.int p1), .val (.int p2), .val (.long q3), .second, .val (.ref a4), .val (.int vl), .val (.int ch8), .val (.int ch10), .val (.int ch12), .val (.int ch14), .val (.int ch16), .val (.int ch18), .val (.int vc6), .val (.ref b98), .unset] [(.ref a_LISTED)])) _
            refine XS.astore X196.here hx rfl (hb hby at_274) rfl rfl (l' := #[.val (.int p1), .val (.int p2), .val (.long q3), .second, .val (.ref a4), .val (.int vl), .val (.int ch8), .val (.int ch10), .val (.int ch12), .val (.int ch14), .val (.int ch16), .val (.int ch18), .val (.int vc6), .val (.ref b98), .val (.ref a_LISTED)]) rfl ?_
            show Steps p.tables e below (T196.setTop (mkF m 276 #[.val (.int p1), .val (.int p2), .val (.long q3), .second, .val (.ref a4), .val (.int vl), .val (.int ch8), .val (.int ch10), .val (.int ch12), .val (.int ch14), .val (.int ch16), .val (.int ch18), .val (.int vc6), .val (.ref b98), .val (.ref a_LISTED)] [])) _
            refine XS.goto X196.here hx rfl (pc0 := 276) (pc' := 300) rfl (hb hby at_276) (by decide) (by decide) ?_
            show Steps p.tables e below (T196.setTop (mkF m 300 #[.val (.int p1), .val (.int p2), .val (.long q3), .second, .val (.ref a4), .val (.int vl), .val (.int ch8), .val (.int ch10), .val (.int ch12), .val (.int ch14), .val (.int ch16), .val (.int ch18), .val (.int vc6), .val (.ref b98), .val (.ref a_LISTED)] [])) _
            refine XS.aload X196.here hx rfl (hb hby at_300) rfl rfl ?_
            exact kk)
          obtain ⟨_, _, ⟨T198, L198, kx198, nx198⟩, -, X198, ⟨Lc198, hQ198, l198, y198, z198⟩, st198⟩ := Jvm.LawKit.callS X196 hx (y := (⟨"com/example/tabularium/tabularium/record/Deal", "named", "(Ljava/lang/String;)Lcom/example/tabularium/tabularium/record/Deal;"⟩ : MethodName)) hown4 (mvT hZ4 (hw _ (List.mem_of_getElem? (i := 61) rfl))) (mvT hZ4 (hw _ (List.mem_of_getElem? (i := 62) rfl))) (mvT hZ4 (hw _ (List.mem_of_getElem? (i := 63) rfl))) (mvT hZ4 (hw _ (List.mem_of_getElem? (i := 64) rfl))) (by decide) (backOf (W := 0) (rmD l Z a0 hw [] b98 a__VALUES kV a_LISTED a_SEEDED s_LISTED t_LISTED kL s_SEEDED t_SEEDED kS (([ch8, ch10, ch12, ch14, ch16] : List Int32).map (nar .char)) t157 kb157 (5 : Int32) _ cs T157.heap n0 Zs157 (own_stakeep SV K157) (PAV.keep K157 nin0) (PEV.keep K157) (f_LISTED.keep K157 nin0) (es_LISTED.keep K157) (cs_LISTED.keep K157 nin0) (vs_LISTED.keep K157 nin0) (as_LISTED.keep K157 nin0) (f_SEEDED.keep K157 nin0) (es_SEEDED.keep K157) (cs_SEEDED.keep K157 nin0) (vs_SEEDED.keep K157 nin0) (as_SEEDED.keep K157 nin0) x157_e x157_v x157_c x157_a hcs157 (own_up _ hps157) (Nat.le_of_ble_eq_true rfl) (own_stakeep S1 K157) hs1) hZ4 (hw _ (List.mem_of_getElem? (i := 64) rfl)) (hw _ (List.mem_of_getElem? (i := 63) rfl)) (by decide) (by decide)) (g := (mkF m 302 #[.val (.int p1), .val (.int p2), .val (.long q3), .second, .val (.ref a4), .val (.int vl), .val (.int ch8), .val (.int ch10), .val (.int ch12), .val (.int ch14), .val (.int ch16), .val (.int ch18), .val (.int vc6), .val (.ref b98), .val (.ref a_LISTED)] [(.ref b98)])) rfl (by rw [hml]; rfl) (argsL := [(.ref b98)]) (rest := []) (lenOf pd_6 rfl) rfl (by show 2 * 0 + _ ≤ _; exact Nat.le_of_eq rfl) (hb hby at_302) (fun _ _ => ⟨rfl, e196, (by decide : 5 + 1 ≤ _), (by decide : 42 + 2 ≤ _)⟩)
          dsimp only [Pt.U, Pt.locs, Pt.cells, Pt.slots] at X198 l198 y198 z198 st198 hQ198
          subst l198 y198 z198
          obtain ⟨hv198, N198q, K198q⟩ := hQ198
          rw [show own_named (([ch8, ch10, ch12, ch14, ch16] : List Int32).map (nar .char)) a_LISTED a_SEEDED = .ref a_LISTED from (by unfold own_named; rw [if_pos (own_yes hvq167 hc268_168).symm])] at hv198
          subst hv198
          have N198 := Fr.app N157 N198q
          have hku198 := Nat.le_trans hku157 K198q.1
          have K198 := (K157).trans K198q all0
          have Zs198 : n0 ≤ T198.heap.size := Nat.le_trans Zs157 K198q.1
          have k198 : Go p e below (s₁.setTop (entryFrame m #[(.int p1), (.int p2), (.long q3)] maxLocals)) (T198.setTop (mkF m 305 #[.val (.int p1), .val (.int p2), .val (.long q3), .second, .val (.ref a4), .val (.int vl), .val (.int ch8), .val (.int ch10), .val (.int ch12), .val (.int ch14), .val (.int ch16), .val (.int ch18), .val (.int vc6), .val (.ref b98), .val (.ref a_LISTED)] [(.ref a_LISTED)])) := fun t kk => k197 t (st198 t kk)
          have k199 : Go p e below (s₁.setTop (entryFrame m #[(.int p1), (.int p2), (.long q3)] maxLocals)) (T198.setTop (mkF m 315 #[.val (.int p1), .val (.int p2), .val (.long q3), .second, .val (.ref a4), .val (.int vl), .val (.int ch8), .val (.int ch10), .val (.int ch12), .val (.int ch14), .val (.int ch16), .val (.int ch18), .val (.int vc6), .val (.ref b98), .val (.ref a_LISTED)] [(.int (1 : Int32))])) := fun t kk => k198 t (by
            show Steps p.tables e below (T198.setTop (mkF m 305 #[.val (.int p1), .val (.int p2), .val (.long q3), .second, .val (.ref a4), .val (.int vl), .val (.int ch8), .val (.int ch10), .val (.int ch12), .val (.int ch14), .val (.int ch16), .val (.int ch18), .val (.int vc6), .val (.ref b98), .val (.ref a_LISTED)] [(.ref a_LISTED)])) _
            refine XS.aload X198.here hx rfl (hb hby at_305) rfl rfl ?_
            show Steps p.tables e below (T198.setTop (mkF m 307 #[.val (.int p1), .val (.int p2), .val (.long q3), .second, .val (.ref a4), .val (.int vl), .val (.int ch8), .val (.int ch10), .val (.int ch12), .val (.int ch14), .val (.int ch16), .val (.int ch18), .val (.int vc6), .val (.ref b98), .val (.ref a_LISTED)] [(.ref a_LISTED), (.ref a_LISTED)])) _
            refine Jvm.RoadKit.acmp (g := (mkF m 307 #[.val (.int p1), .val (.int p2), .val (.long q3), .second, .val (.ref a4), .val (.int vl), .val (.int ch8), .val (.int ch10), .val (.int ch12), .val (.int ch14), .val (.int ch16), .val (.int ch18), .val (.int vc6), .val (.ref b98), .val (.ref a_LISTED)] [(.ref a_LISTED), (.ref a_LISTED)])) X198 hx rfl rfl rfl (pc0 := 307) (pc' := 310) (same := true) rfl (hb hby at_307) rfl (decide_eq_true (rfl : (Value.ref a_LISTED) = (Value.ref a_LISTED))) (by decide) (by decide) ?_
            show Steps p.tables e below (T198.setTop (mkF m 310 #[.val (.int p1), .val (.int p2), .val (.long q3), .second, .val (.ref a4), .val (.int vl), .val (.int ch8), .val (.int ch10), .val (.int ch12), .val (.int ch14), .val (.int ch16), .val (.int ch18), .val (.int vc6), .val (.ref b98), .val (.ref a_LISTED)] [])) _
            refine XS.iconst X198.here hx rfl (hb hby at_310) ?_
            show Steps p.tables e below (T198.setTop (mkF m 311 #[.val (.int p1), .val (.int p2), .val (.long q3), .second, .val (.ref a4), .val (.int vl), .val (.int ch8), .val (.int ch10), .val (.int ch12), .val (.int ch14), .val (.int ch16), .val (.int ch18), .val (.int vc6), .val (.ref b98), .val (.ref a_LISTED)] [(.int (1 : Int32))])) _
            refine XS.goto X198.here hx rfl (pc0 := 311) (pc' := 315) rfl (hb hby at_311) (by decide) (by decide) ?_
            exact kk)
          have Xb201 : Stand p l e room_1 (s.setVm T4.vm) m #[(.int p1), (.int p2), (.long q3)] below meth c T198 _ _ _ := X198
          obtain ⟨fs, hr, hrun, hended, hW⟩ := leaveW Xb201 hS4 hku198 (v := some (.int (1 : Int32))) (fun h => by rw [Bd.returns] at h; cases h)
          refine ⟨_, _, k199 _ ?_, hrun, hended, _, _, rfl, ?_, hW.1, hW.2.1, hW.2.2.1, hW.2.2.2.mono (by decide) (by decide)⟩
          · show Steps p.tables e below (T198.setTop (mkF m 315 #[.val (.int p1), .val (.int p2), .val (.long q3), .second, .val (.ref a4), .val (.int vl), .val (.int ch8), .val (.int ch10), .val (.int ch12), .val (.int ch14), .val (.int ch16), .val (.int ch18), .val (.int vc6), .val (.ref b98), .val (.ref a_LISTED)] [(.int (1 : Int32))])) _
            exact retN X198 hx (t := .boolean) Bd.returns (by simp) (hb hby at_315) hr
          · show Q0 Z p1 p2 q3 a__VALUES kV a_LISTED a_SEEDED s_LISTED t_LISTED kL s_SEEDED t_SEEDED kS cs fm h0 n0 _ T198.heap _
            exact ⟨rfl, N198⟩
      · have k202 : Go p e below (s₁.setTop (entryFrame m #[(.int p1), (.int p2), (.long q3)] maxLocals)) (T18.setTop (mkF m 163 #[.val (.int p1), .val (.int p2), .val (.long q3), .second, .val (.ref a4), .val (.int vl), .val (.int ch8), .val (.int ch10), .val (.int ch12), .val (.int ch14), .val (.int ch16), .val (.int ch18), .val (.int vc6), .unset, .unset] [(.int (2 : Int32)), (.int vl)])) := fun t kk => k95 t (by
          show Steps p.tables e below (T18.setTop (mkF m 117 #[.val (.int p1), .val (.int p2), .val (.long q3), .second, .val (.ref a4), .val (.int vl), .val (.int ch8), .val (.int ch10), .val (.int ch12), .val (.int ch14), .val (.int ch16), .val (.int ch18), .val (.int vc6), .unset, .unset] [(.int (1 : Int32)), (.int vl)])) _
          refine XS.icmpYes X18.here hx rfl (pc0 := 117) (pc' := 160) rfl (hb hby at_117) rfl (feq hc117_96).2 (by decide) (by decide) ?_
          show Steps p.tables e below (T18.setTop (mkF m 160 #[.val (.int p1), .val (.int p2), .val (.long q3), .second, .val (.ref a4), .val (.int vl), .val (.int ch8), .val (.int ch10), .val (.int ch12), .val (.int ch14), .val (.int ch16), .val (.int ch18), .val (.int vc6), .unset, .unset] [])) _
          refine XS.iload X18.here hx rfl (hb hby at_160) rfl ?_
          show Steps p.tables e below (T18.setTop (mkF m 162 #[.val (.int p1), .val (.int p2), .val (.long q3), .second, .val (.ref a4), .val (.int vl), .val (.int ch8), .val (.int ch10), .val (.int ch12), .val (.int ch14), .val (.int ch16), .val (.int ch18), .val (.int vc6), .unset, .unset] [(.int vl)])) _
          refine XS.iconst X18.here hx rfl (hb hby at_162) ?_
          exact kk)
        by_cases hc163_203 : vl = (2 : Int32)
        · have k204 : Go p e below (s₁.setTop (entryFrame m #[(.int p1), (.int p2), (.long q3)] maxLocals)) (T18.setTop (mkF m 166 #[.val (.int p1), .val (.int p2), .val (.long q3), .second, .val (.ref a4), .val (.int vl), .val (.int ch8), .val (.int ch10), .val (.int ch12), .val (.int ch14), .val (.int ch16), .val (.int ch18), .val (.int vc6), .unset, .unset] [])) := fun t kk => k202 t (by
            show Steps p.tables e below (T18.setTop (mkF m 163 #[.val (.int p1), .val (.int p2), .val (.long q3), .second, .val (.ref a4), .val (.int vl), .val (.int ch8), .val (.int ch10), .val (.int ch12), .val (.int ch14), .val (.int ch16), .val (.int ch18), .val (.int vc6), .unset, .unset] [(.int (2 : Int32)), (.int vl)])) _
            refine XS.icmpNo X18.here hx rfl (hb hby at_163) rfl (teq hc163_203).2 ?_
            exact kk)
          obtain ⟨T205, h205, X205, e205, E205, A205, D205, -, st205⟩ := newO X18 hx hZ4 hown4 (hw _ (List.mem_of_getElem? (i := 38) rfl)) (hw _ (List.mem_of_getElem? (i := 2) rfl)) (hw _ (List.mem_of_getElem? (i := 1) rfl)) e18 (g := (mkF m 166 #[.val (.int p1), .val (.int p2), .val (.long q3), .second, .val (.ref a4), .val (.int vl), .val (.int ch8), .val (.int ch10), .val (.int ch12), .val (.int ch14), .val (.int ch16), .val (.int ch18), .val (.int vc6), .unset, .unset] [])) rfl (hb hby at_166) (by decide) (by decide)
          obtain ⟨b205, g205⟩ : ∃ z, z = (h4).size := ⟨_, rfl⟩
          rw [← g205] at A205 D205 st205
          have ne_a4_b205 : a4 ≠ b205 := Nat.ne_of_lt (Nat.lt_of_lt_of_le xe4.lt (Nat.le_of_eq g205.symm))
          have ne_b4_b205 : b4 ≠ b205 := Nat.ne_of_lt (Nat.lt_of_lt_of_le V4.lt (Nat.le_of_eq g205.symm))
          have sz_b205 : h0.size ≤ b205 := Nat.le_trans K4.1 (Nat.le_of_eq g205.symm)
          have ge_b205 : n0 ≤ b205 := Nat.le_trans Zs4 (Nat.le_of_eq g205.symm)
          have f206 := xe4.ext E205
          have f207 := xc4.ext E205
          have f208 := xv4.ext E205
          have f209 := V4.ext E205
          have sf205_b205 := Safe.ext E205 C4.1 (Safe.new (x := b205) (Nat.le_of_eq g205.symm))
          have C205 := C4.trans (CHr.ext E205 C4.1)
          have hku205 := Nat.le_trans hk4 E205.1
          have K205 := (K4).ext E205
          have Zs205 : n0 ≤ h205.size := Nat.le_trans Zs4 E205.1
          have F205_value : Fld Z h205 b205 "java/lang/String" "value" "[B" .null := D205 (Or.inr (hw _ (List.mem_of_getElem? (i := 4) rfl))) (ty := (.array .byte)) (by decide)
          have F205_coder : Fld Z h205 b205 "java/lang/String" "coder" "B" (.int (0 : Int32)) := D205 (Or.inr (hw _ (List.mem_of_getElem? (i := 5) rfl))) (ty := .byte) (by decide)
          have k205 : Go p e below (s₁.setTop (entryFrame m #[(.int p1), (.int p2), (.long q3)] maxLocals)) (T205.setTop (mkF m 169 #[.val (.int p1), .val (.int p2), .val (.long q3), .second, .val (.ref a4), .val (.int vl), .val (.int ch8), .val (.int ch10), .val (.int ch12), .val (.int ch14), .val (.int ch16), .val (.int ch18), .val (.int vc6), .unset, .unset] [(.ref b205)])) := fun t kk => k204 t (st205 t kk)
          have k210 : Go p e below (s₁.setTop (entryFrame m #[(.int p1), (.int p2), (.long q3)] maxLocals)) (T205.setTop (mkF m 172 #[.val (.int p1), .val (.int p2), .val (.long q3), .second, .val (.ref a4), .val (.int vl), .val (.int ch8), .val (.int ch10), .val (.int ch12), .val (.int ch14), .val (.int ch16), .val (.int ch18), .val (.int vc6), .unset, .unset] [(.int (6 : Int32)), (.ref b205), (.ref b205)])) := fun t kk => k205 t (by
            show Steps p.tables e below (T205.setTop (mkF m 169 #[.val (.int p1), .val (.int p2), .val (.long q3), .second, .val (.ref a4), .val (.int vl), .val (.int ch8), .val (.int ch10), .val (.int ch12), .val (.int ch14), .val (.int ch16), .val (.int ch18), .val (.int vc6), .unset, .unset] [(.ref b205)])) _
            refine XS.dup X205.here hx rfl (hb hby at_169) rfl rfl ?_
            show Steps p.tables e below (T205.setTop (mkF m 170 #[.val (.int p1), .val (.int p2), .val (.long q3), .second, .val (.ref a4), .val (.int vl), .val (.int ch8), .val (.int ch10), .val (.int ch12), .val (.int ch14), .val (.int ch16), .val (.int ch18), .val (.int vc6), .unset, .unset] [(.ref b205), (.ref b205)])) _
            refine XS.bipush X205.here hx rfl (hb hby at_170) ?_
            exact kk)
          obtain ⟨T211, h211, kc211, X211, e211, E211, A211, st211⟩ := newP X205 hx hZ4 (hw _ (List.mem_of_getElem? (i := 39) rfl)) e205 (g := (mkF m 172 #[.val (.int p1), .val (.int p2), .val (.long q3), .second, .val (.ref a4), .val (.int vl), .val (.int ch8), .val (.int ch10), .val (.int ch12), .val (.int ch14), .val (.int ch16), .val (.int ch18), .val (.int vc6), .unset, .unset] [(.int (6 : Int32)), (.ref b205), (.ref b205)])) rfl (hb hby at_172) rfl (by decide) (cap := 6) (by decide) (by decide) (by decide) (by decide)
          obtain ⟨b211, g211⟩ : ∃ z, z = (h205).size := ⟨_, rfl⟩
          rw [← g211] at A211 st211
          have ne_a4_b211 : a4 ≠ b211 := Nat.ne_of_lt (Nat.lt_of_lt_of_le f206.lt (Nat.le_of_eq g211.symm))
          have ne_b205_b211 : b205 ≠ b211 := Nat.ne_of_lt (Nat.lt_of_lt_of_le F205_value.lt (Nat.le_of_eq g211.symm))
          have ne_b4_b211 : b4 ≠ b211 := Nat.ne_of_lt (Nat.lt_of_lt_of_le f209.lt (Nat.le_of_eq g211.symm))
          have sz_b211 : h0.size ≤ b211 := Nat.le_trans K205.1 (Nat.le_of_eq g211.symm)
          have ge_b211 : n0 ≤ b211 := Nat.le_trans Zs205 (Nat.le_of_eq g211.symm)
          have f212 := f206.ext E211
          have f213 := f207.ext E211
          have f214 := f208.ext E211
          have f215 := f209.ext E211
          have f216 := F205_value.ext E211
          have f217 := F205_coder.ext E211
          have f218 := A205.ext E211
          have sf211_b205 := Safe.ext E211 C205.1 sf205_b205
          have sf211_b211 := Safe.ext E211 C205.1 (Safe.new (x := b211) (Nat.le_of_eq g211.symm))
          have C211 := C205.trans (CHr.ext E211 C205.1)
          have hku211 := Nat.le_trans hku205 E211.1
          have K211 := (K205).ext E211
          have Zs211 : n0 ≤ h211.size := Nat.le_trans Zs205 E211.1
          have V211 : Arv Z h211 b211 kc211 .char (6 : Int32) [(.int (0 : Int32)), (.int (0 : Int32)), (.int (0 : Int32)), (.int (0 : Int32)), (.int (0 : Int32)), (.int (0 : Int32))] (.int (0 : Int32)) := (Arv.new A211 (by decide)).pad (pad_rep [] (.int (0 : Int32)) 6)
          have k211 : Go p e below (s₁.setTop (entryFrame m #[(.int p1), (.int p2), (.long q3)] maxLocals)) (T211.setTop (mkF m 174 #[.val (.int p1), .val (.int p2), .val (.long q3), .second, .val (.ref a4), .val (.int vl), .val (.int ch8), .val (.int ch10), .val (.int ch12), .val (.int ch14), .val (.int ch16), .val (.int ch18), .val (.int vc6), .unset, .unset] [(.ref b211), (.ref b205), (.ref b205)])) := fun t kk => k210 t (st211 t kk)
          have k219 : Go p e below (s₁.setTop (entryFrame m #[(.int p1), (.int p2), (.long q3)] maxLocals)) (T211.setTop (mkF m 178 #[.val (.int p1), .val (.int p2), .val (.long q3), .second, .val (.ref a4), .val (.int vl), .val (.int ch8), .val (.int ch10), .val (.int ch12), .val (.int ch14), .val (.int ch16), .val (.int ch18), .val (.int vc6), .unset, .unset] [(.int ch8), (.int (0 : Int32)), (.ref b211), (.ref b211), (.ref b205), (.ref b205)])) := fun t kk => k211 t (by
            show Steps p.tables e below (T211.setTop (mkF m 174 #[.val (.int p1), .val (.int p2), .val (.long q3), .second, .val (.ref a4), .val (.int vl), .val (.int ch8), .val (.int ch10), .val (.int ch12), .val (.int ch14), .val (.int ch16), .val (.int ch18), .val (.int vc6), .unset, .unset] [(.ref b211), (.ref b205), (.ref b205)])) _
            refine XS.dup X211.here hx rfl (hb hby at_174) rfl rfl ?_
            show Steps p.tables e below (T211.setTop (mkF m 175 #[.val (.int p1), .val (.int p2), .val (.long q3), .second, .val (.ref a4), .val (.int vl), .val (.int ch8), .val (.int ch10), .val (.int ch12), .val (.int ch14), .val (.int ch16), .val (.int ch18), .val (.int vc6), .unset, .unset] [(.ref b211), (.ref b211), (.ref b205), (.ref b205)])) _
            refine XS.iconst X211.here hx rfl (hb hby at_175) ?_
            show Steps p.tables e below (T211.setTop (mkF m 176 #[.val (.int p1), .val (.int p2), .val (.long q3), .second, .val (.ref a4), .val (.int vl), .val (.int ch8), .val (.int ch10), .val (.int ch12), .val (.int ch14), .val (.int ch16), .val (.int ch18), .val (.int vc6), .unset, .unset] [(.int (0 : Int32)), (.ref b211), (.ref b211), (.ref b205), (.ref b205)])) _
            refine XS.iload X211.here hx rfl (hb hby at_176) rfl ?_
            exact kk)
          obtain ⟨cl220, Ar220, q220, S220, G220, H220, J220⟩ := V211
          have hin220 : ¬ ((0 : Int32) < 0 ∨ cl220.slots.size ≤ ((0 : Int32)).toNatClampNeg) := inb_of S220 ⟨by decide, by decide⟩
          obtain ⟨T220, h220, X220, e220, W220, st220⟩ := stC X211 hx hZ4 e211 Ar220 (j := (0 : Int32)) hin220 (g := (mkF m 178 #[.val (.int p1), .val (.int p2), .val (.long q3), .second, .val (.ref a4), .val (.int vl), .val (.int ch8), .val (.int ch10), .val (.int ch12), .val (.int ch14), .val (.int ch16), .val (.int ch18), .val (.int vc6), .unset, .unset] [(.int ch8), (.int (0 : Int32)), (.ref b211), (.ref b211), (.ref b205), (.ref b205)])) rfl rfl (hb hby at_178)
          have V220 := Arv.set Ar220 q220 S220 G220 H220 J220 (fits_nar_char _) W220 0 rfl (Nat.le_of_ble_eq_true rfl)
          have N220 := Fr.snoc X220 N0 ge_b211
          have hku220 := Nat.le_trans hku211 (Keep.of_wr W220).1
          have sf220_b205 := Safe.wr W220 sf211_b211 C211.1 sf211_b205
          have sf220_b211 := Safe.wr W220 sf211_b211 C211.1 sf211_b211
          have C220 := C211.trans (CHr.wr W220 sf211_b211 C211.1)
          have f221 := f212.wr W220
          have f222 := f213.other W220 (Or.inl ne_a4_b211)
          have f223 := f214.other W220 (Or.inl ne_a4_b211)
          have f224 := f215.other W220 ne_b4_b211
          have f225 := f216.other W220 (Or.inl ne_b205_b211)
          have f226 := f217.other W220 (Or.inl ne_b205_b211)
          have f227 := f218.wr W220
          have K220 := (K211).wr W220 (Or.inr sz_b211)
          have Zs220 : n0 ≤ h220.size := Nat.le_trans Zs211 (Keep.of_wr W220).1
          have k220 : Go p e below (s₁.setTop (entryFrame m #[(.int p1), (.int p2), (.long q3)] maxLocals)) (T220.setTop (mkF m 179 #[.val (.int p1), .val (.int p2), .val (.long q3), .second, .val (.ref a4), .val (.int vl), .val (.int ch8), .val (.int ch10), .val (.int ch12), .val (.int ch14), .val (.int ch16), .val (.int ch18), .val (.int vc6), .unset, .unset] [(.ref b211), (.ref b205), (.ref b205)])) := fun t kk => k219 t (st220 t kk)
          have k228 : Go p e below (s₁.setTop (entryFrame m #[(.int p1), (.int p2), (.long q3)] maxLocals)) (T220.setTop (mkF m 183 #[.val (.int p1), .val (.int p2), .val (.long q3), .second, .val (.ref a4), .val (.int vl), .val (.int ch8), .val (.int ch10), .val (.int ch12), .val (.int ch14), .val (.int ch16), .val (.int ch18), .val (.int vc6), .unset, .unset] [(.int ch10), (.int (1 : Int32)), (.ref b211), (.ref b211), (.ref b205), (.ref b205)])) := fun t kk => k220 t (by
            show Steps p.tables e below (T220.setTop (mkF m 179 #[.val (.int p1), .val (.int p2), .val (.long q3), .second, .val (.ref a4), .val (.int vl), .val (.int ch8), .val (.int ch10), .val (.int ch12), .val (.int ch14), .val (.int ch16), .val (.int ch18), .val (.int vc6), .unset, .unset] [(.ref b211), (.ref b205), (.ref b205)])) _
            refine XS.dup X220.here hx rfl (hb hby at_179) rfl rfl ?_
            show Steps p.tables e below (T220.setTop (mkF m 180 #[.val (.int p1), .val (.int p2), .val (.long q3), .second, .val (.ref a4), .val (.int vl), .val (.int ch8), .val (.int ch10), .val (.int ch12), .val (.int ch14), .val (.int ch16), .val (.int ch18), .val (.int vc6), .unset, .unset] [(.ref b211), (.ref b211), (.ref b205), (.ref b205)])) _
            refine XS.iconst X220.here hx rfl (hb hby at_180) ?_
            show Steps p.tables e below (T220.setTop (mkF m 181 #[.val (.int p1), .val (.int p2), .val (.long q3), .second, .val (.ref a4), .val (.int vl), .val (.int ch8), .val (.int ch10), .val (.int ch12), .val (.int ch14), .val (.int ch16), .val (.int ch18), .val (.int vc6), .unset, .unset] [(.int (1 : Int32)), (.ref b211), (.ref b211), (.ref b205), (.ref b205)])) _
            refine XS.iload X220.here hx rfl (hb hby at_181) rfl ?_
            exact kk)
          obtain ⟨cl229, Ar229, q229, S229, G229, H229, J229⟩ := V220
          have hin229 : ¬ ((1 : Int32) < 0 ∨ cl229.slots.size ≤ ((1 : Int32)).toNatClampNeg) := inb_of S229 ⟨by decide, by decide⟩
          obtain ⟨T229, h229, X229, e229, W229, st229⟩ := stC X220 hx hZ4 e220 Ar229 (j := (1 : Int32)) hin229 (g := (mkF m 183 #[.val (.int p1), .val (.int p2), .val (.long q3), .second, .val (.ref a4), .val (.int vl), .val (.int ch8), .val (.int ch10), .val (.int ch12), .val (.int ch14), .val (.int ch16), .val (.int ch18), .val (.int vc6), .unset, .unset] [(.int ch10), (.int (1 : Int32)), (.ref b211), (.ref b211), (.ref b205), (.ref b205)])) rfl rfl (hb hby at_183)
          have V229 := Arv.set Ar229 q229 S229 G229 H229 J229 (fits_nar_char _) W229 1 rfl (Nat.le_of_ble_eq_true rfl)
          have N229 := Fr.snoc X229 N220 ge_b211
          have hku229 := Nat.le_trans hku220 (Keep.of_wr W229).1
          have sf229_b205 := Safe.wr W229 sf220_b211 C220.1 sf220_b205
          have sf229_b211 := Safe.wr W229 sf220_b211 C220.1 sf220_b211
          have C229 := C220.trans (CHr.wr W229 sf220_b211 C220.1)
          have f230 := f221.wr W229
          have f231 := f222.other W229 (Or.inl ne_a4_b211)
          have f232 := f223.other W229 (Or.inl ne_a4_b211)
          have f233 := f224.other W229 ne_b4_b211
          have f234 := f225.other W229 (Or.inl ne_b205_b211)
          have f235 := f226.other W229 (Or.inl ne_b205_b211)
          have f236 := f227.wr W229
          have K229 := (K220).wr W229 (Or.inr sz_b211)
          have Zs229 : n0 ≤ h229.size := Nat.le_trans Zs220 (Keep.of_wr W229).1
          have k229 : Go p e below (s₁.setTop (entryFrame m #[(.int p1), (.int p2), (.long q3)] maxLocals)) (T229.setTop (mkF m 184 #[.val (.int p1), .val (.int p2), .val (.long q3), .second, .val (.ref a4), .val (.int vl), .val (.int ch8), .val (.int ch10), .val (.int ch12), .val (.int ch14), .val (.int ch16), .val (.int ch18), .val (.int vc6), .unset, .unset] [(.ref b211), (.ref b205), (.ref b205)])) := fun t kk => k228 t (st229 t kk)
          have k237 : Go p e below (s₁.setTop (entryFrame m #[(.int p1), (.int p2), (.long q3)] maxLocals)) (T229.setTop (mkF m 188 #[.val (.int p1), .val (.int p2), .val (.long q3), .second, .val (.ref a4), .val (.int vl), .val (.int ch8), .val (.int ch10), .val (.int ch12), .val (.int ch14), .val (.int ch16), .val (.int ch18), .val (.int vc6), .unset, .unset] [(.int ch12), (.int (2 : Int32)), (.ref b211), (.ref b211), (.ref b205), (.ref b205)])) := fun t kk => k229 t (by
            show Steps p.tables e below (T229.setTop (mkF m 184 #[.val (.int p1), .val (.int p2), .val (.long q3), .second, .val (.ref a4), .val (.int vl), .val (.int ch8), .val (.int ch10), .val (.int ch12), .val (.int ch14), .val (.int ch16), .val (.int ch18), .val (.int vc6), .unset, .unset] [(.ref b211), (.ref b205), (.ref b205)])) _
            refine XS.dup X229.here hx rfl (hb hby at_184) rfl rfl ?_
            show Steps p.tables e below (T229.setTop (mkF m 185 #[.val (.int p1), .val (.int p2), .val (.long q3), .second, .val (.ref a4), .val (.int vl), .val (.int ch8), .val (.int ch10), .val (.int ch12), .val (.int ch14), .val (.int ch16), .val (.int ch18), .val (.int vc6), .unset, .unset] [(.ref b211), (.ref b211), (.ref b205), (.ref b205)])) _
            refine XS.iconst X229.here hx rfl (hb hby at_185) ?_
            show Steps p.tables e below (T229.setTop (mkF m 186 #[.val (.int p1), .val (.int p2), .val (.long q3), .second, .val (.ref a4), .val (.int vl), .val (.int ch8), .val (.int ch10), .val (.int ch12), .val (.int ch14), .val (.int ch16), .val (.int ch18), .val (.int vc6), .unset, .unset] [(.int (2 : Int32)), (.ref b211), (.ref b211), (.ref b205), (.ref b205)])) _
            refine XS.iload X229.here hx rfl (hb hby at_186) rfl ?_
            exact kk)
          obtain ⟨cl238, Ar238, q238, S238, G238, H238, J238⟩ := V229
          have hin238 : ¬ ((2 : Int32) < 0 ∨ cl238.slots.size ≤ ((2 : Int32)).toNatClampNeg) := inb_of S238 ⟨by decide, by decide⟩
          obtain ⟨T238, h238, X238, e238, W238, st238⟩ := stC X229 hx hZ4 e229 Ar238 (j := (2 : Int32)) hin238 (g := (mkF m 188 #[.val (.int p1), .val (.int p2), .val (.long q3), .second, .val (.ref a4), .val (.int vl), .val (.int ch8), .val (.int ch10), .val (.int ch12), .val (.int ch14), .val (.int ch16), .val (.int ch18), .val (.int vc6), .unset, .unset] [(.int ch12), (.int (2 : Int32)), (.ref b211), (.ref b211), (.ref b205), (.ref b205)])) rfl rfl (hb hby at_188)
          have V238 := Arv.set Ar238 q238 S238 G238 H238 J238 (fits_nar_char _) W238 2 rfl (Nat.le_of_ble_eq_true rfl)
          have N238 := Fr.snoc X238 N229 ge_b211
          have hku238 := Nat.le_trans hku229 (Keep.of_wr W238).1
          have sf238_b205 := Safe.wr W238 sf229_b211 C229.1 sf229_b205
          have sf238_b211 := Safe.wr W238 sf229_b211 C229.1 sf229_b211
          have C238 := C229.trans (CHr.wr W238 sf229_b211 C229.1)
          have f239 := f230.wr W238
          have f240 := f231.other W238 (Or.inl ne_a4_b211)
          have f241 := f232.other W238 (Or.inl ne_a4_b211)
          have f242 := f233.other W238 ne_b4_b211
          have f243 := f234.other W238 (Or.inl ne_b205_b211)
          have f244 := f235.other W238 (Or.inl ne_b205_b211)
          have f245 := f236.wr W238
          have K238 := (K229).wr W238 (Or.inr sz_b211)
          have Zs238 : n0 ≤ h238.size := Nat.le_trans Zs229 (Keep.of_wr W238).1
          have k238 : Go p e below (s₁.setTop (entryFrame m #[(.int p1), (.int p2), (.long q3)] maxLocals)) (T238.setTop (mkF m 189 #[.val (.int p1), .val (.int p2), .val (.long q3), .second, .val (.ref a4), .val (.int vl), .val (.int ch8), .val (.int ch10), .val (.int ch12), .val (.int ch14), .val (.int ch16), .val (.int ch18), .val (.int vc6), .unset, .unset] [(.ref b211), (.ref b205), (.ref b205)])) := fun t kk => k237 t (st238 t kk)
          have k246 : Go p e below (s₁.setTop (entryFrame m #[(.int p1), (.int p2), (.long q3)] maxLocals)) (T238.setTop (mkF m 193 #[.val (.int p1), .val (.int p2), .val (.long q3), .second, .val (.ref a4), .val (.int vl), .val (.int ch8), .val (.int ch10), .val (.int ch12), .val (.int ch14), .val (.int ch16), .val (.int ch18), .val (.int vc6), .unset, .unset] [(.int ch14), (.int (3 : Int32)), (.ref b211), (.ref b211), (.ref b205), (.ref b205)])) := fun t kk => k238 t (by
            show Steps p.tables e below (T238.setTop (mkF m 189 #[.val (.int p1), .val (.int p2), .val (.long q3), .second, .val (.ref a4), .val (.int vl), .val (.int ch8), .val (.int ch10), .val (.int ch12), .val (.int ch14), .val (.int ch16), .val (.int ch18), .val (.int vc6), .unset, .unset] [(.ref b211), (.ref b205), (.ref b205)])) _
            refine XS.dup X238.here hx rfl (hb hby at_189) rfl rfl ?_
            show Steps p.tables e below (T238.setTop (mkF m 190 #[.val (.int p1), .val (.int p2), .val (.long q3), .second, .val (.ref a4), .val (.int vl), .val (.int ch8), .val (.int ch10), .val (.int ch12), .val (.int ch14), .val (.int ch16), .val (.int ch18), .val (.int vc6), .unset, .unset] [(.ref b211), (.ref b211), (.ref b205), (.ref b205)])) _
            refine XS.iconst X238.here hx rfl (hb hby at_190) ?_
            show Steps p.tables e below (T238.setTop (mkF m 191 #[.val (.int p1), .val (.int p2), .val (.long q3), .second, .val (.ref a4), .val (.int vl), .val (.int ch8), .val (.int ch10), .val (.int ch12), .val (.int ch14), .val (.int ch16), .val (.int ch18), .val (.int vc6), .unset, .unset] [(.int (3 : Int32)), (.ref b211), (.ref b211), (.ref b205), (.ref b205)])) _
            refine XS.iload X238.here hx rfl (hb hby at_191) rfl ?_
            exact kk)
          obtain ⟨cl247, Ar247, q247, S247, G247, H247, J247⟩ := V238
          have hin247 : ¬ ((3 : Int32) < 0 ∨ cl247.slots.size ≤ ((3 : Int32)).toNatClampNeg) := inb_of S247 ⟨by decide, by decide⟩
          obtain ⟨T247, h247, X247, e247, W247, st247⟩ := stC X238 hx hZ4 e238 Ar247 (j := (3 : Int32)) hin247 (g := (mkF m 193 #[.val (.int p1), .val (.int p2), .val (.long q3), .second, .val (.ref a4), .val (.int vl), .val (.int ch8), .val (.int ch10), .val (.int ch12), .val (.int ch14), .val (.int ch16), .val (.int ch18), .val (.int vc6), .unset, .unset] [(.int ch14), (.int (3 : Int32)), (.ref b211), (.ref b211), (.ref b205), (.ref b205)])) rfl rfl (hb hby at_193)
          have V247 := Arv.set Ar247 q247 S247 G247 H247 J247 (fits_nar_char _) W247 3 rfl (Nat.le_of_ble_eq_true rfl)
          have N247 := Fr.snoc X247 N238 ge_b211
          have hku247 := Nat.le_trans hku238 (Keep.of_wr W247).1
          have sf247_b205 := Safe.wr W247 sf238_b211 C238.1 sf238_b205
          have sf247_b211 := Safe.wr W247 sf238_b211 C238.1 sf238_b211
          have C247 := C238.trans (CHr.wr W247 sf238_b211 C238.1)
          have f248 := f239.wr W247
          have f249 := f240.other W247 (Or.inl ne_a4_b211)
          have f250 := f241.other W247 (Or.inl ne_a4_b211)
          have f251 := f242.other W247 ne_b4_b211
          have f252 := f243.other W247 (Or.inl ne_b205_b211)
          have f253 := f244.other W247 (Or.inl ne_b205_b211)
          have f254 := f245.wr W247
          have K247 := (K238).wr W247 (Or.inr sz_b211)
          have Zs247 : n0 ≤ h247.size := Nat.le_trans Zs238 (Keep.of_wr W247).1
          have k247 : Go p e below (s₁.setTop (entryFrame m #[(.int p1), (.int p2), (.long q3)] maxLocals)) (T247.setTop (mkF m 194 #[.val (.int p1), .val (.int p2), .val (.long q3), .second, .val (.ref a4), .val (.int vl), .val (.int ch8), .val (.int ch10), .val (.int ch12), .val (.int ch14), .val (.int ch16), .val (.int ch18), .val (.int vc6), .unset, .unset] [(.ref b211), (.ref b205), (.ref b205)])) := fun t kk => k246 t (st247 t kk)
          have k255 : Go p e below (s₁.setTop (entryFrame m #[(.int p1), (.int p2), (.long q3)] maxLocals)) (T247.setTop (mkF m 198 #[.val (.int p1), .val (.int p2), .val (.long q3), .second, .val (.ref a4), .val (.int vl), .val (.int ch8), .val (.int ch10), .val (.int ch12), .val (.int ch14), .val (.int ch16), .val (.int ch18), .val (.int vc6), .unset, .unset] [(.int ch16), (.int (4 : Int32)), (.ref b211), (.ref b211), (.ref b205), (.ref b205)])) := fun t kk => k247 t (by
            show Steps p.tables e below (T247.setTop (mkF m 194 #[.val (.int p1), .val (.int p2), .val (.long q3), .second, .val (.ref a4), .val (.int vl), .val (.int ch8), .val (.int ch10), .val (.int ch12), .val (.int ch14), .val (.int ch16), .val (.int ch18), .val (.int vc6), .unset, .unset] [(.ref b211), (.ref b205), (.ref b205)])) _
            refine XS.dup X247.here hx rfl (hb hby at_194) rfl rfl ?_
            show Steps p.tables e below (T247.setTop (mkF m 195 #[.val (.int p1), .val (.int p2), .val (.long q3), .second, .val (.ref a4), .val (.int vl), .val (.int ch8), .val (.int ch10), .val (.int ch12), .val (.int ch14), .val (.int ch16), .val (.int ch18), .val (.int vc6), .unset, .unset] [(.ref b211), (.ref b211), (.ref b205), (.ref b205)])) _
            refine XS.iconst X247.here hx rfl (hb hby at_195) ?_
            show Steps p.tables e below (T247.setTop (mkF m 196 #[.val (.int p1), .val (.int p2), .val (.long q3), .second, .val (.ref a4), .val (.int vl), .val (.int ch8), .val (.int ch10), .val (.int ch12), .val (.int ch14), .val (.int ch16), .val (.int ch18), .val (.int vc6), .unset, .unset] [(.int (4 : Int32)), (.ref b211), (.ref b211), (.ref b205), (.ref b205)])) _
            refine XS.iload X247.here hx rfl (hb hby at_196) rfl ?_
            exact kk)
          obtain ⟨cl256, Ar256, q256, S256, G256, H256, J256⟩ := V247
          have hin256 : ¬ ((4 : Int32) < 0 ∨ cl256.slots.size ≤ ((4 : Int32)).toNatClampNeg) := inb_of S256 ⟨by decide, by decide⟩
          obtain ⟨T256, h256, X256, e256, W256, st256⟩ := stC X247 hx hZ4 e247 Ar256 (j := (4 : Int32)) hin256 (g := (mkF m 198 #[.val (.int p1), .val (.int p2), .val (.long q3), .second, .val (.ref a4), .val (.int vl), .val (.int ch8), .val (.int ch10), .val (.int ch12), .val (.int ch14), .val (.int ch16), .val (.int ch18), .val (.int vc6), .unset, .unset] [(.int ch16), (.int (4 : Int32)), (.ref b211), (.ref b211), (.ref b205), (.ref b205)])) rfl rfl (hb hby at_198)
          have V256 := Arv.set Ar256 q256 S256 G256 H256 J256 (fits_nar_char _) W256 4 rfl (Nat.le_of_ble_eq_true rfl)
          have N256 := Fr.snoc X256 N247 ge_b211
          have hku256 := Nat.le_trans hku247 (Keep.of_wr W256).1
          have sf256_b205 := Safe.wr W256 sf247_b211 C247.1 sf247_b205
          have sf256_b211 := Safe.wr W256 sf247_b211 C247.1 sf247_b211
          have C256 := C247.trans (CHr.wr W256 sf247_b211 C247.1)
          have f257 := f248.wr W256
          have f258 := f249.other W256 (Or.inl ne_a4_b211)
          have f259 := f250.other W256 (Or.inl ne_a4_b211)
          have f260 := f251.other W256 ne_b4_b211
          have f261 := f252.other W256 (Or.inl ne_b205_b211)
          have f262 := f253.other W256 (Or.inl ne_b205_b211)
          have f263 := f254.wr W256
          have K256 := (K247).wr W256 (Or.inr sz_b211)
          have Zs256 : n0 ≤ h256.size := Nat.le_trans Zs247 (Keep.of_wr W256).1
          have k256 : Go p e below (s₁.setTop (entryFrame m #[(.int p1), (.int p2), (.long q3)] maxLocals)) (T256.setTop (mkF m 199 #[.val (.int p1), .val (.int p2), .val (.long q3), .second, .val (.ref a4), .val (.int vl), .val (.int ch8), .val (.int ch10), .val (.int ch12), .val (.int ch14), .val (.int ch16), .val (.int ch18), .val (.int vc6), .unset, .unset] [(.ref b211), (.ref b205), (.ref b205)])) := fun t kk => k255 t (st256 t kk)
          have k264 : Go p e below (s₁.setTop (entryFrame m #[(.int p1), (.int p2), (.long q3)] maxLocals)) (T256.setTop (mkF m 203 #[.val (.int p1), .val (.int p2), .val (.long q3), .second, .val (.ref a4), .val (.int vl), .val (.int ch8), .val (.int ch10), .val (.int ch12), .val (.int ch14), .val (.int ch16), .val (.int ch18), .val (.int vc6), .unset, .unset] [(.int ch18), (.int (5 : Int32)), (.ref b211), (.ref b211), (.ref b205), (.ref b205)])) := fun t kk => k256 t (by
            show Steps p.tables e below (T256.setTop (mkF m 199 #[.val (.int p1), .val (.int p2), .val (.long q3), .second, .val (.ref a4), .val (.int vl), .val (.int ch8), .val (.int ch10), .val (.int ch12), .val (.int ch14), .val (.int ch16), .val (.int ch18), .val (.int vc6), .unset, .unset] [(.ref b211), (.ref b205), (.ref b205)])) _
            refine XS.dup X256.here hx rfl (hb hby at_199) rfl rfl ?_
            show Steps p.tables e below (T256.setTop (mkF m 200 #[.val (.int p1), .val (.int p2), .val (.long q3), .second, .val (.ref a4), .val (.int vl), .val (.int ch8), .val (.int ch10), .val (.int ch12), .val (.int ch14), .val (.int ch16), .val (.int ch18), .val (.int vc6), .unset, .unset] [(.ref b211), (.ref b211), (.ref b205), (.ref b205)])) _
            refine XS.iconst X256.here hx rfl (hb hby at_200) ?_
            show Steps p.tables e below (T256.setTop (mkF m 201 #[.val (.int p1), .val (.int p2), .val (.long q3), .second, .val (.ref a4), .val (.int vl), .val (.int ch8), .val (.int ch10), .val (.int ch12), .val (.int ch14), .val (.int ch16), .val (.int ch18), .val (.int vc6), .unset, .unset] [(.int (5 : Int32)), (.ref b211), (.ref b211), (.ref b205), (.ref b205)])) _
            refine XS.iload X256.here hx rfl (hb hby at_201) rfl ?_
            exact kk)
          obtain ⟨cl265, Ar265, q265, S265, G265, H265, J265⟩ := V256
          have hin265 : ¬ ((5 : Int32) < 0 ∨ cl265.slots.size ≤ ((5 : Int32)).toNatClampNeg) := inb_of S265 ⟨by decide, by decide⟩
          obtain ⟨T265, h265, X265, e265, W265, st265⟩ := stC X256 hx hZ4 e256 Ar265 (j := (5 : Int32)) hin265 (g := (mkF m 203 #[.val (.int p1), .val (.int p2), .val (.long q3), .second, .val (.ref a4), .val (.int vl), .val (.int ch8), .val (.int ch10), .val (.int ch12), .val (.int ch14), .val (.int ch16), .val (.int ch18), .val (.int vc6), .unset, .unset] [(.int ch18), (.int (5 : Int32)), (.ref b211), (.ref b211), (.ref b205), (.ref b205)])) rfl rfl (hb hby at_203)
          have V265 := Arv.set Ar265 q265 S265 G265 H265 J265 (fits_nar_char _) W265 5 rfl (Nat.le_of_ble_eq_true rfl)
          have N265 := Fr.snoc X265 N256 ge_b211
          have hku265 := Nat.le_trans hku256 (Keep.of_wr W265).1
          have sf265_b205 := Safe.wr W265 sf256_b211 C256.1 sf256_b205
          have sf265_b211 := Safe.wr W265 sf256_b211 C256.1 sf256_b211
          have C265 := C256.trans (CHr.wr W265 sf256_b211 C256.1)
          have f266 := f257.wr W265
          have f267 := f258.other W265 (Or.inl ne_a4_b211)
          have f268 := f259.other W265 (Or.inl ne_a4_b211)
          have f269 := f260.other W265 ne_b4_b211
          have f270 := f261.other W265 (Or.inl ne_b205_b211)
          have f271 := f262.other W265 (Or.inl ne_b205_b211)
          have f272 := f263.wr W265
          have K265 := (K256).wr W265 (Or.inr sz_b211)
          have Zs265 : n0 ≤ h265.size := Nat.le_trans Zs256 (Keep.of_wr W265).1
          have k265 : Go p e below (s₁.setTop (entryFrame m #[(.int p1), (.int p2), (.long q3)] maxLocals)) (T265.setTop (mkF m 204 #[.val (.int p1), .val (.int p2), .val (.long q3), .second, .val (.ref a4), .val (.int vl), .val (.int ch8), .val (.int ch10), .val (.int ch12), .val (.int ch14), .val (.int ch16), .val (.int ch18), .val (.int vc6), .unset, .unset] [(.ref b211), (.ref b205), (.ref b205)])) := fun t kk => k264 t (st265 t kk)
          have hps273 : ∀ c ∈ (([ch8, ch10, ch12, ch14, ch16, ch18] : List Int32).map (nar .char)), ¬ c < 0 ∧ ¬ (255 : Int32) < c := own_nars _ (by
            intro x hx
            simp only [List.mem_cons, List.not_mem_nil, or_false] at hx
            rcases hx with rfl | rfl | rfl | rfl | rfl | rfl
            · exact hb8
            · exact hb10
            · exact hb12
            · exact hb14
            · exact hb16
            · exact hb18)
          have hcs273 : StrChars.Road.CodA (([ch8, ch10, ch12, ch14, ch16, ch18] : List Int32).map (nar .char)) 0 (6 : Int32) ((((([ch8, ch10, ch12, ch14, ch16, ch18] : List Int32).map (nar .char))).map (fun c => c.toInt8.toInt32)).map Value.int) := StrChars.Road.codOf (n := 6) rfl (fun c hc => (hps273 c hc).2)
          obtain ⟨_, _, ⟨T273, L273, kx273, nx273⟩, -, X273, ⟨Lc273, hQ273, l273, y273, z273⟩, st273⟩ := X265.specialBack hx (y := (⟨"java/lang/String", "<init>", "([C)V"⟩ : MethodName)) rfl hown4 (mvT hZ4 (hw _ (List.mem_of_getElem? (i := 40) rfl))) (mvT hZ4 (hw _ (List.mem_of_getElem? (i := 41) rfl))) (mvT hZ4 (hw _ (List.mem_of_getElem? (i := 42) rfl))) (by decide) (StrChars.Road.backV (W := 1) hZ4 hws (kI := 4) (hw _ (List.mem_of_getElem? (i := 2) rfl)) (cs := (([ch8, ch10, ch12, ch14, ch16, ch18] : List Int32).map (nar .char))) (bs := ((([ch8, ch10, ch12, ch14, ch16, ch18] : List Int32).map (nar .char))).map (fun c => c.toInt8.toInt32)) (n := 6) ge_b205 Zs265 f272 f270 f271 V265 (own_stakeep S1 K265) hs1 rfl rfl (by decide) (by decide) hps273 rfl (by decide) (by decide)) (g := (mkF m 204 #[.val (.int p1), .val (.int p2), .val (.long q3), .second, .val (.ref a4), .val (.int vl), .val (.int ch8), .val (.int ch10), .val (.int ch12), .val (.int ch14), .val (.int ch16), .val (.int ch18), .val (.int vc6), .unset, .unset] [(.ref b211), (.ref b205), (.ref b205)])) rfl (by rw [hml]; rfl) (Steps.refl _) (a := b205) (argsL := [(.ref b211)]) (rest := [(.ref b205)]) (lenOf pd_5 rfl) rfl (by show 2 * 0 + _ ≤ _; exact Nat.le_of_eq rfl) (hb hby at_204) (fun _ _ => ⟨rfl, e265, (by decide : 4 + 1 ≤ _), (by decide : 38 + 6 ≤ _)⟩)
          dsimp only [Pt.U, Pt.locs, Pt.cells, Pt.slots] at X273 l273 y273 z273 st273 hQ273
          subst l273 y273 z273
          obtain ⟨rfl, N273q, K273q, x273_e, x273_c, t273, kb273, -, zt273, -, x273_v, x273_a⟩ := hQ273
          have N273 := Fr.app N265 N273q
          have sf273_b205 := Safe.keep K273q (sfS sf265_b205 sf0) C265.1 sf265_b205
          have sf273_b211 := Safe.keep K273q (sfS sf265_b205 sf0) C265.1 sf265_b211
          have C273 := C265.trans (CHr.keep K273q (sfS sf265_b205 sf0) C265.1)
          have hku273 := Nat.le_trans hku265 K273q.1
          have ne_a4_t273 : a4 ≠ t273 := Nat.ne_of_lt (Nat.lt_of_lt_of_le f266.lt zt273)
          have ne_b211_t273 : b211 ≠ t273 := Nat.ne_of_lt (Nat.lt_of_lt_of_le V265.lt zt273)
          have ne_b4_t273 : b4 ≠ t273 := Nat.ne_of_lt (Nat.lt_of_lt_of_le f269.lt zt273)
          have f274 := f266.keep K273q
          have f275 := f267.keep K273q (ninS ne_a4_b205 nin0)
          have f276 := f268.keep K273q (ninS ne_a4_b205 nin0)
          have f277 := f269.keep K273q (ninS ne_b4_b205 nin0)
          have f278 := V265.keep K273q (ninS (Ne.symm ne_b205_b211) nin0)
          have K273 := (K265).trans K273q (allS (Or.inr sz_b205) all0)
          have sz_t273 : h0.size ≤ t273 := Nat.le_trans K265.1 zt273
          have Zs273 : n0 ≤ T273.heap.size := Nat.le_trans Zs265 K273q.1
          have k273 : Go p e below (s₁.setTop (entryFrame m #[(.int p1), (.int p2), (.long q3)] maxLocals)) (T273.setTop (mkF m 207 #[.val (.int p1), .val (.int p2), .val (.long q3), .second, .val (.ref a4), .val (.int vl), .val (.int ch8), .val (.int ch10), .val (.int ch12), .val (.int ch14), .val (.int ch16), .val (.int ch18), .val (.int vc6), .unset, .unset] [(.ref b205)])) := fun t kk => k265 t (st273.trans kk)
          have k279 : Go p e below (s₁.setTop (entryFrame m #[(.int p1), (.int p2), (.long q3)] maxLocals)) (T273.setTop (mkF m 263 #[.val (.int p1), .val (.int p2), .val (.long q3), .second, .val (.ref a4), .val (.int vl), .val (.int ch8), .val (.int ch10), .val (.int ch12), .val (.int ch14), .val (.int ch16), .val (.int ch18), .val (.int vc6), .val (.ref b205), .unset] [(.ref b205)])) := fun t kk => k273 t (by
            show Steps p.tables e below (T273.setTop (mkF m 207 #[.val (.int p1), .val (.int p2), .val (.long q3), .second, .val (.ref a4), .val (.int vl), .val (.int ch8), .val (.int ch10), .val (.int ch12), .val (.int ch14), .val (.int ch16), .val (.int ch18), .val (.int vc6), .unset, .unset] [(.ref b205)])) _
            refine XS.astore X273.here hx rfl (hb hby at_207) rfl rfl (l' := #[.val (.int p1), .val (.int p2), .val (.long q3), .second, .val (.ref a4), .val (.int vl), .val (.int ch8), .val (.int ch10), .val (.int ch12), .val (.int ch14), .val (.int ch16), .val (.int ch18), .val (.int vc6), .val (.ref b205), .unset]) rfl ?_
            show Steps p.tables e below (T273.setTop (mkF m 209 #[.val (.int p1), .val (.int p2), .val (.long q3), .second, .val (.ref a4), .val (.int vl), .val (.int ch8), .val (.int ch10), .val (.int ch12), .val (.int ch14), .val (.int ch16), .val (.int ch18), .val (.int vc6), .val (.ref b205), .unset] [])) _
            refine XS.goto X273.here hx rfl (pc0 := 209) (pc' := 261) rfl (hb hby at_209) (by decide) (by decide) ?_
            show Steps p.tables e below (T273.setTop (mkF m 261 #[.val (.int p1), .val (.int p2), .val (.long q3), .second, .val (.ref a4), .val (.int vl), .val (.int ch8), .val (.int ch10), .val (.int ch12), .val (.int ch14), .val (.int ch16), .val (.int ch18), .val (.int vc6), .val (.ref b205), .unset] [])) _
            refine XS.aload X273.here hx rfl (hb hby at_261) rfl rfl ?_
            exact kk)
          have Xb281 : Stand p l e room_1 (s.setVm T4.vm) m #[(.int p1), (.int p2), (.long q3)] below meth c T273 _ _ _ := X273
          have k282 : Go p e below (s₁.setTop (entryFrame m #[(.int p1), (.int p2), (.long q3)] maxLocals)) (T273.setTop (mkF m 265 #[.val (.int p1), .val (.int p2), .val (.long q3), .second, .val (.ref a4), .val (.int vl), .val (.int ch8), .val (.int ch10), .val (.int ch12), .val (.int ch14), .val (.int ch16), .val (.int ch18), .val (.int vc6), .val (.ref b205), .unset] [(.ref a4), (.ref b205)])) := fun t kk => k279 t (by
            show Steps p.tables e below (T273.setTop (mkF m 263 #[.val (.int p1), .val (.int p2), .val (.long q3), .second, .val (.ref a4), .val (.int vl), .val (.int ch8), .val (.int ch10), .val (.int ch12), .val (.int ch14), .val (.int ch16), .val (.int ch18), .val (.int vc6), .val (.ref b205), .unset] [(.ref b205)])) _
            refine ldcAgain Xb281 hx hZ4 hown4 (hw _ (List.mem_of_getElem? (i := 0) rfl)) lit4 (g := (mkF m 263 #[.val (.int p1), .val (.int p2), .val (.long q3), .second, .val (.ref a4), .val (.int vl), .val (.int ch8), .val (.int ch10), .val (.int ch12), .val (.int ch14), .val (.int ch16), .val (.int ch18), .val (.int vc6), .val (.ref b205), .unset] [(.ref b205)])) rfl (hb hby at_263) _ ?_
            exact kk)
          obtain ⟨cq283, kq283, q283a, q283b, q283c⟩ := isOf hZ4 rfl x273_e
          obtain ⟨_, _, ⟨T283, L283, kx283, nx283⟩, -, X283, ⟨Lc283, hQ283, l283, y283, z283⟩, st283⟩ := X273.virtualBack hx (y := (⟨"java/lang/String", "equals", "(Ljava/lang/Object;)Z"⟩ : MethodName)) (z := (⟨"java/lang/String", "equals", "(Ljava/lang/Object;)Z"⟩ : MethodName)) hown4 (mvT hZ4 (hw _ (List.mem_of_getElem? (i := 51) rfl))) (mvT hZ4 (hw _ (List.mem_of_getElem? (i := 52) rfl))) (notFace_of_selects (args := #[]) (mvT hZ4 (hw _ (List.mem_of_getElem? (i := 54) rfl)))) (mvT hZ4 (hw _ (List.mem_of_getElem? (i := 54) rfl))) (mvT hZ4 (hw _ (List.mem_of_getElem? (i := 53) rfl))) (by decide) (StrChars.Road.eqW (W := 0) hZ4 heq (kI := 4) (hw _ (List.mem_of_getElem? (i := 2) rfl)) x273_e x273_v x273_c x273_a hcs273 (own_up _ hps273) (Nat.le_of_ble_eq_true rfl) f274 f276 f275 f277 own_Lc (own_up _ own_Lb) (Nat.le_of_ble_eq_true rfl) (own_stakeep S1 K273) hs1 (by decide) (by decide)) q283a q283c (g := (mkF m 265 #[.val (.int p1), .val (.int p2), .val (.long q3), .second, .val (.ref a4), .val (.int vl), .val (.int ch8), .val (.int ch10), .val (.int ch12), .val (.int ch14), .val (.int ch16), .val (.int ch18), .val (.int vc6), .val (.ref b205), .unset] [(.ref a4), (.ref b205)])) rfl (by rw [hml]; rfl) (Steps.refl _) (argsL := [(.ref a4)]) (rest := []) (lenOf pd_3 rfl) rfl (by show 2 * 0 + _ ≤ _; exact Nat.le_of_eq rfl) (hb hby at_265) (fun _ _ => ⟨rfl, rfl, (by decide : 5 + 0 ≤ _), (by decide : 44 + 0 ≤ _)⟩)
          dsimp only [Pt.U, Pt.locs, Pt.cells, Pt.slots] at X283 l283 y283 z283 st283 hQ283
          subst l283 y283 z283
          obtain ⟨hcase283, rfl, e283⟩ := hQ283
          try rw [List.append_nil] at X283
          obtain ⟨vq283, rfl, hvq283⟩ := own_case hcase283
          have k283 : Go p e below (s₁.setTop (entryFrame m #[(.int p1), (.int p2), (.long q3)] maxLocals)) (T283.setTop (mkF m 268 #[.val (.int p1), .val (.int p2), .val (.long q3), .second, .val (.ref a4), .val (.int vl), .val (.int ch8), .val (.int ch10), .val (.int ch12), .val (.int ch14), .val (.int ch16), .val (.int ch18), .val (.int vc6), .val (.ref b205), .unset] [(.int vq283)])) := fun t kk => k282 t (st283.trans kk)
          by_cases hc268_284 : vq283 = (0 : Int32)
          · have k285 : Go p e below (s₁.setTop (entryFrame m #[(.int p1), (.int p2), (.long q3)] maxLocals)) (T283.setTop (mkF m 281 #[.val (.int p1), .val (.int p2), .val (.long q3), .second, .val (.ref a4), .val (.int vl), .val (.int ch8), .val (.int ch10), .val (.int ch12), .val (.int ch14), .val (.int ch16), .val (.int ch18), .val (.int vc6), .val (.ref b205), .unset] [(.ref b205)])) := fun t kk => k283 t (by
              show Steps p.tables e below (T283.setTop (mkF m 268 #[.val (.int p1), .val (.int p2), .val (.long q3), .second, .val (.ref a4), .val (.int vl), .val (.int ch8), .val (.int ch10), .val (.int ch12), .val (.int ch14), .val (.int ch16), .val (.int ch18), .val (.int vc6), .val (.ref b205), .unset] [(.int vq283)])) _
              refine XS.ifYes X283.here hx rfl (pc0 := 268) (pc' := 279) rfl (hb hby at_268) rfl ((if0 _ _).trans (teq hc268_284).1) (by decide) (by decide) ?_
              show Steps p.tables e below (T283.setTop (mkF m 279 #[.val (.int p1), .val (.int p2), .val (.long q3), .second, .val (.ref a4), .val (.int vl), .val (.int ch8), .val (.int ch10), .val (.int ch12), .val (.int ch14), .val (.int ch16), .val (.int ch18), .val (.int vc6), .val (.ref b205), .unset] [])) _
              refine XS.aload X283.here hx rfl (hb hby at_279) rfl rfl ?_
              exact kk)
            have Xb287 : Stand p l e room_1 (s.setVm T4.vm) m #[(.int p1), (.int p2), (.long q3)] below meth c T283 _ _ _ := X283
            obtain ⟨a286, T286, h286, kn286, b286, kc286, X286, e286, E286, hS286, hk286, hZ286, hown286, xe286, xc286, xv286, V286, -, -, Cn286, lit286, nsf286, st286⟩ := ldcCH (s := s) (vm0 := T4.vm) Xb287 hx hZ4 hown4 (hw _ (List.mem_of_getElem? (i := 60) rfl)) wS0 e283 hS4 hku273 (EW.cons (hw _ (List.mem_of_getElem? (i := 60) rfl)) (by decide) (EW.cons (hw _ (List.mem_of_getElem? (i := 0) rfl)) (by decide) (EW.cons (hw _ (List.mem_of_getElem? (i := 50) rfl)) (by decide) EW.nil))) (List.mem_of_getElem? (i := 0) rfl) C273.1 (vs := [(.int (115 : Int32)), (.int (101 : Int32)), (.int (101 : Int32)), (.int (100 : Int32)), (.int (101 : Int32)), (.int (100 : Int32))]) (z := 6) ⟨by decide, by decide⟩ (by decide) rfl (g := (mkF m 281 #[.val (.int p1), .val (.int p2), .val (.long q3), .second, .val (.ref a4), .val (.int vl), .val (.int ch8), .val (.int ch10), .val (.int ch12), .val (.int ch14), .val (.int ch16), .val (.int ch18), .val (.int vc6), .val (.ref b205), .unset] [(.ref b205)])) rfl (hb hby at_281) (n := 24) (by decide) (by decide) (by decide) (by decide)
            have sf286_b205 := CHr.safe Cn286 x273_e.lt sf273_b205
            have sf286_b211 := CHr.safe Cn286 f278.lt sf273_b211
            have C286 := C273.trans Cn286
            have f288 := f274.ext E286
            have f289 := f275.ext E286
            have f290 := f276.ext E286
            have f291 := f277.ext E286
            have f292 := f278.ext E286
            have f293 := x273_e.ext E286
            have f294 := x273_c.ext E286
            have f295 := x273_v.ext E286
            have f296 := x273_a.ext E286
            have K286 := (K273).ext E286
            have Zs286 : n0 ≤ h286.size := Nat.le_trans Zs273 E286.1
            have k286 : Go p e below (s₁.setTop (entryFrame m #[(.int p1), (.int p2), (.long q3)] maxLocals)) (T286.setTop (mkF m 283 #[.val (.int p1), .val (.int p2), .val (.long q3), .second, .val (.ref a4), .val (.int vl), .val (.int ch8), .val (.int ch10), .val (.int ch12), .val (.int ch14), .val (.int ch16), .val (.int ch18), .val (.int vc6), .val (.ref b205), .unset] [(.ref a286), (.ref b205)])) := fun t kk => k285 t (st286 t kk)
            obtain ⟨cq297, kq297, q297a, q297b, q297c⟩ := isOf hZ286 e286 f293
            obtain ⟨_, _, ⟨T297, L297, kx297, nx297⟩, -, X297, ⟨Lc297, hQ297, l297, y297, z297⟩, st297⟩ := X286.virtualBack hx (y := (⟨"java/lang/String", "equals", "(Ljava/lang/Object;)Z"⟩ : MethodName)) (z := (⟨"java/lang/String", "equals", "(Ljava/lang/Object;)Z"⟩ : MethodName)) hown286 (mvT hZ286 (hw _ (List.mem_of_getElem? (i := 51) rfl))) (mvT hZ286 (hw _ (List.mem_of_getElem? (i := 52) rfl))) (notFace_of_selects (args := #[]) (mvT hZ286 (hw _ (List.mem_of_getElem? (i := 54) rfl)))) (mvT hZ286 (hw _ (List.mem_of_getElem? (i := 54) rfl))) (mvT hZ286 (hw _ (List.mem_of_getElem? (i := 53) rfl))) (by decide) (StrChars.Road.eqW (W := 0) hZ286 heq (kI := 4) (hw _ (List.mem_of_getElem? (i := 2) rfl)) f293 f295 f294 f296 hcs273 (own_up _ hps273) (Nat.le_of_ble_eq_true rfl) xe286 xv286 xc286 V286 own_Sc (own_up _ own_Sb) (Nat.le_of_ble_eq_true rfl) (own_stakeep S1 K286) hs1 (by decide) (by decide)) q297a q297c (g := (mkF m 283 #[.val (.int p1), .val (.int p2), .val (.long q3), .second, .val (.ref a4), .val (.int vl), .val (.int ch8), .val (.int ch10), .val (.int ch12), .val (.int ch14), .val (.int ch16), .val (.int ch18), .val (.int vc6), .val (.ref b205), .unset] [(.ref a286), (.ref b205)])) rfl (by rw [hml]; rfl) (Steps.refl _) (argsL := [(.ref a286)]) (rest := []) (lenOf pd_3 rfl) rfl (by show 2 * 0 + _ ≤ _; exact Nat.le_of_eq rfl) (hb hby at_283) (fun _ _ => ⟨rfl, e286, (by decide : 7 + 0 ≤ _), (by decide : 72 + 0 ≤ _)⟩)
            dsimp only [Pt.U, Pt.locs, Pt.cells, Pt.slots] at X297 l297 y297 z297 st297 hQ297
            subst l297 y297 z297
            obtain ⟨hcase297, rfl, e297⟩ := hQ297
            try rw [List.append_nil] at X297
            obtain ⟨vq297, rfl, hvq297⟩ := own_case hcase297
            have k297 : Go p e below (s₁.setTop (entryFrame m #[(.int p1), (.int p2), (.long q3)] maxLocals)) (T297.setTop (mkF m 286 #[.val (.int p1), .val (.int p2), .val (.long q3), .second, .val (.ref a4), .val (.int vl), .val (.int ch8), .val (.int ch10), .val (.int ch12), .val (.int ch14), .val (.int ch16), .val (.int ch18), .val (.int vc6), .val (.ref b205), .unset] [(.int vq297)])) := fun t kk => k286 t (st297.trans kk)
            by_cases hc286_298 : vq297 = (0 : Int32)
            · have k299 : Go p e below (s₁.setTop (entryFrame m #[(.int p1), (.int p2), (.long q3)] maxLocals)) (T297.setTop (mkF m 302 #[.val (.int p1), .val (.int p2), .val (.long q3), .second, .val (.ref a4), .val (.int vl), .val (.int ch8), .val (.int ch10), .val (.int ch12), .val (.int ch14), .val (.int ch16), .val (.int ch18), .val (.int vc6), .val (.ref b205), .val .null] [(.ref b205)])) := fun t kk => k297 t (by
                show Steps p.tables e below (T297.setTop (mkF m 286 #[.val (.int p1), .val (.int p2), .val (.long q3), .second, .val (.ref a4), .val (.int vl), .val (.int ch8), .val (.int ch10), .val (.int ch12), .val (.int ch14), .val (.int ch16), .val (.int ch18), .val (.int vc6), .val (.ref b205), .unset] [(.int vq297)])) _
                refine XS.ifYes X297.here hx rfl (pc0 := 286) (pc' := 297) rfl (hb hby at_286) rfl ((if0 _ _).trans (teq hc286_298).1) (by decide) (by decide) ?_
                show Steps p.tables e below (T297.setTop (mkF m 297 #[.val (.int p1), .val (.int p2), .val (.long q3), .second, .val (.ref a4), .val (.int vl), .val (.int ch8), .val (.int ch10), .val (.int ch12), .val (.int ch14), .val (.int ch16), .val (.int ch18), .val (.int vc6), .val (.ref b205), .unset] [])) _
                refine XS.aconstNull X297.here hx rfl (hb hby at_297) ?_
                show Steps p.tables e below (T297.setTop (mkF m 298 #[.val (.int p1), .val (.int p2), .val (.long q3), .second, .val (.ref a4), .val (.int vl), .val (.int ch8), .val (.int ch10), .val (.int ch12), .val (.int ch14), .val (.int ch16), .val (.int ch18), .val (.int vc6), .val (.ref b205), .unset] [.null])) _
                refine XS.astore X297.here hx rfl (hb hby at_298) rfl rfl (l' := #[.val (.int p1), .val (.int p2), .val (.long q3), .second, .val (.ref a4), .val (.int vl), .val (.int ch8), .val (.int ch10), .val (.int ch12), .val (.int ch14), .val (.int ch16), .val (.int ch18), .val (.int vc6), .val (.ref b205), .val .null]) rfl ?_
                show Steps p.tables e below (T297.setTop (mkF m 300 #[.val (.int p1), .val (.int p2), .val (.long q3), .second, .val (.ref a4), .val (.int vl), .val (.int ch8), .val (.int ch10), .val (.int ch12), .val (.int ch14), .val (.int ch16), .val (.int ch18), .val (.int vc6), .val (.ref b205), .val .null] [])) _
                refine XS.aload X297.here hx rfl (hb hby at_300) rfl rfl ?_
                exact kk)
              obtain ⟨_, _, ⟨T300, L300, kx300, nx300⟩, -, X300, ⟨Lc300, hQ300, l300, y300, z300⟩, st300⟩ := Jvm.LawKit.callS X297 hx (y := (⟨"com/example/tabularium/tabularium/record/Deal", "named", "(Ljava/lang/String;)Lcom/example/tabularium/tabularium/record/Deal;"⟩ : MethodName)) hown286 (mvT hZ286 (hw _ (List.mem_of_getElem? (i := 61) rfl))) (mvT hZ286 (hw _ (List.mem_of_getElem? (i := 62) rfl))) (mvT hZ286 (hw _ (List.mem_of_getElem? (i := 63) rfl))) (mvT hZ286 (hw _ (List.mem_of_getElem? (i := 64) rfl))) (by decide) (backOf (W := 0) (rmD l Z a0 hw [] b205 a__VALUES kV a_LISTED a_SEEDED s_LISTED t_LISTED kL s_SEEDED t_SEEDED kS (([ch8, ch10, ch12, ch14, ch16, ch18] : List Int32).map (nar .char)) t273 kb273 (6 : Int32) _ cs h286 n0 Zs286 (own_stakeep SV K286) (PAV.keep K286 nin0) (PEV.keep K286) (f_LISTED.keep K286 nin0) (es_LISTED.keep K286) (cs_LISTED.keep K286 nin0) (vs_LISTED.keep K286 nin0) (as_LISTED.keep K286 nin0) (f_SEEDED.keep K286 nin0) (es_SEEDED.keep K286) (cs_SEEDED.keep K286 nin0) (vs_SEEDED.keep K286 nin0) (as_SEEDED.keep K286 nin0) f293 f295 f294 f296 hcs273 (own_up _ hps273) (Nat.le_of_ble_eq_true rfl) (own_stakeep S1 K286) hs1) hZ286 (hw _ (List.mem_of_getElem? (i := 64) rfl)) (hw _ (List.mem_of_getElem? (i := 63) rfl)) (by decide) (by decide)) (g := (mkF m 302 #[.val (.int p1), .val (.int p2), .val (.long q3), .second, .val (.ref a4), .val (.int vl), .val (.int ch8), .val (.int ch10), .val (.int ch12), .val (.int ch14), .val (.int ch16), .val (.int ch18), .val (.int vc6), .val (.ref b205), .val .null] [(.ref b205)])) rfl (by rw [hml]; rfl) (argsL := [(.ref b205)]) (rest := []) (lenOf pd_6 rfl) rfl (by show 2 * 0 + _ ≤ _; exact Nat.le_of_eq rfl) (hb hby at_302) (fun _ _ => ⟨rfl, e297, (by decide : 7 + 1 ≤ _), (by decide : 72 + 2 ≤ _)⟩)
              dsimp only [Pt.U, Pt.locs, Pt.cells, Pt.slots] at X300 l300 y300 z300 st300 hQ300
              subst l300 y300 z300
              obtain ⟨hv300, N300q, K300q⟩ := hQ300
              rw [show own_named (([ch8, ch10, ch12, ch14, ch16, ch18] : List Int32).map (nar .char)) a_LISTED a_SEEDED = .null from (by unfold own_named; rw [if_neg (fun q => own_no hvq283 hc268_284 q.symm), if_neg (fun q => own_no hvq297 hc286_298 q.symm)])] at hv300
              subst hv300
              have N300 := Fr.app N273 N300q
              have hku300 := Nat.le_trans hk286 K300q.1
              have K300 := (K286).trans K300q all0
              have Zs300 : n0 ≤ T300.heap.size := Nat.le_trans Zs286 K300q.1
              have k300 : Go p e below (s₁.setTop (entryFrame m #[(.int p1), (.int p2), (.long q3)] maxLocals)) (T300.setTop (mkF m 305 #[.val (.int p1), .val (.int p2), .val (.long q3), .second, .val (.ref a4), .val (.int vl), .val (.int ch8), .val (.int ch10), .val (.int ch12), .val (.int ch14), .val (.int ch16), .val (.int ch18), .val (.int vc6), .val (.ref b205), .val .null] [.null])) := fun t kk => k299 t (st300 t kk)
              have k301 : Go p e below (s₁.setTop (entryFrame m #[(.int p1), (.int p2), (.long q3)] maxLocals)) (T300.setTop (mkF m 315 #[.val (.int p1), .val (.int p2), .val (.long q3), .second, .val (.ref a4), .val (.int vl), .val (.int ch8), .val (.int ch10), .val (.int ch12), .val (.int ch14), .val (.int ch16), .val (.int ch18), .val (.int vc6), .val (.ref b205), .val .null] [(.int (1 : Int32))])) := fun t kk => k300 t (by
                show Steps p.tables e below (T300.setTop (mkF m 305 #[.val (.int p1), .val (.int p2), .val (.long q3), .second, .val (.ref a4), .val (.int vl), .val (.int ch8), .val (.int ch10), .val (.int ch12), .val (.int ch14), .val (.int ch16), .val (.int ch18), .val (.int vc6), .val (.ref b205), .val .null] [.null])) _
                refine XS.aload X300.here hx rfl (hb hby at_305) rfl rfl ?_
                show Steps p.tables e below (T300.setTop (mkF m 307 #[.val (.int p1), .val (.int p2), .val (.long q3), .second, .val (.ref a4), .val (.int vl), .val (.int ch8), .val (.int ch10), .val (.int ch12), .val (.int ch14), .val (.int ch16), .val (.int ch18), .val (.int vc6), .val (.ref b205), .val .null] [.null, .null])) _
                refine Jvm.RoadKit.acmp (g := (mkF m 307 #[.val (.int p1), .val (.int p2), .val (.long q3), .second, .val (.ref a4), .val (.int vl), .val (.int ch8), .val (.int ch10), .val (.int ch12), .val (.int ch14), .val (.int ch16), .val (.int ch18), .val (.int vc6), .val (.ref b205), .val .null] [.null, .null])) X300 hx rfl rfl rfl (pc0 := 307) (pc' := 310) (same := true) rfl (hb hby at_307) rfl (decide_eq_true (rfl : Value.null = Value.null)) (by decide) (by decide) ?_
                show Steps p.tables e below (T300.setTop (mkF m 310 #[.val (.int p1), .val (.int p2), .val (.long q3), .second, .val (.ref a4), .val (.int vl), .val (.int ch8), .val (.int ch10), .val (.int ch12), .val (.int ch14), .val (.int ch16), .val (.int ch18), .val (.int vc6), .val (.ref b205), .val .null] [])) _
                refine XS.iconst X300.here hx rfl (hb hby at_310) ?_
                show Steps p.tables e below (T300.setTop (mkF m 311 #[.val (.int p1), .val (.int p2), .val (.long q3), .second, .val (.ref a4), .val (.int vl), .val (.int ch8), .val (.int ch10), .val (.int ch12), .val (.int ch14), .val (.int ch16), .val (.int ch18), .val (.int vc6), .val (.ref b205), .val .null] [(.int (1 : Int32))])) _
                refine XS.goto X300.here hx rfl (pc0 := 311) (pc' := 315) rfl (hb hby at_311) (by decide) (by decide) ?_
                exact kk)
              have Xb303 : Stand p l e room_1 (s.setVm T286.vm) m #[(.int p1), (.int p2), (.long q3)] below meth c T300 _ _ _ := X300
              obtain ⟨fs, hr, hrun, hended, hW⟩ := leaveW Xb303 hS286 hku300 (v := some (.int (1 : Int32))) (fun h => by rw [Bd.returns] at h; cases h)
              refine ⟨_, _, k301 _ ?_, hrun, hended, _, _, rfl, ?_, hW.1, hW.2.1, hW.2.2.1, hW.2.2.2.mono (by decide) (by decide)⟩
              · show Steps p.tables e below (T300.setTop (mkF m 315 #[.val (.int p1), .val (.int p2), .val (.long q3), .second, .val (.ref a4), .val (.int vl), .val (.int ch8), .val (.int ch10), .val (.int ch12), .val (.int ch14), .val (.int ch16), .val (.int ch18), .val (.int vc6), .val (.ref b205), .val .null] [(.int (1 : Int32))])) _
                exact retN X300 hx (t := .boolean) Bd.returns (by simp) (hb hby at_315) hr
              · show Q0 Z p1 p2 q3 a__VALUES kV a_LISTED a_SEEDED s_LISTED t_LISTED kL s_SEEDED t_SEEDED kS cs fm h0 n0 _ T300.heap _
                exact ⟨rfl, N300⟩
            · have k304 : Go p e below (s₁.setTop (entryFrame m #[(.int p1), (.int p2), (.long q3)] maxLocals)) (T297.setTop (mkF m 289 #[.val (.int p1), .val (.int p2), .val (.long q3), .second, .val (.ref a4), .val (.int vl), .val (.int ch8), .val (.int ch10), .val (.int ch12), .val (.int ch14), .val (.int ch16), .val (.int ch18), .val (.int vc6), .val (.ref b205), .unset] [])) := fun t kk => k297 t (by
                show Steps p.tables e below (T297.setTop (mkF m 286 #[.val (.int p1), .val (.int p2), .val (.long q3), .second, .val (.ref a4), .val (.int vl), .val (.int ch8), .val (.int ch10), .val (.int ch12), .val (.int ch14), .val (.int ch16), .val (.int ch18), .val (.int vc6), .val (.ref b205), .unset] [(.int vq297)])) _
                refine XS.ifNo X297.here hx rfl (hb hby at_286) rfl ((if0 _ _).trans (feq hc286_298).1) ?_
                exact kk)
              obtain ⟨T305, X305, e305, st305⟩ := getS2 X297 hx hZ286 hown286 (host := "") (Or.inl (hw _ (List.mem_of_getElem? (i := 96) rfl))) Via.refl e297 (own_stakeep S_SEEDED K286) (g := (mkF m 289 #[.val (.int p1), .val (.int p2), .val (.long q3), .second, .val (.ref a4), .val (.int vl), .val (.int ch8), .val (.int ch10), .val (.int ch12), .val (.int ch14), .val (.int ch16), .val (.int ch18), .val (.int vc6), .val (.ref b205), .unset] [])) rfl (hb hby at_289)
              have k305 : Go p e below (s₁.setTop (entryFrame m #[(.int p1), (.int p2), (.long q3)] maxLocals)) (T305.setTop (mkF m 292 #[.val (.int p1), .val (.int p2), .val (.long q3), .second, .val (.ref a4), .val (.int vl), .val (.int ch8), .val (.int ch10), .val (.int ch12), .val (.int ch14), .val (.int ch16), .val (.int ch18), .val (.int vc6), .val (.ref b205), .unset] [(.ref a_SEEDED)])) := fun t kk => k304 t (st305 t kk)
              have k306 : Go p e below (s₁.setTop (entryFrame m #[(.int p1), (.int p2), (.long q3)] maxLocals)) (T305.setTop (mkF m 302 #[.val (.int p1), .val (.int p2), .val (.long q3), .second, .val (.ref a4), .val (.int vl), .val (.int ch8), .val (.int ch10), .val (.int ch12), .val (.int ch14), .val (.int ch16), .val (.int ch18), .val (.int vc6), .val (.ref b205), .val (.ref a_SEEDED)] [(.ref b205)])) := fun t kk => k305 t (by
                show Steps p.tables e below (T305.setTop (mkF m 292 #[.val (.int p1), .val (.int p2), .val (.long q3), .second, .val (.ref a4), .val (.int vl), .val (.int ch8), .val (.int ch10), .val (.int ch12), .val (.int ch14), .val (.int ch16), .val (.int ch18), .val (.int vc6), .val (.ref b205), .unset] [(.ref a_SEEDED)])) _
                refine XS.astore X305.here hx rfl (hb hby at_292) rfl rfl (l' := #[.val (.int p1), .val (.int p2), .val (.long q3), .second, .val (.ref a4), .val (.int vl), .val (.int ch8), .val (.int ch10), .val (.int ch12), .val (.int ch14), .val (.int ch16), .val (.int ch18), .val (.int vc6), .val (.ref b205), .val (.ref a_SEEDED)]) rfl ?_
                show Steps p.tables e below (T305.setTop (mkF m 294 #[.val (.int p1), .val (.int p2), .val (.long q3), .second, .val (.ref a4), .val (.int vl), .val (.int ch8), .val (.int ch10), .val (.int ch12), .val (.int ch14), .val (.int ch16), .val (.int ch18), .val (.int vc6), .val (.ref b205), .val (.ref a_SEEDED)] [])) _
                refine XS.goto X305.here hx rfl (pc0 := 294) (pc' := 300) rfl (hb hby at_294) (by decide) (by decide) ?_
                show Steps p.tables e below (T305.setTop (mkF m 300 #[.val (.int p1), .val (.int p2), .val (.long q3), .second, .val (.ref a4), .val (.int vl), .val (.int ch8), .val (.int ch10), .val (.int ch12), .val (.int ch14), .val (.int ch16), .val (.int ch18), .val (.int vc6), .val (.ref b205), .val (.ref a_SEEDED)] [])) _
                refine XS.aload X305.here hx rfl (hb hby at_300) rfl rfl ?_
                exact kk)
              obtain ⟨_, _, ⟨T307, L307, kx307, nx307⟩, -, X307, ⟨Lc307, hQ307, l307, y307, z307⟩, st307⟩ := Jvm.LawKit.callS X305 hx (y := (⟨"com/example/tabularium/tabularium/record/Deal", "named", "(Ljava/lang/String;)Lcom/example/tabularium/tabularium/record/Deal;"⟩ : MethodName)) hown286 (mvT hZ286 (hw _ (List.mem_of_getElem? (i := 61) rfl))) (mvT hZ286 (hw _ (List.mem_of_getElem? (i := 62) rfl))) (mvT hZ286 (hw _ (List.mem_of_getElem? (i := 63) rfl))) (mvT hZ286 (hw _ (List.mem_of_getElem? (i := 64) rfl))) (by decide) (backOf (W := 0) (rmD l Z a0 hw [] b205 a__VALUES kV a_LISTED a_SEEDED s_LISTED t_LISTED kL s_SEEDED t_SEEDED kS (([ch8, ch10, ch12, ch14, ch16, ch18] : List Int32).map (nar .char)) t273 kb273 (6 : Int32) _ cs h286 n0 Zs286 (own_stakeep SV K286) (PAV.keep K286 nin0) (PEV.keep K286) (f_LISTED.keep K286 nin0) (es_LISTED.keep K286) (cs_LISTED.keep K286 nin0) (vs_LISTED.keep K286 nin0) (as_LISTED.keep K286 nin0) (f_SEEDED.keep K286 nin0) (es_SEEDED.keep K286) (cs_SEEDED.keep K286 nin0) (vs_SEEDED.keep K286 nin0) (as_SEEDED.keep K286 nin0) f293 f295 f294 f296 hcs273 (own_up _ hps273) (Nat.le_of_ble_eq_true rfl) (own_stakeep S1 K286) hs1) hZ286 (hw _ (List.mem_of_getElem? (i := 64) rfl)) (hw _ (List.mem_of_getElem? (i := 63) rfl)) (by decide) (by decide)) (g := (mkF m 302 #[.val (.int p1), .val (.int p2), .val (.long q3), .second, .val (.ref a4), .val (.int vl), .val (.int ch8), .val (.int ch10), .val (.int ch12), .val (.int ch14), .val (.int ch16), .val (.int ch18), .val (.int vc6), .val (.ref b205), .val (.ref a_SEEDED)] [(.ref b205)])) rfl (by rw [hml]; rfl) (argsL := [(.ref b205)]) (rest := []) (lenOf pd_6 rfl) rfl (by show 2 * 0 + _ ≤ _; exact Nat.le_of_eq rfl) (hb hby at_302) (fun _ _ => ⟨rfl, e305, (by decide : 7 + 1 ≤ _), (by decide : 72 + 2 ≤ _)⟩)
              dsimp only [Pt.U, Pt.locs, Pt.cells, Pt.slots] at X307 l307 y307 z307 st307 hQ307
              subst l307 y307 z307
              obtain ⟨hv307, N307q, K307q⟩ := hQ307
              rw [show own_named (([ch8, ch10, ch12, ch14, ch16, ch18] : List Int32).map (nar .char)) a_LISTED a_SEEDED = .ref a_SEEDED from (by unfold own_named; rw [if_neg (fun q => own_no hvq283 hc268_284 q.symm), if_pos (own_yes hvq297 hc286_298).symm])] at hv307
              subst hv307
              have N307 := Fr.app N273 N307q
              have hku307 := Nat.le_trans hk286 K307q.1
              have K307 := (K286).trans K307q all0
              have Zs307 : n0 ≤ T307.heap.size := Nat.le_trans Zs286 K307q.1
              have k307 : Go p e below (s₁.setTop (entryFrame m #[(.int p1), (.int p2), (.long q3)] maxLocals)) (T307.setTop (mkF m 305 #[.val (.int p1), .val (.int p2), .val (.long q3), .second, .val (.ref a4), .val (.int vl), .val (.int ch8), .val (.int ch10), .val (.int ch12), .val (.int ch14), .val (.int ch16), .val (.int ch18), .val (.int vc6), .val (.ref b205), .val (.ref a_SEEDED)] [(.ref a_SEEDED)])) := fun t kk => k306 t (st307 t kk)
              have k308 : Go p e below (s₁.setTop (entryFrame m #[(.int p1), (.int p2), (.long q3)] maxLocals)) (T307.setTop (mkF m 315 #[.val (.int p1), .val (.int p2), .val (.long q3), .second, .val (.ref a4), .val (.int vl), .val (.int ch8), .val (.int ch10), .val (.int ch12), .val (.int ch14), .val (.int ch16), .val (.int ch18), .val (.int vc6), .val (.ref b205), .val (.ref a_SEEDED)] [(.int (1 : Int32))])) := fun t kk => k307 t (by
                show Steps p.tables e below (T307.setTop (mkF m 305 #[.val (.int p1), .val (.int p2), .val (.long q3), .second, .val (.ref a4), .val (.int vl), .val (.int ch8), .val (.int ch10), .val (.int ch12), .val (.int ch14), .val (.int ch16), .val (.int ch18), .val (.int vc6), .val (.ref b205), .val (.ref a_SEEDED)] [(.ref a_SEEDED)])) _
                refine XS.aload X307.here hx rfl (hb hby at_305) rfl rfl ?_
                show Steps p.tables e below (T307.setTop (mkF m 307 #[.val (.int p1), .val (.int p2), .val (.long q3), .second, .val (.ref a4), .val (.int vl), .val (.int ch8), .val (.int ch10), .val (.int ch12), .val (.int ch14), .val (.int ch16), .val (.int ch18), .val (.int vc6), .val (.ref b205), .val (.ref a_SEEDED)] [(.ref a_SEEDED), (.ref a_SEEDED)])) _
                refine Jvm.RoadKit.acmp (g := (mkF m 307 #[.val (.int p1), .val (.int p2), .val (.long q3), .second, .val (.ref a4), .val (.int vl), .val (.int ch8), .val (.int ch10), .val (.int ch12), .val (.int ch14), .val (.int ch16), .val (.int ch18), .val (.int vc6), .val (.ref b205), .val (.ref a_SEEDED)] [(.ref a_SEEDED), (.ref a_SEEDED)])) X307 hx rfl rfl rfl (pc0 := 307) (pc' := 310) (same := true) rfl (hb hby at_307) rfl (decide_eq_true (rfl : (Value.ref a_SEEDED) = (Value.ref a_SEEDED))) (by decide) (by decide) ?_
                show Steps p.tables e below (T307.setTop (mkF m 310 #[.val (.int p1), .val (.int p2), .val (.long q3), .second, .val (.ref a4), .val (.int vl), .val (.int ch8), .val (.int ch10), .val (.int ch12), .val (.int ch14), .val (.int ch16), .val (.int ch18), .val (.int vc6), .val (.ref b205), .val (.ref a_SEEDED)] [])) _
                refine XS.iconst X307.here hx rfl (hb hby at_310) ?_
                show Steps p.tables e below (T307.setTop (mkF m 311 #[.val (.int p1), .val (.int p2), .val (.long q3), .second, .val (.ref a4), .val (.int vl), .val (.int ch8), .val (.int ch10), .val (.int ch12), .val (.int ch14), .val (.int ch16), .val (.int ch18), .val (.int vc6), .val (.ref b205), .val (.ref a_SEEDED)] [(.int (1 : Int32))])) _
                refine XS.goto X307.here hx rfl (pc0 := 311) (pc' := 315) rfl (hb hby at_311) (by decide) (by decide) ?_
                exact kk)
              have Xb310 : Stand p l e room_1 (s.setVm T286.vm) m #[(.int p1), (.int p2), (.long q3)] below meth c T307 _ _ _ := X307
              obtain ⟨fs, hr, hrun, hended, hW⟩ := leaveW Xb310 hS286 hku307 (v := some (.int (1 : Int32))) (fun h => by rw [Bd.returns] at h; cases h)
              refine ⟨_, _, k308 _ ?_, hrun, hended, _, _, rfl, ?_, hW.1, hW.2.1, hW.2.2.1, hW.2.2.2.mono (by decide) (by decide)⟩
              · show Steps p.tables e below (T307.setTop (mkF m 315 #[.val (.int p1), .val (.int p2), .val (.long q3), .second, .val (.ref a4), .val (.int vl), .val (.int ch8), .val (.int ch10), .val (.int ch12), .val (.int ch14), .val (.int ch16), .val (.int ch18), .val (.int vc6), .val (.ref b205), .val (.ref a_SEEDED)] [(.int (1 : Int32))])) _
                exact retN X307 hx (t := .boolean) Bd.returns (by simp) (hb hby at_315) hr
              · show Q0 Z p1 p2 q3 a__VALUES kV a_LISTED a_SEEDED s_LISTED t_LISTED kL s_SEEDED t_SEEDED kS cs fm h0 n0 _ T307.heap _
                exact ⟨rfl, N307⟩
          · have k311 : Go p e below (s₁.setTop (entryFrame m #[(.int p1), (.int p2), (.long q3)] maxLocals)) (T283.setTop (mkF m 271 #[.val (.int p1), .val (.int p2), .val (.long q3), .second, .val (.ref a4), .val (.int vl), .val (.int ch8), .val (.int ch10), .val (.int ch12), .val (.int ch14), .val (.int ch16), .val (.int ch18), .val (.int vc6), .val (.ref b205), .unset] [])) := fun t kk => k283 t (by
              show Steps p.tables e below (T283.setTop (mkF m 268 #[.val (.int p1), .val (.int p2), .val (.long q3), .second, .val (.ref a4), .val (.int vl), .val (.int ch8), .val (.int ch10), .val (.int ch12), .val (.int ch14), .val (.int ch16), .val (.int ch18), .val (.int vc6), .val (.ref b205), .unset] [(.int vq283)])) _
              refine XS.ifNo X283.here hx rfl (hb hby at_268) rfl ((if0 _ _).trans (feq hc268_284).1) ?_
              exact kk)
            obtain ⟨T312, X312, e312, st312⟩ := getS2 X283 hx hZ4 hown4 (host := "") (Or.inl (hw _ (List.mem_of_getElem? (i := 95) rfl))) Via.refl e283 (own_stakeep S_LISTED K273) (g := (mkF m 271 #[.val (.int p1), .val (.int p2), .val (.long q3), .second, .val (.ref a4), .val (.int vl), .val (.int ch8), .val (.int ch10), .val (.int ch12), .val (.int ch14), .val (.int ch16), .val (.int ch18), .val (.int vc6), .val (.ref b205), .unset] [])) rfl (hb hby at_271)
            have k312 : Go p e below (s₁.setTop (entryFrame m #[(.int p1), (.int p2), (.long q3)] maxLocals)) (T312.setTop (mkF m 274 #[.val (.int p1), .val (.int p2), .val (.long q3), .second, .val (.ref a4), .val (.int vl), .val (.int ch8), .val (.int ch10), .val (.int ch12), .val (.int ch14), .val (.int ch16), .val (.int ch18), .val (.int vc6), .val (.ref b205), .unset] [(.ref a_LISTED)])) := fun t kk => k311 t (st312 t kk)
            have k313 : Go p e below (s₁.setTop (entryFrame m #[(.int p1), (.int p2), (.long q3)] maxLocals)) (T312.setTop (mkF m 302 #[.val (.int p1), .val (.int p2), .val (.long q3), .second, .val (.ref a4), .val (.int vl), .val (.int ch8), .val (.int ch10), .val (.int ch12), .val (.int ch14), .val (.int ch16), .val (.int ch18), .val (.int vc6), .val (.ref b205), .val (.ref a_LISTED)] [(.ref b205)])) := fun t kk => k312 t (by
              show Steps p.tables e below (T312.setTop (mkF m 274 #[.val (.int p1), .val (.int p2), .val (.long q3), .second, .val (.ref a4), .val (.int vl), .val (.int ch8), .val (.int ch10), .val (.int ch12), .val (.int ch14), .val (.int ch16), .val (.int ch18), .val (.int vc6), .val (.ref b205), .unset] [(.ref a_LISTED)])) _
              refine XS.astore X312.here hx rfl (hb hby at_274) rfl rfl (l' := #[.val (.int p1), .val (.int p2), .val (.long q3), .second, .val (.ref a4), .val (.int vl), .val (.int ch8), .val (.int ch10), .val (.int ch12), .val (.int ch14), .val (.int ch16), .val (.int ch18), .val (.int vc6), .val (.ref b205), .val (.ref a_LISTED)]) rfl ?_
              show Steps p.tables e below (T312.setTop (mkF m 276 #[.val (.int p1), .val (.int p2), .val (.long q3), .second, .val (.ref a4), .val (.int vl), .val (.int ch8), .val (.int ch10), .val (.int ch12), .val (.int ch14), .val (.int ch16), .val (.int ch18), .val (.int vc6), .val (.ref b205), .val (.ref a_LISTED)] [])) _
              refine XS.goto X312.here hx rfl (pc0 := 276) (pc' := 300) rfl (hb hby at_276) (by decide) (by decide) ?_
              show Steps p.tables e below (T312.setTop (mkF m 300 #[.val (.int p1), .val (.int p2), .val (.long q3), .second, .val (.ref a4), .val (.int vl), .val (.int ch8), .val (.int ch10), .val (.int ch12), .val (.int ch14), .val (.int ch16), .val (.int ch18), .val (.int vc6), .val (.ref b205), .val (.ref a_LISTED)] [])) _
              refine XS.aload X312.here hx rfl (hb hby at_300) rfl rfl ?_
              exact kk)
            obtain ⟨_, _, ⟨T314, L314, kx314, nx314⟩, -, X314, ⟨Lc314, hQ314, l314, y314, z314⟩, st314⟩ := Jvm.LawKit.callS X312 hx (y := (⟨"com/example/tabularium/tabularium/record/Deal", "named", "(Ljava/lang/String;)Lcom/example/tabularium/tabularium/record/Deal;"⟩ : MethodName)) hown4 (mvT hZ4 (hw _ (List.mem_of_getElem? (i := 61) rfl))) (mvT hZ4 (hw _ (List.mem_of_getElem? (i := 62) rfl))) (mvT hZ4 (hw _ (List.mem_of_getElem? (i := 63) rfl))) (mvT hZ4 (hw _ (List.mem_of_getElem? (i := 64) rfl))) (by decide) (backOf (W := 0) (rmD l Z a0 hw [] b205 a__VALUES kV a_LISTED a_SEEDED s_LISTED t_LISTED kL s_SEEDED t_SEEDED kS (([ch8, ch10, ch12, ch14, ch16, ch18] : List Int32).map (nar .char)) t273 kb273 (6 : Int32) _ cs T273.heap n0 Zs273 (own_stakeep SV K273) (PAV.keep K273 nin0) (PEV.keep K273) (f_LISTED.keep K273 nin0) (es_LISTED.keep K273) (cs_LISTED.keep K273 nin0) (vs_LISTED.keep K273 nin0) (as_LISTED.keep K273 nin0) (f_SEEDED.keep K273 nin0) (es_SEEDED.keep K273) (cs_SEEDED.keep K273 nin0) (vs_SEEDED.keep K273 nin0) (as_SEEDED.keep K273 nin0) x273_e x273_v x273_c x273_a hcs273 (own_up _ hps273) (Nat.le_of_ble_eq_true rfl) (own_stakeep S1 K273) hs1) hZ4 (hw _ (List.mem_of_getElem? (i := 64) rfl)) (hw _ (List.mem_of_getElem? (i := 63) rfl)) (by decide) (by decide)) (g := (mkF m 302 #[.val (.int p1), .val (.int p2), .val (.long q3), .second, .val (.ref a4), .val (.int vl), .val (.int ch8), .val (.int ch10), .val (.int ch12), .val (.int ch14), .val (.int ch16), .val (.int ch18), .val (.int vc6), .val (.ref b205), .val (.ref a_LISTED)] [(.ref b205)])) rfl (by rw [hml]; rfl) (argsL := [(.ref b205)]) (rest := []) (lenOf pd_6 rfl) rfl (by show 2 * 0 + _ ≤ _; exact Nat.le_of_eq rfl) (hb hby at_302) (fun _ _ => ⟨rfl, e312, (by decide : 5 + 1 ≤ _), (by decide : 44 + 2 ≤ _)⟩)
            dsimp only [Pt.U, Pt.locs, Pt.cells, Pt.slots] at X314 l314 y314 z314 st314 hQ314
            subst l314 y314 z314
            obtain ⟨hv314, N314q, K314q⟩ := hQ314
            rw [show own_named (([ch8, ch10, ch12, ch14, ch16, ch18] : List Int32).map (nar .char)) a_LISTED a_SEEDED = .ref a_LISTED from (by unfold own_named; rw [if_pos (own_yes hvq283 hc268_284).symm])] at hv314
            subst hv314
            have N314 := Fr.app N273 N314q
            have hku314 := Nat.le_trans hku273 K314q.1
            have K314 := (K273).trans K314q all0
            have Zs314 : n0 ≤ T314.heap.size := Nat.le_trans Zs273 K314q.1
            have k314 : Go p e below (s₁.setTop (entryFrame m #[(.int p1), (.int p2), (.long q3)] maxLocals)) (T314.setTop (mkF m 305 #[.val (.int p1), .val (.int p2), .val (.long q3), .second, .val (.ref a4), .val (.int vl), .val (.int ch8), .val (.int ch10), .val (.int ch12), .val (.int ch14), .val (.int ch16), .val (.int ch18), .val (.int vc6), .val (.ref b205), .val (.ref a_LISTED)] [(.ref a_LISTED)])) := fun t kk => k313 t (st314 t kk)
            have k315 : Go p e below (s₁.setTop (entryFrame m #[(.int p1), (.int p2), (.long q3)] maxLocals)) (T314.setTop (mkF m 315 #[.val (.int p1), .val (.int p2), .val (.long q3), .second, .val (.ref a4), .val (.int vl), .val (.int ch8), .val (.int ch10), .val (.int ch12), .val (.int ch14), .val (.int ch16), .val (.int ch18), .val (.int vc6), .val (.ref b205), .val (.ref a_LISTED)] [(.int (1 : Int32))])) := fun t kk => k314 t (by
              show Steps p.tables e below (T314.setTop (mkF m 305 #[.val (.int p1), .val (.int p2), .val (.long q3), .second, .val (.ref a4), .val (.int vl), .val (.int ch8), .val (.int ch10), .val (.int ch12), .val (.int ch14), .val (.int ch16), .val (.int ch18), .val (.int vc6), .val (.ref b205), .val (.ref a_LISTED)] [(.ref a_LISTED)])) _
              refine XS.aload X314.here hx rfl (hb hby at_305) rfl rfl ?_
              show Steps p.tables e below (T314.setTop (mkF m 307 #[.val (.int p1), .val (.int p2), .val (.long q3), .second, .val (.ref a4), .val (.int vl), .val (.int ch8), .val (.int ch10), .val (.int ch12), .val (.int ch14), .val (.int ch16), .val (.int ch18), .val (.int vc6), .val (.ref b205), .val (.ref a_LISTED)] [(.ref a_LISTED), (.ref a_LISTED)])) _
              refine Jvm.RoadKit.acmp (g := (mkF m 307 #[.val (.int p1), .val (.int p2), .val (.long q3), .second, .val (.ref a4), .val (.int vl), .val (.int ch8), .val (.int ch10), .val (.int ch12), .val (.int ch14), .val (.int ch16), .val (.int ch18), .val (.int vc6), .val (.ref b205), .val (.ref a_LISTED)] [(.ref a_LISTED), (.ref a_LISTED)])) X314 hx rfl rfl rfl (pc0 := 307) (pc' := 310) (same := true) rfl (hb hby at_307) rfl (decide_eq_true (rfl : (Value.ref a_LISTED) = (Value.ref a_LISTED))) (by decide) (by decide) ?_
              show Steps p.tables e below (T314.setTop (mkF m 310 #[.val (.int p1), .val (.int p2), .val (.long q3), .second, .val (.ref a4), .val (.int vl), .val (.int ch8), .val (.int ch10), .val (.int ch12), .val (.int ch14), .val (.int ch16), .val (.int ch18), .val (.int vc6), .val (.ref b205), .val (.ref a_LISTED)] [])) _
              refine XS.iconst X314.here hx rfl (hb hby at_310) ?_
              show Steps p.tables e below (T314.setTop (mkF m 311 #[.val (.int p1), .val (.int p2), .val (.long q3), .second, .val (.ref a4), .val (.int vl), .val (.int ch8), .val (.int ch10), .val (.int ch12), .val (.int ch14), .val (.int ch16), .val (.int ch18), .val (.int vc6), .val (.ref b205), .val (.ref a_LISTED)] [(.int (1 : Int32))])) _
              refine XS.goto X314.here hx rfl (pc0 := 311) (pc' := 315) rfl (hb hby at_311) (by decide) (by decide) ?_
              exact kk)
            have Xb317 : Stand p l e room_1 (s.setVm T4.vm) m #[(.int p1), (.int p2), (.long q3)] below meth c T314 _ _ _ := X314
            obtain ⟨fs, hr, hrun, hended, hW⟩ := leaveW Xb317 hS4 hku314 (v := some (.int (1 : Int32))) (fun h => by rw [Bd.returns] at h; cases h)
            refine ⟨_, _, k315 _ ?_, hrun, hended, _, _, rfl, ?_, hW.1, hW.2.1, hW.2.2.1, hW.2.2.2.mono (by decide) (by decide)⟩
            · show Steps p.tables e below (T314.setTop (mkF m 315 #[.val (.int p1), .val (.int p2), .val (.long q3), .second, .val (.ref a4), .val (.int vl), .val (.int ch8), .val (.int ch10), .val (.int ch12), .val (.int ch14), .val (.int ch16), .val (.int ch18), .val (.int vc6), .val (.ref b205), .val (.ref a_LISTED)] [(.int (1 : Int32))])) _
              exact retN X314 hx (t := .boolean) Bd.returns (by simp) (hb hby at_315) hr
            · show Q0 Z p1 p2 q3 a__VALUES kV a_LISTED a_SEEDED s_LISTED t_LISTED kL s_SEEDED t_SEEDED kS cs fm h0 n0 _ T314.heap _
              exact ⟨rfl, N314⟩
        · have k318 : Go p e below (s₁.setTop (entryFrame m #[(.int p1), (.int p2), (.long q3)] maxLocals)) (T18.setTop (mkF m 212 #[.val (.int p1), .val (.int p2), .val (.long q3), .second, .val (.ref a4), .val (.int vl), .val (.int ch8), .val (.int ch10), .val (.int ch12), .val (.int ch14), .val (.int ch16), .val (.int ch18), .val (.int vc6), .unset, .unset] [])) := fun t kk => k202 t (by
            show Steps p.tables e below (T18.setTop (mkF m 163 #[.val (.int p1), .val (.int p2), .val (.long q3), .second, .val (.ref a4), .val (.int vl), .val (.int ch8), .val (.int ch10), .val (.int ch12), .val (.int ch14), .val (.int ch16), .val (.int ch18), .val (.int vc6), .unset, .unset] [(.int (2 : Int32)), (.int vl)])) _
            refine XS.icmpYes X18.here hx rfl (pc0 := 163) (pc' := 212) rfl (hb hby at_163) rfl (feq hc163_203).2 (by decide) (by decide) ?_
            exact kk)
          obtain ⟨T319, h319, X319, e319, E319, A319, D319, -, st319⟩ := newO X18 hx hZ4 hown4 (hw _ (List.mem_of_getElem? (i := 38) rfl)) (hw _ (List.mem_of_getElem? (i := 2) rfl)) (hw _ (List.mem_of_getElem? (i := 1) rfl)) e18 (g := (mkF m 212 #[.val (.int p1), .val (.int p2), .val (.long q3), .second, .val (.ref a4), .val (.int vl), .val (.int ch8), .val (.int ch10), .val (.int ch12), .val (.int ch14), .val (.int ch16), .val (.int ch18), .val (.int vc6), .unset, .unset] [])) rfl (hb hby at_212) (by decide) (by decide)
          obtain ⟨b319, g319⟩ : ∃ z, z = (h4).size := ⟨_, rfl⟩
          rw [← g319] at A319 D319 st319
          have ne_a4_b319 : a4 ≠ b319 := Nat.ne_of_lt (Nat.lt_of_lt_of_le xe4.lt (Nat.le_of_eq g319.symm))
          have ne_b4_b319 : b4 ≠ b319 := Nat.ne_of_lt (Nat.lt_of_lt_of_le V4.lt (Nat.le_of_eq g319.symm))
          have sz_b319 : h0.size ≤ b319 := Nat.le_trans K4.1 (Nat.le_of_eq g319.symm)
          have ge_b319 : n0 ≤ b319 := Nat.le_trans Zs4 (Nat.le_of_eq g319.symm)
          have f320 := xe4.ext E319
          have f321 := xc4.ext E319
          have f322 := xv4.ext E319
          have f323 := V4.ext E319
          have sf319_b319 := Safe.ext E319 C4.1 (Safe.new (x := b319) (Nat.le_of_eq g319.symm))
          have C319 := C4.trans (CHr.ext E319 C4.1)
          have hku319 := Nat.le_trans hk4 E319.1
          have K319 := (K4).ext E319
          have Zs319 : n0 ≤ h319.size := Nat.le_trans Zs4 E319.1
          have F319_value : Fld Z h319 b319 "java/lang/String" "value" "[B" .null := D319 (Or.inr (hw _ (List.mem_of_getElem? (i := 4) rfl))) (ty := (.array .byte)) (by decide)
          have F319_coder : Fld Z h319 b319 "java/lang/String" "coder" "B" (.int (0 : Int32)) := D319 (Or.inr (hw _ (List.mem_of_getElem? (i := 5) rfl))) (ty := .byte) (by decide)
          have k319 : Go p e below (s₁.setTop (entryFrame m #[(.int p1), (.int p2), (.long q3)] maxLocals)) (T319.setTop (mkF m 215 #[.val (.int p1), .val (.int p2), .val (.long q3), .second, .val (.ref a4), .val (.int vl), .val (.int ch8), .val (.int ch10), .val (.int ch12), .val (.int ch14), .val (.int ch16), .val (.int ch18), .val (.int vc6), .unset, .unset] [(.ref b319)])) := fun t kk => k318 t (st319 t kk)
          have k324 : Go p e below (s₁.setTop (entryFrame m #[(.int p1), (.int p2), (.long q3)] maxLocals)) (T319.setTop (mkF m 218 #[.val (.int p1), .val (.int p2), .val (.long q3), .second, .val (.ref a4), .val (.int vl), .val (.int ch8), .val (.int ch10), .val (.int ch12), .val (.int ch14), .val (.int ch16), .val (.int ch18), .val (.int vc6), .unset, .unset] [(.int (7 : Int32)), (.ref b319), (.ref b319)])) := fun t kk => k319 t (by
            show Steps p.tables e below (T319.setTop (mkF m 215 #[.val (.int p1), .val (.int p2), .val (.long q3), .second, .val (.ref a4), .val (.int vl), .val (.int ch8), .val (.int ch10), .val (.int ch12), .val (.int ch14), .val (.int ch16), .val (.int ch18), .val (.int vc6), .unset, .unset] [(.ref b319)])) _
            refine XS.dup X319.here hx rfl (hb hby at_215) rfl rfl ?_
            show Steps p.tables e below (T319.setTop (mkF m 216 #[.val (.int p1), .val (.int p2), .val (.long q3), .second, .val (.ref a4), .val (.int vl), .val (.int ch8), .val (.int ch10), .val (.int ch12), .val (.int ch14), .val (.int ch16), .val (.int ch18), .val (.int vc6), .unset, .unset] [(.ref b319), (.ref b319)])) _
            refine XS.bipush X319.here hx rfl (hb hby at_216) ?_
            exact kk)
          obtain ⟨T325, h325, kc325, X325, e325, E325, A325, st325⟩ := newP X319 hx hZ4 (hw _ (List.mem_of_getElem? (i := 39) rfl)) e319 (g := (mkF m 218 #[.val (.int p1), .val (.int p2), .val (.long q3), .second, .val (.ref a4), .val (.int vl), .val (.int ch8), .val (.int ch10), .val (.int ch12), .val (.int ch14), .val (.int ch16), .val (.int ch18), .val (.int vc6), .unset, .unset] [(.int (7 : Int32)), (.ref b319), (.ref b319)])) rfl (hb hby at_218) rfl (by decide) (cap := 7) (by decide) (by decide) (by decide) (by decide)
          obtain ⟨b325, g325⟩ : ∃ z, z = (h319).size := ⟨_, rfl⟩
          rw [← g325] at A325 st325
          have ne_a4_b325 : a4 ≠ b325 := Nat.ne_of_lt (Nat.lt_of_lt_of_le f320.lt (Nat.le_of_eq g325.symm))
          have ne_b319_b325 : b319 ≠ b325 := Nat.ne_of_lt (Nat.lt_of_lt_of_le F319_value.lt (Nat.le_of_eq g325.symm))
          have ne_b4_b325 : b4 ≠ b325 := Nat.ne_of_lt (Nat.lt_of_lt_of_le f323.lt (Nat.le_of_eq g325.symm))
          have sz_b325 : h0.size ≤ b325 := Nat.le_trans K319.1 (Nat.le_of_eq g325.symm)
          have ge_b325 : n0 ≤ b325 := Nat.le_trans Zs319 (Nat.le_of_eq g325.symm)
          have f326 := f320.ext E325
          have f327 := f321.ext E325
          have f328 := f322.ext E325
          have f329 := f323.ext E325
          have f330 := F319_value.ext E325
          have f331 := F319_coder.ext E325
          have f332 := A319.ext E325
          have sf325_b319 := Safe.ext E325 C319.1 sf319_b319
          have sf325_b325 := Safe.ext E325 C319.1 (Safe.new (x := b325) (Nat.le_of_eq g325.symm))
          have C325 := C319.trans (CHr.ext E325 C319.1)
          have hku325 := Nat.le_trans hku319 E325.1
          have K325 := (K319).ext E325
          have Zs325 : n0 ≤ h325.size := Nat.le_trans Zs319 E325.1
          have V325 : Arv Z h325 b325 kc325 .char (7 : Int32) [(.int (0 : Int32)), (.int (0 : Int32)), (.int (0 : Int32)), (.int (0 : Int32)), (.int (0 : Int32)), (.int (0 : Int32)), (.int (0 : Int32))] (.int (0 : Int32)) := (Arv.new A325 (by decide)).pad (pad_rep [] (.int (0 : Int32)) 7)
          have k325 : Go p e below (s₁.setTop (entryFrame m #[(.int p1), (.int p2), (.long q3)] maxLocals)) (T325.setTop (mkF m 220 #[.val (.int p1), .val (.int p2), .val (.long q3), .second, .val (.ref a4), .val (.int vl), .val (.int ch8), .val (.int ch10), .val (.int ch12), .val (.int ch14), .val (.int ch16), .val (.int ch18), .val (.int vc6), .unset, .unset] [(.ref b325), (.ref b319), (.ref b319)])) := fun t kk => k324 t (st325 t kk)
          have k333 : Go p e below (s₁.setTop (entryFrame m #[(.int p1), (.int p2), (.long q3)] maxLocals)) (T325.setTop (mkF m 224 #[.val (.int p1), .val (.int p2), .val (.long q3), .second, .val (.ref a4), .val (.int vl), .val (.int ch8), .val (.int ch10), .val (.int ch12), .val (.int ch14), .val (.int ch16), .val (.int ch18), .val (.int vc6), .unset, .unset] [(.int ch8), (.int (0 : Int32)), (.ref b325), (.ref b325), (.ref b319), (.ref b319)])) := fun t kk => k325 t (by
            show Steps p.tables e below (T325.setTop (mkF m 220 #[.val (.int p1), .val (.int p2), .val (.long q3), .second, .val (.ref a4), .val (.int vl), .val (.int ch8), .val (.int ch10), .val (.int ch12), .val (.int ch14), .val (.int ch16), .val (.int ch18), .val (.int vc6), .unset, .unset] [(.ref b325), (.ref b319), (.ref b319)])) _
            refine XS.dup X325.here hx rfl (hb hby at_220) rfl rfl ?_
            show Steps p.tables e below (T325.setTop (mkF m 221 #[.val (.int p1), .val (.int p2), .val (.long q3), .second, .val (.ref a4), .val (.int vl), .val (.int ch8), .val (.int ch10), .val (.int ch12), .val (.int ch14), .val (.int ch16), .val (.int ch18), .val (.int vc6), .unset, .unset] [(.ref b325), (.ref b325), (.ref b319), (.ref b319)])) _
            refine XS.iconst X325.here hx rfl (hb hby at_221) ?_
            show Steps p.tables e below (T325.setTop (mkF m 222 #[.val (.int p1), .val (.int p2), .val (.long q3), .second, .val (.ref a4), .val (.int vl), .val (.int ch8), .val (.int ch10), .val (.int ch12), .val (.int ch14), .val (.int ch16), .val (.int ch18), .val (.int vc6), .unset, .unset] [(.int (0 : Int32)), (.ref b325), (.ref b325), (.ref b319), (.ref b319)])) _
            refine XS.iload X325.here hx rfl (hb hby at_222) rfl ?_
            exact kk)
          obtain ⟨cl334, Ar334, q334, S334, G334, H334, J334⟩ := V325
          have hin334 : ¬ ((0 : Int32) < 0 ∨ cl334.slots.size ≤ ((0 : Int32)).toNatClampNeg) := inb_of S334 ⟨by decide, by decide⟩
          obtain ⟨T334, h334, X334, e334, W334, st334⟩ := stC X325 hx hZ4 e325 Ar334 (j := (0 : Int32)) hin334 (g := (mkF m 224 #[.val (.int p1), .val (.int p2), .val (.long q3), .second, .val (.ref a4), .val (.int vl), .val (.int ch8), .val (.int ch10), .val (.int ch12), .val (.int ch14), .val (.int ch16), .val (.int ch18), .val (.int vc6), .unset, .unset] [(.int ch8), (.int (0 : Int32)), (.ref b325), (.ref b325), (.ref b319), (.ref b319)])) rfl rfl (hb hby at_224)
          have V334 := Arv.set Ar334 q334 S334 G334 H334 J334 (fits_nar_char _) W334 0 rfl (Nat.le_of_ble_eq_true rfl)
          have N334 := Fr.snoc X334 N0 ge_b325
          have hku334 := Nat.le_trans hku325 (Keep.of_wr W334).1
          have sf334_b319 := Safe.wr W334 sf325_b325 C325.1 sf325_b319
          have sf334_b325 := Safe.wr W334 sf325_b325 C325.1 sf325_b325
          have C334 := C325.trans (CHr.wr W334 sf325_b325 C325.1)
          have f335 := f326.wr W334
          have f336 := f327.other W334 (Or.inl ne_a4_b325)
          have f337 := f328.other W334 (Or.inl ne_a4_b325)
          have f338 := f329.other W334 ne_b4_b325
          have f339 := f330.other W334 (Or.inl ne_b319_b325)
          have f340 := f331.other W334 (Or.inl ne_b319_b325)
          have f341 := f332.wr W334
          have K334 := (K325).wr W334 (Or.inr sz_b325)
          have Zs334 : n0 ≤ h334.size := Nat.le_trans Zs325 (Keep.of_wr W334).1
          have k334 : Go p e below (s₁.setTop (entryFrame m #[(.int p1), (.int p2), (.long q3)] maxLocals)) (T334.setTop (mkF m 225 #[.val (.int p1), .val (.int p2), .val (.long q3), .second, .val (.ref a4), .val (.int vl), .val (.int ch8), .val (.int ch10), .val (.int ch12), .val (.int ch14), .val (.int ch16), .val (.int ch18), .val (.int vc6), .unset, .unset] [(.ref b325), (.ref b319), (.ref b319)])) := fun t kk => k333 t (st334 t kk)
          have k342 : Go p e below (s₁.setTop (entryFrame m #[(.int p1), (.int p2), (.long q3)] maxLocals)) (T334.setTop (mkF m 229 #[.val (.int p1), .val (.int p2), .val (.long q3), .second, .val (.ref a4), .val (.int vl), .val (.int ch8), .val (.int ch10), .val (.int ch12), .val (.int ch14), .val (.int ch16), .val (.int ch18), .val (.int vc6), .unset, .unset] [(.int ch10), (.int (1 : Int32)), (.ref b325), (.ref b325), (.ref b319), (.ref b319)])) := fun t kk => k334 t (by
            show Steps p.tables e below (T334.setTop (mkF m 225 #[.val (.int p1), .val (.int p2), .val (.long q3), .second, .val (.ref a4), .val (.int vl), .val (.int ch8), .val (.int ch10), .val (.int ch12), .val (.int ch14), .val (.int ch16), .val (.int ch18), .val (.int vc6), .unset, .unset] [(.ref b325), (.ref b319), (.ref b319)])) _
            refine XS.dup X334.here hx rfl (hb hby at_225) rfl rfl ?_
            show Steps p.tables e below (T334.setTop (mkF m 226 #[.val (.int p1), .val (.int p2), .val (.long q3), .second, .val (.ref a4), .val (.int vl), .val (.int ch8), .val (.int ch10), .val (.int ch12), .val (.int ch14), .val (.int ch16), .val (.int ch18), .val (.int vc6), .unset, .unset] [(.ref b325), (.ref b325), (.ref b319), (.ref b319)])) _
            refine XS.iconst X334.here hx rfl (hb hby at_226) ?_
            show Steps p.tables e below (T334.setTop (mkF m 227 #[.val (.int p1), .val (.int p2), .val (.long q3), .second, .val (.ref a4), .val (.int vl), .val (.int ch8), .val (.int ch10), .val (.int ch12), .val (.int ch14), .val (.int ch16), .val (.int ch18), .val (.int vc6), .unset, .unset] [(.int (1 : Int32)), (.ref b325), (.ref b325), (.ref b319), (.ref b319)])) _
            refine XS.iload X334.here hx rfl (hb hby at_227) rfl ?_
            exact kk)
          obtain ⟨cl343, Ar343, q343, S343, G343, H343, J343⟩ := V334
          have hin343 : ¬ ((1 : Int32) < 0 ∨ cl343.slots.size ≤ ((1 : Int32)).toNatClampNeg) := inb_of S343 ⟨by decide, by decide⟩
          obtain ⟨T343, h343, X343, e343, W343, st343⟩ := stC X334 hx hZ4 e334 Ar343 (j := (1 : Int32)) hin343 (g := (mkF m 229 #[.val (.int p1), .val (.int p2), .val (.long q3), .second, .val (.ref a4), .val (.int vl), .val (.int ch8), .val (.int ch10), .val (.int ch12), .val (.int ch14), .val (.int ch16), .val (.int ch18), .val (.int vc6), .unset, .unset] [(.int ch10), (.int (1 : Int32)), (.ref b325), (.ref b325), (.ref b319), (.ref b319)])) rfl rfl (hb hby at_229)
          have V343 := Arv.set Ar343 q343 S343 G343 H343 J343 (fits_nar_char _) W343 1 rfl (Nat.le_of_ble_eq_true rfl)
          have N343 := Fr.snoc X343 N334 ge_b325
          have hku343 := Nat.le_trans hku334 (Keep.of_wr W343).1
          have sf343_b319 := Safe.wr W343 sf334_b325 C334.1 sf334_b319
          have sf343_b325 := Safe.wr W343 sf334_b325 C334.1 sf334_b325
          have C343 := C334.trans (CHr.wr W343 sf334_b325 C334.1)
          have f344 := f335.wr W343
          have f345 := f336.other W343 (Or.inl ne_a4_b325)
          have f346 := f337.other W343 (Or.inl ne_a4_b325)
          have f347 := f338.other W343 ne_b4_b325
          have f348 := f339.other W343 (Or.inl ne_b319_b325)
          have f349 := f340.other W343 (Or.inl ne_b319_b325)
          have f350 := f341.wr W343
          have K343 := (K334).wr W343 (Or.inr sz_b325)
          have Zs343 : n0 ≤ h343.size := Nat.le_trans Zs334 (Keep.of_wr W343).1
          have k343 : Go p e below (s₁.setTop (entryFrame m #[(.int p1), (.int p2), (.long q3)] maxLocals)) (T343.setTop (mkF m 230 #[.val (.int p1), .val (.int p2), .val (.long q3), .second, .val (.ref a4), .val (.int vl), .val (.int ch8), .val (.int ch10), .val (.int ch12), .val (.int ch14), .val (.int ch16), .val (.int ch18), .val (.int vc6), .unset, .unset] [(.ref b325), (.ref b319), (.ref b319)])) := fun t kk => k342 t (st343 t kk)
          have k351 : Go p e below (s₁.setTop (entryFrame m #[(.int p1), (.int p2), (.long q3)] maxLocals)) (T343.setTop (mkF m 234 #[.val (.int p1), .val (.int p2), .val (.long q3), .second, .val (.ref a4), .val (.int vl), .val (.int ch8), .val (.int ch10), .val (.int ch12), .val (.int ch14), .val (.int ch16), .val (.int ch18), .val (.int vc6), .unset, .unset] [(.int ch12), (.int (2 : Int32)), (.ref b325), (.ref b325), (.ref b319), (.ref b319)])) := fun t kk => k343 t (by
            show Steps p.tables e below (T343.setTop (mkF m 230 #[.val (.int p1), .val (.int p2), .val (.long q3), .second, .val (.ref a4), .val (.int vl), .val (.int ch8), .val (.int ch10), .val (.int ch12), .val (.int ch14), .val (.int ch16), .val (.int ch18), .val (.int vc6), .unset, .unset] [(.ref b325), (.ref b319), (.ref b319)])) _
            refine XS.dup X343.here hx rfl (hb hby at_230) rfl rfl ?_
            show Steps p.tables e below (T343.setTop (mkF m 231 #[.val (.int p1), .val (.int p2), .val (.long q3), .second, .val (.ref a4), .val (.int vl), .val (.int ch8), .val (.int ch10), .val (.int ch12), .val (.int ch14), .val (.int ch16), .val (.int ch18), .val (.int vc6), .unset, .unset] [(.ref b325), (.ref b325), (.ref b319), (.ref b319)])) _
            refine XS.iconst X343.here hx rfl (hb hby at_231) ?_
            show Steps p.tables e below (T343.setTop (mkF m 232 #[.val (.int p1), .val (.int p2), .val (.long q3), .second, .val (.ref a4), .val (.int vl), .val (.int ch8), .val (.int ch10), .val (.int ch12), .val (.int ch14), .val (.int ch16), .val (.int ch18), .val (.int vc6), .unset, .unset] [(.int (2 : Int32)), (.ref b325), (.ref b325), (.ref b319), (.ref b319)])) _
            refine XS.iload X343.here hx rfl (hb hby at_232) rfl ?_
            exact kk)
          obtain ⟨cl352, Ar352, q352, S352, G352, H352, J352⟩ := V343
          have hin352 : ¬ ((2 : Int32) < 0 ∨ cl352.slots.size ≤ ((2 : Int32)).toNatClampNeg) := inb_of S352 ⟨by decide, by decide⟩
          obtain ⟨T352, h352, X352, e352, W352, st352⟩ := stC X343 hx hZ4 e343 Ar352 (j := (2 : Int32)) hin352 (g := (mkF m 234 #[.val (.int p1), .val (.int p2), .val (.long q3), .second, .val (.ref a4), .val (.int vl), .val (.int ch8), .val (.int ch10), .val (.int ch12), .val (.int ch14), .val (.int ch16), .val (.int ch18), .val (.int vc6), .unset, .unset] [(.int ch12), (.int (2 : Int32)), (.ref b325), (.ref b325), (.ref b319), (.ref b319)])) rfl rfl (hb hby at_234)
          have V352 := Arv.set Ar352 q352 S352 G352 H352 J352 (fits_nar_char _) W352 2 rfl (Nat.le_of_ble_eq_true rfl)
          have N352 := Fr.snoc X352 N343 ge_b325
          have hku352 := Nat.le_trans hku343 (Keep.of_wr W352).1
          have sf352_b319 := Safe.wr W352 sf343_b325 C343.1 sf343_b319
          have sf352_b325 := Safe.wr W352 sf343_b325 C343.1 sf343_b325
          have C352 := C343.trans (CHr.wr W352 sf343_b325 C343.1)
          have f353 := f344.wr W352
          have f354 := f345.other W352 (Or.inl ne_a4_b325)
          have f355 := f346.other W352 (Or.inl ne_a4_b325)
          have f356 := f347.other W352 ne_b4_b325
          have f357 := f348.other W352 (Or.inl ne_b319_b325)
          have f358 := f349.other W352 (Or.inl ne_b319_b325)
          have f359 := f350.wr W352
          have K352 := (K343).wr W352 (Or.inr sz_b325)
          have Zs352 : n0 ≤ h352.size := Nat.le_trans Zs343 (Keep.of_wr W352).1
          have k352 : Go p e below (s₁.setTop (entryFrame m #[(.int p1), (.int p2), (.long q3)] maxLocals)) (T352.setTop (mkF m 235 #[.val (.int p1), .val (.int p2), .val (.long q3), .second, .val (.ref a4), .val (.int vl), .val (.int ch8), .val (.int ch10), .val (.int ch12), .val (.int ch14), .val (.int ch16), .val (.int ch18), .val (.int vc6), .unset, .unset] [(.ref b325), (.ref b319), (.ref b319)])) := fun t kk => k351 t (st352 t kk)
          have k360 : Go p e below (s₁.setTop (entryFrame m #[(.int p1), (.int p2), (.long q3)] maxLocals)) (T352.setTop (mkF m 239 #[.val (.int p1), .val (.int p2), .val (.long q3), .second, .val (.ref a4), .val (.int vl), .val (.int ch8), .val (.int ch10), .val (.int ch12), .val (.int ch14), .val (.int ch16), .val (.int ch18), .val (.int vc6), .unset, .unset] [(.int ch14), (.int (3 : Int32)), (.ref b325), (.ref b325), (.ref b319), (.ref b319)])) := fun t kk => k352 t (by
            show Steps p.tables e below (T352.setTop (mkF m 235 #[.val (.int p1), .val (.int p2), .val (.long q3), .second, .val (.ref a4), .val (.int vl), .val (.int ch8), .val (.int ch10), .val (.int ch12), .val (.int ch14), .val (.int ch16), .val (.int ch18), .val (.int vc6), .unset, .unset] [(.ref b325), (.ref b319), (.ref b319)])) _
            refine XS.dup X352.here hx rfl (hb hby at_235) rfl rfl ?_
            show Steps p.tables e below (T352.setTop (mkF m 236 #[.val (.int p1), .val (.int p2), .val (.long q3), .second, .val (.ref a4), .val (.int vl), .val (.int ch8), .val (.int ch10), .val (.int ch12), .val (.int ch14), .val (.int ch16), .val (.int ch18), .val (.int vc6), .unset, .unset] [(.ref b325), (.ref b325), (.ref b319), (.ref b319)])) _
            refine XS.iconst X352.here hx rfl (hb hby at_236) ?_
            show Steps p.tables e below (T352.setTop (mkF m 237 #[.val (.int p1), .val (.int p2), .val (.long q3), .second, .val (.ref a4), .val (.int vl), .val (.int ch8), .val (.int ch10), .val (.int ch12), .val (.int ch14), .val (.int ch16), .val (.int ch18), .val (.int vc6), .unset, .unset] [(.int (3 : Int32)), (.ref b325), (.ref b325), (.ref b319), (.ref b319)])) _
            refine XS.iload X352.here hx rfl (hb hby at_237) rfl ?_
            exact kk)
          obtain ⟨cl361, Ar361, q361, S361, G361, H361, J361⟩ := V352
          have hin361 : ¬ ((3 : Int32) < 0 ∨ cl361.slots.size ≤ ((3 : Int32)).toNatClampNeg) := inb_of S361 ⟨by decide, by decide⟩
          obtain ⟨T361, h361, X361, e361, W361, st361⟩ := stC X352 hx hZ4 e352 Ar361 (j := (3 : Int32)) hin361 (g := (mkF m 239 #[.val (.int p1), .val (.int p2), .val (.long q3), .second, .val (.ref a4), .val (.int vl), .val (.int ch8), .val (.int ch10), .val (.int ch12), .val (.int ch14), .val (.int ch16), .val (.int ch18), .val (.int vc6), .unset, .unset] [(.int ch14), (.int (3 : Int32)), (.ref b325), (.ref b325), (.ref b319), (.ref b319)])) rfl rfl (hb hby at_239)
          have V361 := Arv.set Ar361 q361 S361 G361 H361 J361 (fits_nar_char _) W361 3 rfl (Nat.le_of_ble_eq_true rfl)
          have N361 := Fr.snoc X361 N352 ge_b325
          have hku361 := Nat.le_trans hku352 (Keep.of_wr W361).1
          have sf361_b319 := Safe.wr W361 sf352_b325 C352.1 sf352_b319
          have sf361_b325 := Safe.wr W361 sf352_b325 C352.1 sf352_b325
          have C361 := C352.trans (CHr.wr W361 sf352_b325 C352.1)
          have f362 := f353.wr W361
          have f363 := f354.other W361 (Or.inl ne_a4_b325)
          have f364 := f355.other W361 (Or.inl ne_a4_b325)
          have f365 := f356.other W361 ne_b4_b325
          have f366 := f357.other W361 (Or.inl ne_b319_b325)
          have f367 := f358.other W361 (Or.inl ne_b319_b325)
          have f368 := f359.wr W361
          have K361 := (K352).wr W361 (Or.inr sz_b325)
          have Zs361 : n0 ≤ h361.size := Nat.le_trans Zs352 (Keep.of_wr W361).1
          have k361 : Go p e below (s₁.setTop (entryFrame m #[(.int p1), (.int p2), (.long q3)] maxLocals)) (T361.setTop (mkF m 240 #[.val (.int p1), .val (.int p2), .val (.long q3), .second, .val (.ref a4), .val (.int vl), .val (.int ch8), .val (.int ch10), .val (.int ch12), .val (.int ch14), .val (.int ch16), .val (.int ch18), .val (.int vc6), .unset, .unset] [(.ref b325), (.ref b319), (.ref b319)])) := fun t kk => k360 t (st361 t kk)
          have k369 : Go p e below (s₁.setTop (entryFrame m #[(.int p1), (.int p2), (.long q3)] maxLocals)) (T361.setTop (mkF m 244 #[.val (.int p1), .val (.int p2), .val (.long q3), .second, .val (.ref a4), .val (.int vl), .val (.int ch8), .val (.int ch10), .val (.int ch12), .val (.int ch14), .val (.int ch16), .val (.int ch18), .val (.int vc6), .unset, .unset] [(.int ch16), (.int (4 : Int32)), (.ref b325), (.ref b325), (.ref b319), (.ref b319)])) := fun t kk => k361 t (by
            show Steps p.tables e below (T361.setTop (mkF m 240 #[.val (.int p1), .val (.int p2), .val (.long q3), .second, .val (.ref a4), .val (.int vl), .val (.int ch8), .val (.int ch10), .val (.int ch12), .val (.int ch14), .val (.int ch16), .val (.int ch18), .val (.int vc6), .unset, .unset] [(.ref b325), (.ref b319), (.ref b319)])) _
            refine XS.dup X361.here hx rfl (hb hby at_240) rfl rfl ?_
            show Steps p.tables e below (T361.setTop (mkF m 241 #[.val (.int p1), .val (.int p2), .val (.long q3), .second, .val (.ref a4), .val (.int vl), .val (.int ch8), .val (.int ch10), .val (.int ch12), .val (.int ch14), .val (.int ch16), .val (.int ch18), .val (.int vc6), .unset, .unset] [(.ref b325), (.ref b325), (.ref b319), (.ref b319)])) _
            refine XS.iconst X361.here hx rfl (hb hby at_241) ?_
            show Steps p.tables e below (T361.setTop (mkF m 242 #[.val (.int p1), .val (.int p2), .val (.long q3), .second, .val (.ref a4), .val (.int vl), .val (.int ch8), .val (.int ch10), .val (.int ch12), .val (.int ch14), .val (.int ch16), .val (.int ch18), .val (.int vc6), .unset, .unset] [(.int (4 : Int32)), (.ref b325), (.ref b325), (.ref b319), (.ref b319)])) _
            refine XS.iload X361.here hx rfl (hb hby at_242) rfl ?_
            exact kk)
          obtain ⟨cl370, Ar370, q370, S370, G370, H370, J370⟩ := V361
          have hin370 : ¬ ((4 : Int32) < 0 ∨ cl370.slots.size ≤ ((4 : Int32)).toNatClampNeg) := inb_of S370 ⟨by decide, by decide⟩
          obtain ⟨T370, h370, X370, e370, W370, st370⟩ := stC X361 hx hZ4 e361 Ar370 (j := (4 : Int32)) hin370 (g := (mkF m 244 #[.val (.int p1), .val (.int p2), .val (.long q3), .second, .val (.ref a4), .val (.int vl), .val (.int ch8), .val (.int ch10), .val (.int ch12), .val (.int ch14), .val (.int ch16), .val (.int ch18), .val (.int vc6), .unset, .unset] [(.int ch16), (.int (4 : Int32)), (.ref b325), (.ref b325), (.ref b319), (.ref b319)])) rfl rfl (hb hby at_244)
          have V370 := Arv.set Ar370 q370 S370 G370 H370 J370 (fits_nar_char _) W370 4 rfl (Nat.le_of_ble_eq_true rfl)
          have N370 := Fr.snoc X370 N361 ge_b325
          have hku370 := Nat.le_trans hku361 (Keep.of_wr W370).1
          have sf370_b319 := Safe.wr W370 sf361_b325 C361.1 sf361_b319
          have sf370_b325 := Safe.wr W370 sf361_b325 C361.1 sf361_b325
          have C370 := C361.trans (CHr.wr W370 sf361_b325 C361.1)
          have f371 := f362.wr W370
          have f372 := f363.other W370 (Or.inl ne_a4_b325)
          have f373 := f364.other W370 (Or.inl ne_a4_b325)
          have f374 := f365.other W370 ne_b4_b325
          have f375 := f366.other W370 (Or.inl ne_b319_b325)
          have f376 := f367.other W370 (Or.inl ne_b319_b325)
          have f377 := f368.wr W370
          have K370 := (K361).wr W370 (Or.inr sz_b325)
          have Zs370 : n0 ≤ h370.size := Nat.le_trans Zs361 (Keep.of_wr W370).1
          have k370 : Go p e below (s₁.setTop (entryFrame m #[(.int p1), (.int p2), (.long q3)] maxLocals)) (T370.setTop (mkF m 245 #[.val (.int p1), .val (.int p2), .val (.long q3), .second, .val (.ref a4), .val (.int vl), .val (.int ch8), .val (.int ch10), .val (.int ch12), .val (.int ch14), .val (.int ch16), .val (.int ch18), .val (.int vc6), .unset, .unset] [(.ref b325), (.ref b319), (.ref b319)])) := fun t kk => k369 t (st370 t kk)
          have k378 : Go p e below (s₁.setTop (entryFrame m #[(.int p1), (.int p2), (.long q3)] maxLocals)) (T370.setTop (mkF m 249 #[.val (.int p1), .val (.int p2), .val (.long q3), .second, .val (.ref a4), .val (.int vl), .val (.int ch8), .val (.int ch10), .val (.int ch12), .val (.int ch14), .val (.int ch16), .val (.int ch18), .val (.int vc6), .unset, .unset] [(.int ch18), (.int (5 : Int32)), (.ref b325), (.ref b325), (.ref b319), (.ref b319)])) := fun t kk => k370 t (by
            show Steps p.tables e below (T370.setTop (mkF m 245 #[.val (.int p1), .val (.int p2), .val (.long q3), .second, .val (.ref a4), .val (.int vl), .val (.int ch8), .val (.int ch10), .val (.int ch12), .val (.int ch14), .val (.int ch16), .val (.int ch18), .val (.int vc6), .unset, .unset] [(.ref b325), (.ref b319), (.ref b319)])) _
            refine XS.dup X370.here hx rfl (hb hby at_245) rfl rfl ?_
            show Steps p.tables e below (T370.setTop (mkF m 246 #[.val (.int p1), .val (.int p2), .val (.long q3), .second, .val (.ref a4), .val (.int vl), .val (.int ch8), .val (.int ch10), .val (.int ch12), .val (.int ch14), .val (.int ch16), .val (.int ch18), .val (.int vc6), .unset, .unset] [(.ref b325), (.ref b325), (.ref b319), (.ref b319)])) _
            refine XS.iconst X370.here hx rfl (hb hby at_246) ?_
            show Steps p.tables e below (T370.setTop (mkF m 247 #[.val (.int p1), .val (.int p2), .val (.long q3), .second, .val (.ref a4), .val (.int vl), .val (.int ch8), .val (.int ch10), .val (.int ch12), .val (.int ch14), .val (.int ch16), .val (.int ch18), .val (.int vc6), .unset, .unset] [(.int (5 : Int32)), (.ref b325), (.ref b325), (.ref b319), (.ref b319)])) _
            refine XS.iload X370.here hx rfl (hb hby at_247) rfl ?_
            exact kk)
          obtain ⟨cl379, Ar379, q379, S379, G379, H379, J379⟩ := V370
          have hin379 : ¬ ((5 : Int32) < 0 ∨ cl379.slots.size ≤ ((5 : Int32)).toNatClampNeg) := inb_of S379 ⟨by decide, by decide⟩
          obtain ⟨T379, h379, X379, e379, W379, st379⟩ := stC X370 hx hZ4 e370 Ar379 (j := (5 : Int32)) hin379 (g := (mkF m 249 #[.val (.int p1), .val (.int p2), .val (.long q3), .second, .val (.ref a4), .val (.int vl), .val (.int ch8), .val (.int ch10), .val (.int ch12), .val (.int ch14), .val (.int ch16), .val (.int ch18), .val (.int vc6), .unset, .unset] [(.int ch18), (.int (5 : Int32)), (.ref b325), (.ref b325), (.ref b319), (.ref b319)])) rfl rfl (hb hby at_249)
          have V379 := Arv.set Ar379 q379 S379 G379 H379 J379 (fits_nar_char _) W379 5 rfl (Nat.le_of_ble_eq_true rfl)
          have N379 := Fr.snoc X379 N370 ge_b325
          have hku379 := Nat.le_trans hku370 (Keep.of_wr W379).1
          have sf379_b319 := Safe.wr W379 sf370_b325 C370.1 sf370_b319
          have sf379_b325 := Safe.wr W379 sf370_b325 C370.1 sf370_b325
          have C379 := C370.trans (CHr.wr W379 sf370_b325 C370.1)
          have f380 := f371.wr W379
          have f381 := f372.other W379 (Or.inl ne_a4_b325)
          have f382 := f373.other W379 (Or.inl ne_a4_b325)
          have f383 := f374.other W379 ne_b4_b325
          have f384 := f375.other W379 (Or.inl ne_b319_b325)
          have f385 := f376.other W379 (Or.inl ne_b319_b325)
          have f386 := f377.wr W379
          have K379 := (K370).wr W379 (Or.inr sz_b325)
          have Zs379 : n0 ≤ h379.size := Nat.le_trans Zs370 (Keep.of_wr W379).1
          have k379 : Go p e below (s₁.setTop (entryFrame m #[(.int p1), (.int p2), (.long q3)] maxLocals)) (T379.setTop (mkF m 250 #[.val (.int p1), .val (.int p2), .val (.long q3), .second, .val (.ref a4), .val (.int vl), .val (.int ch8), .val (.int ch10), .val (.int ch12), .val (.int ch14), .val (.int ch16), .val (.int ch18), .val (.int vc6), .unset, .unset] [(.ref b325), (.ref b319), (.ref b319)])) := fun t kk => k378 t (st379 t kk)
          have k387 : Go p e below (s₁.setTop (entryFrame m #[(.int p1), (.int p2), (.long q3)] maxLocals)) (T379.setTop (mkF m 255 #[.val (.int p1), .val (.int p2), .val (.long q3), .second, .val (.ref a4), .val (.int vl), .val (.int ch8), .val (.int ch10), .val (.int ch12), .val (.int ch14), .val (.int ch16), .val (.int ch18), .val (.int vc6), .unset, .unset] [(.int vc6), (.int (6 : Int32)), (.ref b325), (.ref b325), (.ref b319), (.ref b319)])) := fun t kk => k379 t (by
            show Steps p.tables e below (T379.setTop (mkF m 250 #[.val (.int p1), .val (.int p2), .val (.long q3), .second, .val (.ref a4), .val (.int vl), .val (.int ch8), .val (.int ch10), .val (.int ch12), .val (.int ch14), .val (.int ch16), .val (.int ch18), .val (.int vc6), .unset, .unset] [(.ref b325), (.ref b319), (.ref b319)])) _
            refine XS.dup X379.here hx rfl (hb hby at_250) rfl rfl ?_
            show Steps p.tables e below (T379.setTop (mkF m 251 #[.val (.int p1), .val (.int p2), .val (.long q3), .second, .val (.ref a4), .val (.int vl), .val (.int ch8), .val (.int ch10), .val (.int ch12), .val (.int ch14), .val (.int ch16), .val (.int ch18), .val (.int vc6), .unset, .unset] [(.ref b325), (.ref b325), (.ref b319), (.ref b319)])) _
            refine XS.bipush X379.here hx rfl (hb hby at_251) ?_
            show Steps p.tables e below (T379.setTop (mkF m 253 #[.val (.int p1), .val (.int p2), .val (.long q3), .second, .val (.ref a4), .val (.int vl), .val (.int ch8), .val (.int ch10), .val (.int ch12), .val (.int ch14), .val (.int ch16), .val (.int ch18), .val (.int vc6), .unset, .unset] [(.int (6 : Int32)), (.ref b325), (.ref b325), (.ref b319), (.ref b319)])) _
            refine XS.iload X379.here hx rfl (hb hby at_253) rfl ?_
            exact kk)
          obtain ⟨cl388, Ar388, q388, S388, G388, H388, J388⟩ := V379
          have hin388 : ¬ ((6 : Int32) < 0 ∨ cl388.slots.size ≤ ((6 : Int32)).toNatClampNeg) := inb_of S388 ⟨by decide, by decide⟩
          obtain ⟨T388, h388, X388, e388, W388, st388⟩ := stC X379 hx hZ4 e379 Ar388 (j := (6 : Int32)) hin388 (g := (mkF m 255 #[.val (.int p1), .val (.int p2), .val (.long q3), .second, .val (.ref a4), .val (.int vl), .val (.int ch8), .val (.int ch10), .val (.int ch12), .val (.int ch14), .val (.int ch16), .val (.int ch18), .val (.int vc6), .unset, .unset] [(.int vc6), (.int (6 : Int32)), (.ref b325), (.ref b325), (.ref b319), (.ref b319)])) rfl rfl (hb hby at_255)
          have V388 := Arv.set Ar388 q388 S388 G388 H388 J388 (fits_nar_char _) W388 6 rfl (Nat.le_of_ble_eq_true rfl)
          have N388 := Fr.snoc X388 N379 ge_b325
          have hku388 := Nat.le_trans hku379 (Keep.of_wr W388).1
          have sf388_b319 := Safe.wr W388 sf379_b325 C379.1 sf379_b319
          have sf388_b325 := Safe.wr W388 sf379_b325 C379.1 sf379_b325
          have C388 := C379.trans (CHr.wr W388 sf379_b325 C379.1)
          have f389 := f380.wr W388
          have f390 := f381.other W388 (Or.inl ne_a4_b325)
          have f391 := f382.other W388 (Or.inl ne_a4_b325)
          have f392 := f383.other W388 ne_b4_b325
          have f393 := f384.other W388 (Or.inl ne_b319_b325)
          have f394 := f385.other W388 (Or.inl ne_b319_b325)
          have f395 := f386.wr W388
          have K388 := (K379).wr W388 (Or.inr sz_b325)
          have Zs388 : n0 ≤ h388.size := Nat.le_trans Zs379 (Keep.of_wr W388).1
          have k388 : Go p e below (s₁.setTop (entryFrame m #[(.int p1), (.int p2), (.long q3)] maxLocals)) (T388.setTop (mkF m 256 #[.val (.int p1), .val (.int p2), .val (.long q3), .second, .val (.ref a4), .val (.int vl), .val (.int ch8), .val (.int ch10), .val (.int ch12), .val (.int ch14), .val (.int ch16), .val (.int ch18), .val (.int vc6), .unset, .unset] [(.ref b325), (.ref b319), (.ref b319)])) := fun t kk => k387 t (st388 t kk)
          have hps396 : ∀ c ∈ (([ch8, ch10, ch12, ch14, ch16, ch18, vc6] : List Int32).map (nar .char)), ¬ c < 0 ∧ ¬ (255 : Int32) < c := own_nars _ (by
            intro x hx
            simp only [List.mem_cons, List.not_mem_nil, or_false] at hx
            rcases hx with rfl | rfl | rfl | rfl | rfl | rfl | rfl
            · exact hb8
            · exact hb10
            · exact hb12
            · exact hb14
            · exact hb16
            · exact hb18
            · exact hbc6)
          have hcs396 : StrChars.Road.CodA (([ch8, ch10, ch12, ch14, ch16, ch18, vc6] : List Int32).map (nar .char)) 0 (7 : Int32) ((((([ch8, ch10, ch12, ch14, ch16, ch18, vc6] : List Int32).map (nar .char))).map (fun c => c.toInt8.toInt32)).map Value.int) := StrChars.Road.codOf (n := 7) rfl (fun c hc => (hps396 c hc).2)
          obtain ⟨_, _, ⟨T396, L396, kx396, nx396⟩, -, X396, ⟨Lc396, hQ396, l396, y396, z396⟩, st396⟩ := X388.specialBack hx (y := (⟨"java/lang/String", "<init>", "([C)V"⟩ : MethodName)) rfl hown4 (mvT hZ4 (hw _ (List.mem_of_getElem? (i := 40) rfl))) (mvT hZ4 (hw _ (List.mem_of_getElem? (i := 41) rfl))) (mvT hZ4 (hw _ (List.mem_of_getElem? (i := 42) rfl))) (by decide) (StrChars.Road.backV (W := 1) hZ4 hws (kI := 4) (hw _ (List.mem_of_getElem? (i := 2) rfl)) (cs := (([ch8, ch10, ch12, ch14, ch16, ch18, vc6] : List Int32).map (nar .char))) (bs := ((([ch8, ch10, ch12, ch14, ch16, ch18, vc6] : List Int32).map (nar .char))).map (fun c => c.toInt8.toInt32)) (n := 7) ge_b319 Zs388 f395 f393 f394 V388 (own_stakeep S1 K388) hs1 rfl rfl (by decide) (by decide) hps396 rfl (by decide) (by decide)) (g := (mkF m 256 #[.val (.int p1), .val (.int p2), .val (.long q3), .second, .val (.ref a4), .val (.int vl), .val (.int ch8), .val (.int ch10), .val (.int ch12), .val (.int ch14), .val (.int ch16), .val (.int ch18), .val (.int vc6), .unset, .unset] [(.ref b325), (.ref b319), (.ref b319)])) rfl (by rw [hml]; rfl) (Steps.refl _) (a := b319) (argsL := [(.ref b325)]) (rest := [(.ref b319)]) (lenOf pd_5 rfl) rfl (by show 2 * 0 + _ ≤ _; exact Nat.le_of_eq rfl) (hb hby at_256) (fun _ _ => ⟨rfl, e388, (by decide : 4 + 1 ≤ _), (by decide : 39 + 7 ≤ _)⟩)
          dsimp only [Pt.U, Pt.locs, Pt.cells, Pt.slots] at X396 l396 y396 z396 st396 hQ396
          subst l396 y396 z396
          obtain ⟨rfl, N396q, K396q, x396_e, x396_c, t396, kb396, -, zt396, -, x396_v, x396_a⟩ := hQ396
          have N396 := Fr.app N388 N396q
          have sf396_b319 := Safe.keep K396q (sfS sf388_b319 sf0) C388.1 sf388_b319
          have sf396_b325 := Safe.keep K396q (sfS sf388_b319 sf0) C388.1 sf388_b325
          have C396 := C388.trans (CHr.keep K396q (sfS sf388_b319 sf0) C388.1)
          have hku396 := Nat.le_trans hku388 K396q.1
          have ne_a4_t396 : a4 ≠ t396 := Nat.ne_of_lt (Nat.lt_of_lt_of_le f389.lt zt396)
          have ne_b325_t396 : b325 ≠ t396 := Nat.ne_of_lt (Nat.lt_of_lt_of_le V388.lt zt396)
          have ne_b4_t396 : b4 ≠ t396 := Nat.ne_of_lt (Nat.lt_of_lt_of_le f392.lt zt396)
          have f397 := f389.keep K396q
          have f398 := f390.keep K396q (ninS ne_a4_b319 nin0)
          have f399 := f391.keep K396q (ninS ne_a4_b319 nin0)
          have f400 := f392.keep K396q (ninS ne_b4_b319 nin0)
          have f401 := V388.keep K396q (ninS (Ne.symm ne_b319_b325) nin0)
          have K396 := (K388).trans K396q (allS (Or.inr sz_b319) all0)
          have sz_t396 : h0.size ≤ t396 := Nat.le_trans K388.1 zt396
          have Zs396 : n0 ≤ T396.heap.size := Nat.le_trans Zs388 K396q.1
          have k396 : Go p e below (s₁.setTop (entryFrame m #[(.int p1), (.int p2), (.long q3)] maxLocals)) (T396.setTop (mkF m 259 #[.val (.int p1), .val (.int p2), .val (.long q3), .second, .val (.ref a4), .val (.int vl), .val (.int ch8), .val (.int ch10), .val (.int ch12), .val (.int ch14), .val (.int ch16), .val (.int ch18), .val (.int vc6), .unset, .unset] [(.ref b319)])) := fun t kk => k388 t (st396.trans kk)
          have k402 : Go p e below (s₁.setTop (entryFrame m #[(.int p1), (.int p2), (.long q3)] maxLocals)) (T396.setTop (mkF m 263 #[.val (.int p1), .val (.int p2), .val (.long q3), .second, .val (.ref a4), .val (.int vl), .val (.int ch8), .val (.int ch10), .val (.int ch12), .val (.int ch14), .val (.int ch16), .val (.int ch18), .val (.int vc6), .val (.ref b319), .unset] [(.ref b319)])) := fun t kk => k396 t (by
            show Steps p.tables e below (T396.setTop (mkF m 259 #[.val (.int p1), .val (.int p2), .val (.long q3), .second, .val (.ref a4), .val (.int vl), .val (.int ch8), .val (.int ch10), .val (.int ch12), .val (.int ch14), .val (.int ch16), .val (.int ch18), .val (.int vc6), .unset, .unset] [(.ref b319)])) _
            refine XS.astore X396.here hx rfl (hb hby at_259) rfl rfl (l' := #[.val (.int p1), .val (.int p2), .val (.long q3), .second, .val (.ref a4), .val (.int vl), .val (.int ch8), .val (.int ch10), .val (.int ch12), .val (.int ch14), .val (.int ch16), .val (.int ch18), .val (.int vc6), .val (.ref b319), .unset]) rfl ?_
            show Steps p.tables e below (T396.setTop (mkF m 261 #[.val (.int p1), .val (.int p2), .val (.long q3), .second, .val (.ref a4), .val (.int vl), .val (.int ch8), .val (.int ch10), .val (.int ch12), .val (.int ch14), .val (.int ch16), .val (.int ch18), .val (.int vc6), .val (.ref b319), .unset] [])) _
            refine XS.aload X396.here hx rfl (hb hby at_261) rfl rfl ?_
            exact kk)
          have Xb404 : Stand p l e room_1 (s.setVm T4.vm) m #[(.int p1), (.int p2), (.long q3)] below meth c T396 _ _ _ := X396
          have k405 : Go p e below (s₁.setTop (entryFrame m #[(.int p1), (.int p2), (.long q3)] maxLocals)) (T396.setTop (mkF m 265 #[.val (.int p1), .val (.int p2), .val (.long q3), .second, .val (.ref a4), .val (.int vl), .val (.int ch8), .val (.int ch10), .val (.int ch12), .val (.int ch14), .val (.int ch16), .val (.int ch18), .val (.int vc6), .val (.ref b319), .unset] [(.ref a4), (.ref b319)])) := fun t kk => k402 t (by
            show Steps p.tables e below (T396.setTop (mkF m 263 #[.val (.int p1), .val (.int p2), .val (.long q3), .second, .val (.ref a4), .val (.int vl), .val (.int ch8), .val (.int ch10), .val (.int ch12), .val (.int ch14), .val (.int ch16), .val (.int ch18), .val (.int vc6), .val (.ref b319), .unset] [(.ref b319)])) _
            refine ldcAgain Xb404 hx hZ4 hown4 (hw _ (List.mem_of_getElem? (i := 0) rfl)) lit4 (g := (mkF m 263 #[.val (.int p1), .val (.int p2), .val (.long q3), .second, .val (.ref a4), .val (.int vl), .val (.int ch8), .val (.int ch10), .val (.int ch12), .val (.int ch14), .val (.int ch16), .val (.int ch18), .val (.int vc6), .val (.ref b319), .unset] [(.ref b319)])) rfl (hb hby at_263) _ ?_
            exact kk)
          obtain ⟨cq406, kq406, q406a, q406b, q406c⟩ := isOf hZ4 rfl x396_e
          obtain ⟨_, _, ⟨T406, L406, kx406, nx406⟩, -, X406, ⟨Lc406, hQ406, l406, y406, z406⟩, st406⟩ := X396.virtualBack hx (y := (⟨"java/lang/String", "equals", "(Ljava/lang/Object;)Z"⟩ : MethodName)) (z := (⟨"java/lang/String", "equals", "(Ljava/lang/Object;)Z"⟩ : MethodName)) hown4 (mvT hZ4 (hw _ (List.mem_of_getElem? (i := 51) rfl))) (mvT hZ4 (hw _ (List.mem_of_getElem? (i := 52) rfl))) (notFace_of_selects (args := #[]) (mvT hZ4 (hw _ (List.mem_of_getElem? (i := 54) rfl)))) (mvT hZ4 (hw _ (List.mem_of_getElem? (i := 54) rfl))) (mvT hZ4 (hw _ (List.mem_of_getElem? (i := 53) rfl))) (by decide) (StrChars.Road.eqW (W := 0) hZ4 heq (kI := 4) (hw _ (List.mem_of_getElem? (i := 2) rfl)) x396_e x396_v x396_c x396_a hcs396 (own_up _ hps396) (Nat.le_of_ble_eq_true rfl) f397 f399 f398 f400 own_Lc (own_up _ own_Lb) (Nat.le_of_ble_eq_true rfl) (own_stakeep S1 K396) hs1 (by decide) (by decide)) q406a q406c (g := (mkF m 265 #[.val (.int p1), .val (.int p2), .val (.long q3), .second, .val (.ref a4), .val (.int vl), .val (.int ch8), .val (.int ch10), .val (.int ch12), .val (.int ch14), .val (.int ch16), .val (.int ch18), .val (.int vc6), .val (.ref b319), .unset] [(.ref a4), (.ref b319)])) rfl (by rw [hml]; rfl) (Steps.refl _) (argsL := [(.ref a4)]) (rest := []) (lenOf pd_3 rfl) rfl (by show 2 * 0 + _ ≤ _; exact Nat.le_of_eq rfl) (hb hby at_265) (fun _ _ => ⟨rfl, rfl, (by decide : 5 + 0 ≤ _), (by decide : 46 + 0 ≤ _)⟩)
          dsimp only [Pt.U, Pt.locs, Pt.cells, Pt.slots] at X406 l406 y406 z406 st406 hQ406
          subst l406 y406 z406
          obtain ⟨hcase406, rfl, e406⟩ := hQ406
          try rw [List.append_nil] at X406
          obtain ⟨vq406, rfl, hvq406⟩ := own_case hcase406
          have k406 : Go p e below (s₁.setTop (entryFrame m #[(.int p1), (.int p2), (.long q3)] maxLocals)) (T406.setTop (mkF m 268 #[.val (.int p1), .val (.int p2), .val (.long q3), .second, .val (.ref a4), .val (.int vl), .val (.int ch8), .val (.int ch10), .val (.int ch12), .val (.int ch14), .val (.int ch16), .val (.int ch18), .val (.int vc6), .val (.ref b319), .unset] [(.int vq406)])) := fun t kk => k405 t (st406.trans kk)
          by_cases hc268_407 : vq406 = (0 : Int32)
          · have k408 : Go p e below (s₁.setTop (entryFrame m #[(.int p1), (.int p2), (.long q3)] maxLocals)) (T406.setTop (mkF m 281 #[.val (.int p1), .val (.int p2), .val (.long q3), .second, .val (.ref a4), .val (.int vl), .val (.int ch8), .val (.int ch10), .val (.int ch12), .val (.int ch14), .val (.int ch16), .val (.int ch18), .val (.int vc6), .val (.ref b319), .unset] [(.ref b319)])) := fun t kk => k406 t (by
              show Steps p.tables e below (T406.setTop (mkF m 268 #[.val (.int p1), .val (.int p2), .val (.long q3), .second, .val (.ref a4), .val (.int vl), .val (.int ch8), .val (.int ch10), .val (.int ch12), .val (.int ch14), .val (.int ch16), .val (.int ch18), .val (.int vc6), .val (.ref b319), .unset] [(.int vq406)])) _
              refine XS.ifYes X406.here hx rfl (pc0 := 268) (pc' := 279) rfl (hb hby at_268) rfl ((if0 _ _).trans (teq hc268_407).1) (by decide) (by decide) ?_
              show Steps p.tables e below (T406.setTop (mkF m 279 #[.val (.int p1), .val (.int p2), .val (.long q3), .second, .val (.ref a4), .val (.int vl), .val (.int ch8), .val (.int ch10), .val (.int ch12), .val (.int ch14), .val (.int ch16), .val (.int ch18), .val (.int vc6), .val (.ref b319), .unset] [])) _
              refine XS.aload X406.here hx rfl (hb hby at_279) rfl rfl ?_
              exact kk)
            have Xb410 : Stand p l e room_1 (s.setVm T4.vm) m #[(.int p1), (.int p2), (.long q3)] below meth c T406 _ _ _ := X406
            obtain ⟨a409, T409, h409, kn409, b409, kc409, X409, e409, E409, hS409, hk409, hZ409, hown409, xe409, xc409, xv409, V409, -, -, Cn409, lit409, nsf409, st409⟩ := ldcCH (s := s) (vm0 := T4.vm) Xb410 hx hZ4 hown4 (hw _ (List.mem_of_getElem? (i := 60) rfl)) wS0 e406 hS4 hku396 (EW.cons (hw _ (List.mem_of_getElem? (i := 60) rfl)) (by decide) (EW.cons (hw _ (List.mem_of_getElem? (i := 0) rfl)) (by decide) (EW.cons (hw _ (List.mem_of_getElem? (i := 50) rfl)) (by decide) EW.nil))) (List.mem_of_getElem? (i := 0) rfl) C396.1 (vs := [(.int (115 : Int32)), (.int (101 : Int32)), (.int (101 : Int32)), (.int (100 : Int32)), (.int (101 : Int32)), (.int (100 : Int32))]) (z := 6) ⟨by decide, by decide⟩ (by decide) rfl (g := (mkF m 281 #[.val (.int p1), .val (.int p2), .val (.long q3), .second, .val (.ref a4), .val (.int vl), .val (.int ch8), .val (.int ch10), .val (.int ch12), .val (.int ch14), .val (.int ch16), .val (.int ch18), .val (.int vc6), .val (.ref b319), .unset] [(.ref b319)])) rfl (hb hby at_281) (n := 24) (by decide) (by decide) (by decide) (by decide)
            have sf409_b319 := CHr.safe Cn409 x396_e.lt sf396_b319
            have sf409_b325 := CHr.safe Cn409 f401.lt sf396_b325
            have C409 := C396.trans Cn409
            have f411 := f397.ext E409
            have f412 := f398.ext E409
            have f413 := f399.ext E409
            have f414 := f400.ext E409
            have f415 := f401.ext E409
            have f416 := x396_e.ext E409
            have f417 := x396_c.ext E409
            have f418 := x396_v.ext E409
            have f419 := x396_a.ext E409
            have K409 := (K396).ext E409
            have Zs409 : n0 ≤ h409.size := Nat.le_trans Zs396 E409.1
            have k409 : Go p e below (s₁.setTop (entryFrame m #[(.int p1), (.int p2), (.long q3)] maxLocals)) (T409.setTop (mkF m 283 #[.val (.int p1), .val (.int p2), .val (.long q3), .second, .val (.ref a4), .val (.int vl), .val (.int ch8), .val (.int ch10), .val (.int ch12), .val (.int ch14), .val (.int ch16), .val (.int ch18), .val (.int vc6), .val (.ref b319), .unset] [(.ref a409), (.ref b319)])) := fun t kk => k408 t (st409 t kk)
            obtain ⟨cq420, kq420, q420a, q420b, q420c⟩ := isOf hZ409 e409 f416
            obtain ⟨_, _, ⟨T420, L420, kx420, nx420⟩, -, X420, ⟨Lc420, hQ420, l420, y420, z420⟩, st420⟩ := X409.virtualBack hx (y := (⟨"java/lang/String", "equals", "(Ljava/lang/Object;)Z"⟩ : MethodName)) (z := (⟨"java/lang/String", "equals", "(Ljava/lang/Object;)Z"⟩ : MethodName)) hown409 (mvT hZ409 (hw _ (List.mem_of_getElem? (i := 51) rfl))) (mvT hZ409 (hw _ (List.mem_of_getElem? (i := 52) rfl))) (notFace_of_selects (args := #[]) (mvT hZ409 (hw _ (List.mem_of_getElem? (i := 54) rfl)))) (mvT hZ409 (hw _ (List.mem_of_getElem? (i := 54) rfl))) (mvT hZ409 (hw _ (List.mem_of_getElem? (i := 53) rfl))) (by decide) (StrChars.Road.eqW (W := 0) hZ409 heq (kI := 4) (hw _ (List.mem_of_getElem? (i := 2) rfl)) f416 f418 f417 f419 hcs396 (own_up _ hps396) (Nat.le_of_ble_eq_true rfl) xe409 xv409 xc409 V409 own_Sc (own_up _ own_Sb) (Nat.le_of_ble_eq_true rfl) (own_stakeep S1 K409) hs1 (by decide) (by decide)) q420a q420c (g := (mkF m 283 #[.val (.int p1), .val (.int p2), .val (.long q3), .second, .val (.ref a4), .val (.int vl), .val (.int ch8), .val (.int ch10), .val (.int ch12), .val (.int ch14), .val (.int ch16), .val (.int ch18), .val (.int vc6), .val (.ref b319), .unset] [(.ref a409), (.ref b319)])) rfl (by rw [hml]; rfl) (Steps.refl _) (argsL := [(.ref a409)]) (rest := []) (lenOf pd_3 rfl) rfl (by show 2 * 0 + _ ≤ _; exact Nat.le_of_eq rfl) (hb hby at_283) (fun _ _ => ⟨rfl, e409, (by decide : 7 + 0 ≤ _), (by decide : 74 + 0 ≤ _)⟩)
            dsimp only [Pt.U, Pt.locs, Pt.cells, Pt.slots] at X420 l420 y420 z420 st420 hQ420
            subst l420 y420 z420
            obtain ⟨hcase420, rfl, e420⟩ := hQ420
            try rw [List.append_nil] at X420
            obtain ⟨vq420, rfl, hvq420⟩ := own_case hcase420
            have k420 : Go p e below (s₁.setTop (entryFrame m #[(.int p1), (.int p2), (.long q3)] maxLocals)) (T420.setTop (mkF m 286 #[.val (.int p1), .val (.int p2), .val (.long q3), .second, .val (.ref a4), .val (.int vl), .val (.int ch8), .val (.int ch10), .val (.int ch12), .val (.int ch14), .val (.int ch16), .val (.int ch18), .val (.int vc6), .val (.ref b319), .unset] [(.int vq420)])) := fun t kk => k409 t (st420.trans kk)
            by_cases hc286_421 : vq420 = (0 : Int32)
            · have k422 : Go p e below (s₁.setTop (entryFrame m #[(.int p1), (.int p2), (.long q3)] maxLocals)) (T420.setTop (mkF m 302 #[.val (.int p1), .val (.int p2), .val (.long q3), .second, .val (.ref a4), .val (.int vl), .val (.int ch8), .val (.int ch10), .val (.int ch12), .val (.int ch14), .val (.int ch16), .val (.int ch18), .val (.int vc6), .val (.ref b319), .val .null] [(.ref b319)])) := fun t kk => k420 t (by
                show Steps p.tables e below (T420.setTop (mkF m 286 #[.val (.int p1), .val (.int p2), .val (.long q3), .second, .val (.ref a4), .val (.int vl), .val (.int ch8), .val (.int ch10), .val (.int ch12), .val (.int ch14), .val (.int ch16), .val (.int ch18), .val (.int vc6), .val (.ref b319), .unset] [(.int vq420)])) _
                refine XS.ifYes X420.here hx rfl (pc0 := 286) (pc' := 297) rfl (hb hby at_286) rfl ((if0 _ _).trans (teq hc286_421).1) (by decide) (by decide) ?_
                show Steps p.tables e below (T420.setTop (mkF m 297 #[.val (.int p1), .val (.int p2), .val (.long q3), .second, .val (.ref a4), .val (.int vl), .val (.int ch8), .val (.int ch10), .val (.int ch12), .val (.int ch14), .val (.int ch16), .val (.int ch18), .val (.int vc6), .val (.ref b319), .unset] [])) _
                refine XS.aconstNull X420.here hx rfl (hb hby at_297) ?_
                show Steps p.tables e below (T420.setTop (mkF m 298 #[.val (.int p1), .val (.int p2), .val (.long q3), .second, .val (.ref a4), .val (.int vl), .val (.int ch8), .val (.int ch10), .val (.int ch12), .val (.int ch14), .val (.int ch16), .val (.int ch18), .val (.int vc6), .val (.ref b319), .unset] [.null])) _
                refine XS.astore X420.here hx rfl (hb hby at_298) rfl rfl (l' := #[.val (.int p1), .val (.int p2), .val (.long q3), .second, .val (.ref a4), .val (.int vl), .val (.int ch8), .val (.int ch10), .val (.int ch12), .val (.int ch14), .val (.int ch16), .val (.int ch18), .val (.int vc6), .val (.ref b319), .val .null]) rfl ?_
                show Steps p.tables e below (T420.setTop (mkF m 300 #[.val (.int p1), .val (.int p2), .val (.long q3), .second, .val (.ref a4), .val (.int vl), .val (.int ch8), .val (.int ch10), .val (.int ch12), .val (.int ch14), .val (.int ch16), .val (.int ch18), .val (.int vc6), .val (.ref b319), .val .null] [])) _
                refine XS.aload X420.here hx rfl (hb hby at_300) rfl rfl ?_
                exact kk)
              obtain ⟨_, _, ⟨T423, L423, kx423, nx423⟩, -, X423, ⟨Lc423, hQ423, l423, y423, z423⟩, st423⟩ := Jvm.LawKit.callS X420 hx (y := (⟨"com/example/tabularium/tabularium/record/Deal", "named", "(Ljava/lang/String;)Lcom/example/tabularium/tabularium/record/Deal;"⟩ : MethodName)) hown409 (mvT hZ409 (hw _ (List.mem_of_getElem? (i := 61) rfl))) (mvT hZ409 (hw _ (List.mem_of_getElem? (i := 62) rfl))) (mvT hZ409 (hw _ (List.mem_of_getElem? (i := 63) rfl))) (mvT hZ409 (hw _ (List.mem_of_getElem? (i := 64) rfl))) (by decide) (backOf (W := 0) (rmD l Z a0 hw [] b319 a__VALUES kV a_LISTED a_SEEDED s_LISTED t_LISTED kL s_SEEDED t_SEEDED kS (([ch8, ch10, ch12, ch14, ch16, ch18, vc6] : List Int32).map (nar .char)) t396 kb396 (7 : Int32) _ cs h409 n0 Zs409 (own_stakeep SV K409) (PAV.keep K409 nin0) (PEV.keep K409) (f_LISTED.keep K409 nin0) (es_LISTED.keep K409) (cs_LISTED.keep K409 nin0) (vs_LISTED.keep K409 nin0) (as_LISTED.keep K409 nin0) (f_SEEDED.keep K409 nin0) (es_SEEDED.keep K409) (cs_SEEDED.keep K409 nin0) (vs_SEEDED.keep K409 nin0) (as_SEEDED.keep K409 nin0) f416 f418 f417 f419 hcs396 (own_up _ hps396) (Nat.le_of_ble_eq_true rfl) (own_stakeep S1 K409) hs1) hZ409 (hw _ (List.mem_of_getElem? (i := 64) rfl)) (hw _ (List.mem_of_getElem? (i := 63) rfl)) (by decide) (by decide)) (g := (mkF m 302 #[.val (.int p1), .val (.int p2), .val (.long q3), .second, .val (.ref a4), .val (.int vl), .val (.int ch8), .val (.int ch10), .val (.int ch12), .val (.int ch14), .val (.int ch16), .val (.int ch18), .val (.int vc6), .val (.ref b319), .val .null] [(.ref b319)])) rfl (by rw [hml]; rfl) (argsL := [(.ref b319)]) (rest := []) (lenOf pd_6 rfl) rfl (by show 2 * 0 + _ ≤ _; exact Nat.le_of_eq rfl) (hb hby at_302) (fun _ _ => ⟨rfl, e420, (by decide : 7 + 1 ≤ _), (by decide : 74 + 2 ≤ _)⟩)
              dsimp only [Pt.U, Pt.locs, Pt.cells, Pt.slots] at X423 l423 y423 z423 st423 hQ423
              subst l423 y423 z423
              obtain ⟨hv423, N423q, K423q⟩ := hQ423
              rw [show own_named (([ch8, ch10, ch12, ch14, ch16, ch18, vc6] : List Int32).map (nar .char)) a_LISTED a_SEEDED = .null from (by unfold own_named; rw [if_neg (fun q => own_no hvq406 hc268_407 q.symm), if_neg (fun q => own_no hvq420 hc286_421 q.symm)])] at hv423
              subst hv423
              have N423 := Fr.app N396 N423q
              have hku423 := Nat.le_trans hk409 K423q.1
              have K423 := (K409).trans K423q all0
              have Zs423 : n0 ≤ T423.heap.size := Nat.le_trans Zs409 K423q.1
              have k423 : Go p e below (s₁.setTop (entryFrame m #[(.int p1), (.int p2), (.long q3)] maxLocals)) (T423.setTop (mkF m 305 #[.val (.int p1), .val (.int p2), .val (.long q3), .second, .val (.ref a4), .val (.int vl), .val (.int ch8), .val (.int ch10), .val (.int ch12), .val (.int ch14), .val (.int ch16), .val (.int ch18), .val (.int vc6), .val (.ref b319), .val .null] [.null])) := fun t kk => k422 t (st423 t kk)
              have k424 : Go p e below (s₁.setTop (entryFrame m #[(.int p1), (.int p2), (.long q3)] maxLocals)) (T423.setTop (mkF m 315 #[.val (.int p1), .val (.int p2), .val (.long q3), .second, .val (.ref a4), .val (.int vl), .val (.int ch8), .val (.int ch10), .val (.int ch12), .val (.int ch14), .val (.int ch16), .val (.int ch18), .val (.int vc6), .val (.ref b319), .val .null] [(.int (1 : Int32))])) := fun t kk => k423 t (by
                show Steps p.tables e below (T423.setTop (mkF m 305 #[.val (.int p1), .val (.int p2), .val (.long q3), .second, .val (.ref a4), .val (.int vl), .val (.int ch8), .val (.int ch10), .val (.int ch12), .val (.int ch14), .val (.int ch16), .val (.int ch18), .val (.int vc6), .val (.ref b319), .val .null] [.null])) _
                refine XS.aload X423.here hx rfl (hb hby at_305) rfl rfl ?_
                show Steps p.tables e below (T423.setTop (mkF m 307 #[.val (.int p1), .val (.int p2), .val (.long q3), .second, .val (.ref a4), .val (.int vl), .val (.int ch8), .val (.int ch10), .val (.int ch12), .val (.int ch14), .val (.int ch16), .val (.int ch18), .val (.int vc6), .val (.ref b319), .val .null] [.null, .null])) _
                refine Jvm.RoadKit.acmp (g := (mkF m 307 #[.val (.int p1), .val (.int p2), .val (.long q3), .second, .val (.ref a4), .val (.int vl), .val (.int ch8), .val (.int ch10), .val (.int ch12), .val (.int ch14), .val (.int ch16), .val (.int ch18), .val (.int vc6), .val (.ref b319), .val .null] [.null, .null])) X423 hx rfl rfl rfl (pc0 := 307) (pc' := 310) (same := true) rfl (hb hby at_307) rfl (decide_eq_true (rfl : Value.null = Value.null)) (by decide) (by decide) ?_
                show Steps p.tables e below (T423.setTop (mkF m 310 #[.val (.int p1), .val (.int p2), .val (.long q3), .second, .val (.ref a4), .val (.int vl), .val (.int ch8), .val (.int ch10), .val (.int ch12), .val (.int ch14), .val (.int ch16), .val (.int ch18), .val (.int vc6), .val (.ref b319), .val .null] [])) _
                refine XS.iconst X423.here hx rfl (hb hby at_310) ?_
                show Steps p.tables e below (T423.setTop (mkF m 311 #[.val (.int p1), .val (.int p2), .val (.long q3), .second, .val (.ref a4), .val (.int vl), .val (.int ch8), .val (.int ch10), .val (.int ch12), .val (.int ch14), .val (.int ch16), .val (.int ch18), .val (.int vc6), .val (.ref b319), .val .null] [(.int (1 : Int32))])) _
                refine XS.goto X423.here hx rfl (pc0 := 311) (pc' := 315) rfl (hb hby at_311) (by decide) (by decide) ?_
                exact kk)
              have Xb426 : Stand p l e room_1 (s.setVm T409.vm) m #[(.int p1), (.int p2), (.long q3)] below meth c T423 _ _ _ := X423
              obtain ⟨fs, hr, hrun, hended, hW⟩ := leaveW Xb426 hS409 hku423 (v := some (.int (1 : Int32))) (fun h => by rw [Bd.returns] at h; cases h)
              refine ⟨_, _, k424 _ ?_, hrun, hended, _, _, rfl, ?_, hW.1, hW.2.1, hW.2.2.1, hW.2.2.2.mono (by decide) (by decide)⟩
              · show Steps p.tables e below (T423.setTop (mkF m 315 #[.val (.int p1), .val (.int p2), .val (.long q3), .second, .val (.ref a4), .val (.int vl), .val (.int ch8), .val (.int ch10), .val (.int ch12), .val (.int ch14), .val (.int ch16), .val (.int ch18), .val (.int vc6), .val (.ref b319), .val .null] [(.int (1 : Int32))])) _
                exact retN X423 hx (t := .boolean) Bd.returns (by simp) (hb hby at_315) hr
              · show Q0 Z p1 p2 q3 a__VALUES kV a_LISTED a_SEEDED s_LISTED t_LISTED kL s_SEEDED t_SEEDED kS cs fm h0 n0 _ T423.heap _
                exact ⟨rfl, N423⟩
            · have k427 : Go p e below (s₁.setTop (entryFrame m #[(.int p1), (.int p2), (.long q3)] maxLocals)) (T420.setTop (mkF m 289 #[.val (.int p1), .val (.int p2), .val (.long q3), .second, .val (.ref a4), .val (.int vl), .val (.int ch8), .val (.int ch10), .val (.int ch12), .val (.int ch14), .val (.int ch16), .val (.int ch18), .val (.int vc6), .val (.ref b319), .unset] [])) := fun t kk => k420 t (by
                show Steps p.tables e below (T420.setTop (mkF m 286 #[.val (.int p1), .val (.int p2), .val (.long q3), .second, .val (.ref a4), .val (.int vl), .val (.int ch8), .val (.int ch10), .val (.int ch12), .val (.int ch14), .val (.int ch16), .val (.int ch18), .val (.int vc6), .val (.ref b319), .unset] [(.int vq420)])) _
                refine XS.ifNo X420.here hx rfl (hb hby at_286) rfl ((if0 _ _).trans (feq hc286_421).1) ?_
                exact kk)
              obtain ⟨T428, X428, e428, st428⟩ := getS2 X420 hx hZ409 hown409 (host := "") (Or.inl (hw _ (List.mem_of_getElem? (i := 96) rfl))) Via.refl e420 (own_stakeep S_SEEDED K409) (g := (mkF m 289 #[.val (.int p1), .val (.int p2), .val (.long q3), .second, .val (.ref a4), .val (.int vl), .val (.int ch8), .val (.int ch10), .val (.int ch12), .val (.int ch14), .val (.int ch16), .val (.int ch18), .val (.int vc6), .val (.ref b319), .unset] [])) rfl (hb hby at_289)
              have k428 : Go p e below (s₁.setTop (entryFrame m #[(.int p1), (.int p2), (.long q3)] maxLocals)) (T428.setTop (mkF m 292 #[.val (.int p1), .val (.int p2), .val (.long q3), .second, .val (.ref a4), .val (.int vl), .val (.int ch8), .val (.int ch10), .val (.int ch12), .val (.int ch14), .val (.int ch16), .val (.int ch18), .val (.int vc6), .val (.ref b319), .unset] [(.ref a_SEEDED)])) := fun t kk => k427 t (st428 t kk)
              have k429 : Go p e below (s₁.setTop (entryFrame m #[(.int p1), (.int p2), (.long q3)] maxLocals)) (T428.setTop (mkF m 302 #[.val (.int p1), .val (.int p2), .val (.long q3), .second, .val (.ref a4), .val (.int vl), .val (.int ch8), .val (.int ch10), .val (.int ch12), .val (.int ch14), .val (.int ch16), .val (.int ch18), .val (.int vc6), .val (.ref b319), .val (.ref a_SEEDED)] [(.ref b319)])) := fun t kk => k428 t (by
                show Steps p.tables e below (T428.setTop (mkF m 292 #[.val (.int p1), .val (.int p2), .val (.long q3), .second, .val (.ref a4), .val (.int vl), .val (.int ch8), .val (.int ch10), .val (.int ch12), .val (.int ch14), .val (.int ch16), .val (.int ch18), .val (.int vc6), .val (.ref b319), .unset] [(.ref a_SEEDED)])) _
                refine XS.astore X428.here hx rfl (hb hby at_292) rfl rfl (l' := #[.val (.int p1), .val (.int p2), .val (.long q3), .second, .val (.ref a4), .val (.int vl), .val (.int ch8), .val (.int ch10), .val (.int ch12), .val (.int ch14), .val (.int ch16), .val (.int ch18), .val (.int vc6), .val (.ref b319), .val (.ref a_SEEDED)]) rfl ?_
                show Steps p.tables e below (T428.setTop (mkF m 294 #[.val (.int p1), .val (.int p2), .val (.long q3), .second, .val (.ref a4), .val (.int vl), .val (.int ch8), .val (.int ch10), .val (.int ch12), .val (.int ch14), .val (.int ch16), .val (.int ch18), .val (.int vc6), .val (.ref b319), .val (.ref a_SEEDED)] [])) _
                refine XS.goto X428.here hx rfl (pc0 := 294) (pc' := 300) rfl (hb hby at_294) (by decide) (by decide) ?_
                show Steps p.tables e below (T428.setTop (mkF m 300 #[.val (.int p1), .val (.int p2), .val (.long q3), .second, .val (.ref a4), .val (.int vl), .val (.int ch8), .val (.int ch10), .val (.int ch12), .val (.int ch14), .val (.int ch16), .val (.int ch18), .val (.int vc6), .val (.ref b319), .val (.ref a_SEEDED)] [])) _
                refine XS.aload X428.here hx rfl (hb hby at_300) rfl rfl ?_
                exact kk)
              obtain ⟨_, _, ⟨T430, L430, kx430, nx430⟩, -, X430, ⟨Lc430, hQ430, l430, y430, z430⟩, st430⟩ := Jvm.LawKit.callS X428 hx (y := (⟨"com/example/tabularium/tabularium/record/Deal", "named", "(Ljava/lang/String;)Lcom/example/tabularium/tabularium/record/Deal;"⟩ : MethodName)) hown409 (mvT hZ409 (hw _ (List.mem_of_getElem? (i := 61) rfl))) (mvT hZ409 (hw _ (List.mem_of_getElem? (i := 62) rfl))) (mvT hZ409 (hw _ (List.mem_of_getElem? (i := 63) rfl))) (mvT hZ409 (hw _ (List.mem_of_getElem? (i := 64) rfl))) (by decide) (backOf (W := 0) (rmD l Z a0 hw [] b319 a__VALUES kV a_LISTED a_SEEDED s_LISTED t_LISTED kL s_SEEDED t_SEEDED kS (([ch8, ch10, ch12, ch14, ch16, ch18, vc6] : List Int32).map (nar .char)) t396 kb396 (7 : Int32) _ cs h409 n0 Zs409 (own_stakeep SV K409) (PAV.keep K409 nin0) (PEV.keep K409) (f_LISTED.keep K409 nin0) (es_LISTED.keep K409) (cs_LISTED.keep K409 nin0) (vs_LISTED.keep K409 nin0) (as_LISTED.keep K409 nin0) (f_SEEDED.keep K409 nin0) (es_SEEDED.keep K409) (cs_SEEDED.keep K409 nin0) (vs_SEEDED.keep K409 nin0) (as_SEEDED.keep K409 nin0) f416 f418 f417 f419 hcs396 (own_up _ hps396) (Nat.le_of_ble_eq_true rfl) (own_stakeep S1 K409) hs1) hZ409 (hw _ (List.mem_of_getElem? (i := 64) rfl)) (hw _ (List.mem_of_getElem? (i := 63) rfl)) (by decide) (by decide)) (g := (mkF m 302 #[.val (.int p1), .val (.int p2), .val (.long q3), .second, .val (.ref a4), .val (.int vl), .val (.int ch8), .val (.int ch10), .val (.int ch12), .val (.int ch14), .val (.int ch16), .val (.int ch18), .val (.int vc6), .val (.ref b319), .val (.ref a_SEEDED)] [(.ref b319)])) rfl (by rw [hml]; rfl) (argsL := [(.ref b319)]) (rest := []) (lenOf pd_6 rfl) rfl (by show 2 * 0 + _ ≤ _; exact Nat.le_of_eq rfl) (hb hby at_302) (fun _ _ => ⟨rfl, e428, (by decide : 7 + 1 ≤ _), (by decide : 74 + 2 ≤ _)⟩)
              dsimp only [Pt.U, Pt.locs, Pt.cells, Pt.slots] at X430 l430 y430 z430 st430 hQ430
              subst l430 y430 z430
              obtain ⟨hv430, N430q, K430q⟩ := hQ430
              rw [show own_named (([ch8, ch10, ch12, ch14, ch16, ch18, vc6] : List Int32).map (nar .char)) a_LISTED a_SEEDED = .ref a_SEEDED from (by unfold own_named; rw [if_neg (fun q => own_no hvq406 hc268_407 q.symm), if_pos (own_yes hvq420 hc286_421).symm])] at hv430
              subst hv430
              have N430 := Fr.app N396 N430q
              have hku430 := Nat.le_trans hk409 K430q.1
              have K430 := (K409).trans K430q all0
              have Zs430 : n0 ≤ T430.heap.size := Nat.le_trans Zs409 K430q.1
              have k430 : Go p e below (s₁.setTop (entryFrame m #[(.int p1), (.int p2), (.long q3)] maxLocals)) (T430.setTop (mkF m 305 #[.val (.int p1), .val (.int p2), .val (.long q3), .second, .val (.ref a4), .val (.int vl), .val (.int ch8), .val (.int ch10), .val (.int ch12), .val (.int ch14), .val (.int ch16), .val (.int ch18), .val (.int vc6), .val (.ref b319), .val (.ref a_SEEDED)] [(.ref a_SEEDED)])) := fun t kk => k429 t (st430 t kk)
              have k431 : Go p e below (s₁.setTop (entryFrame m #[(.int p1), (.int p2), (.long q3)] maxLocals)) (T430.setTop (mkF m 315 #[.val (.int p1), .val (.int p2), .val (.long q3), .second, .val (.ref a4), .val (.int vl), .val (.int ch8), .val (.int ch10), .val (.int ch12), .val (.int ch14), .val (.int ch16), .val (.int ch18), .val (.int vc6), .val (.ref b319), .val (.ref a_SEEDED)] [(.int (1 : Int32))])) := fun t kk => k430 t (by
                show Steps p.tables e below (T430.setTop (mkF m 305 #[.val (.int p1), .val (.int p2), .val (.long q3), .second, .val (.ref a4), .val (.int vl), .val (.int ch8), .val (.int ch10), .val (.int ch12), .val (.int ch14), .val (.int ch16), .val (.int ch18), .val (.int vc6), .val (.ref b319), .val (.ref a_SEEDED)] [(.ref a_SEEDED)])) _
                refine XS.aload X430.here hx rfl (hb hby at_305) rfl rfl ?_
                show Steps p.tables e below (T430.setTop (mkF m 307 #[.val (.int p1), .val (.int p2), .val (.long q3), .second, .val (.ref a4), .val (.int vl), .val (.int ch8), .val (.int ch10), .val (.int ch12), .val (.int ch14), .val (.int ch16), .val (.int ch18), .val (.int vc6), .val (.ref b319), .val (.ref a_SEEDED)] [(.ref a_SEEDED), (.ref a_SEEDED)])) _
                refine Jvm.RoadKit.acmp (g := (mkF m 307 #[.val (.int p1), .val (.int p2), .val (.long q3), .second, .val (.ref a4), .val (.int vl), .val (.int ch8), .val (.int ch10), .val (.int ch12), .val (.int ch14), .val (.int ch16), .val (.int ch18), .val (.int vc6), .val (.ref b319), .val (.ref a_SEEDED)] [(.ref a_SEEDED), (.ref a_SEEDED)])) X430 hx rfl rfl rfl (pc0 := 307) (pc' := 310) (same := true) rfl (hb hby at_307) rfl (decide_eq_true (rfl : (Value.ref a_SEEDED) = (Value.ref a_SEEDED))) (by decide) (by decide) ?_
                show Steps p.tables e below (T430.setTop (mkF m 310 #[.val (.int p1), .val (.int p2), .val (.long q3), .second, .val (.ref a4), .val (.int vl), .val (.int ch8), .val (.int ch10), .val (.int ch12), .val (.int ch14), .val (.int ch16), .val (.int ch18), .val (.int vc6), .val (.ref b319), .val (.ref a_SEEDED)] [])) _
                refine XS.iconst X430.here hx rfl (hb hby at_310) ?_
                show Steps p.tables e below (T430.setTop (mkF m 311 #[.val (.int p1), .val (.int p2), .val (.long q3), .second, .val (.ref a4), .val (.int vl), .val (.int ch8), .val (.int ch10), .val (.int ch12), .val (.int ch14), .val (.int ch16), .val (.int ch18), .val (.int vc6), .val (.ref b319), .val (.ref a_SEEDED)] [(.int (1 : Int32))])) _
                refine XS.goto X430.here hx rfl (pc0 := 311) (pc' := 315) rfl (hb hby at_311) (by decide) (by decide) ?_
                exact kk)
              have Xb433 : Stand p l e room_1 (s.setVm T409.vm) m #[(.int p1), (.int p2), (.long q3)] below meth c T430 _ _ _ := X430
              obtain ⟨fs, hr, hrun, hended, hW⟩ := leaveW Xb433 hS409 hku430 (v := some (.int (1 : Int32))) (fun h => by rw [Bd.returns] at h; cases h)
              refine ⟨_, _, k431 _ ?_, hrun, hended, _, _, rfl, ?_, hW.1, hW.2.1, hW.2.2.1, hW.2.2.2.mono (by decide) (by decide)⟩
              · show Steps p.tables e below (T430.setTop (mkF m 315 #[.val (.int p1), .val (.int p2), .val (.long q3), .second, .val (.ref a4), .val (.int vl), .val (.int ch8), .val (.int ch10), .val (.int ch12), .val (.int ch14), .val (.int ch16), .val (.int ch18), .val (.int vc6), .val (.ref b319), .val (.ref a_SEEDED)] [(.int (1 : Int32))])) _
                exact retN X430 hx (t := .boolean) Bd.returns (by simp) (hb hby at_315) hr
              · show Q0 Z p1 p2 q3 a__VALUES kV a_LISTED a_SEEDED s_LISTED t_LISTED kL s_SEEDED t_SEEDED kS cs fm h0 n0 _ T430.heap _
                exact ⟨rfl, N430⟩
          · have k434 : Go p e below (s₁.setTop (entryFrame m #[(.int p1), (.int p2), (.long q3)] maxLocals)) (T406.setTop (mkF m 271 #[.val (.int p1), .val (.int p2), .val (.long q3), .second, .val (.ref a4), .val (.int vl), .val (.int ch8), .val (.int ch10), .val (.int ch12), .val (.int ch14), .val (.int ch16), .val (.int ch18), .val (.int vc6), .val (.ref b319), .unset] [])) := fun t kk => k406 t (by
              show Steps p.tables e below (T406.setTop (mkF m 268 #[.val (.int p1), .val (.int p2), .val (.long q3), .second, .val (.ref a4), .val (.int vl), .val (.int ch8), .val (.int ch10), .val (.int ch12), .val (.int ch14), .val (.int ch16), .val (.int ch18), .val (.int vc6), .val (.ref b319), .unset] [(.int vq406)])) _
              refine XS.ifNo X406.here hx rfl (hb hby at_268) rfl ((if0 _ _).trans (feq hc268_407).1) ?_
              exact kk)
            obtain ⟨T435, X435, e435, st435⟩ := getS2 X406 hx hZ4 hown4 (host := "") (Or.inl (hw _ (List.mem_of_getElem? (i := 95) rfl))) Via.refl e406 (own_stakeep S_LISTED K396) (g := (mkF m 271 #[.val (.int p1), .val (.int p2), .val (.long q3), .second, .val (.ref a4), .val (.int vl), .val (.int ch8), .val (.int ch10), .val (.int ch12), .val (.int ch14), .val (.int ch16), .val (.int ch18), .val (.int vc6), .val (.ref b319), .unset] [])) rfl (hb hby at_271)
            have k435 : Go p e below (s₁.setTop (entryFrame m #[(.int p1), (.int p2), (.long q3)] maxLocals)) (T435.setTop (mkF m 274 #[.val (.int p1), .val (.int p2), .val (.long q3), .second, .val (.ref a4), .val (.int vl), .val (.int ch8), .val (.int ch10), .val (.int ch12), .val (.int ch14), .val (.int ch16), .val (.int ch18), .val (.int vc6), .val (.ref b319), .unset] [(.ref a_LISTED)])) := fun t kk => k434 t (st435 t kk)
            have k436 : Go p e below (s₁.setTop (entryFrame m #[(.int p1), (.int p2), (.long q3)] maxLocals)) (T435.setTop (mkF m 302 #[.val (.int p1), .val (.int p2), .val (.long q3), .second, .val (.ref a4), .val (.int vl), .val (.int ch8), .val (.int ch10), .val (.int ch12), .val (.int ch14), .val (.int ch16), .val (.int ch18), .val (.int vc6), .val (.ref b319), .val (.ref a_LISTED)] [(.ref b319)])) := fun t kk => k435 t (by
              show Steps p.tables e below (T435.setTop (mkF m 274 #[.val (.int p1), .val (.int p2), .val (.long q3), .second, .val (.ref a4), .val (.int vl), .val (.int ch8), .val (.int ch10), .val (.int ch12), .val (.int ch14), .val (.int ch16), .val (.int ch18), .val (.int vc6), .val (.ref b319), .unset] [(.ref a_LISTED)])) _
              refine XS.astore X435.here hx rfl (hb hby at_274) rfl rfl (l' := #[.val (.int p1), .val (.int p2), .val (.long q3), .second, .val (.ref a4), .val (.int vl), .val (.int ch8), .val (.int ch10), .val (.int ch12), .val (.int ch14), .val (.int ch16), .val (.int ch18), .val (.int vc6), .val (.ref b319), .val (.ref a_LISTED)]) rfl ?_
              show Steps p.tables e below (T435.setTop (mkF m 276 #[.val (.int p1), .val (.int p2), .val (.long q3), .second, .val (.ref a4), .val (.int vl), .val (.int ch8), .val (.int ch10), .val (.int ch12), .val (.int ch14), .val (.int ch16), .val (.int ch18), .val (.int vc6), .val (.ref b319), .val (.ref a_LISTED)] [])) _
              refine XS.goto X435.here hx rfl (pc0 := 276) (pc' := 300) rfl (hb hby at_276) (by decide) (by decide) ?_
              show Steps p.tables e below (T435.setTop (mkF m 300 #[.val (.int p1), .val (.int p2), .val (.long q3), .second, .val (.ref a4), .val (.int vl), .val (.int ch8), .val (.int ch10), .val (.int ch12), .val (.int ch14), .val (.int ch16), .val (.int ch18), .val (.int vc6), .val (.ref b319), .val (.ref a_LISTED)] [])) _
              refine XS.aload X435.here hx rfl (hb hby at_300) rfl rfl ?_
              exact kk)
            obtain ⟨_, _, ⟨T437, L437, kx437, nx437⟩, -, X437, ⟨Lc437, hQ437, l437, y437, z437⟩, st437⟩ := Jvm.LawKit.callS X435 hx (y := (⟨"com/example/tabularium/tabularium/record/Deal", "named", "(Ljava/lang/String;)Lcom/example/tabularium/tabularium/record/Deal;"⟩ : MethodName)) hown4 (mvT hZ4 (hw _ (List.mem_of_getElem? (i := 61) rfl))) (mvT hZ4 (hw _ (List.mem_of_getElem? (i := 62) rfl))) (mvT hZ4 (hw _ (List.mem_of_getElem? (i := 63) rfl))) (mvT hZ4 (hw _ (List.mem_of_getElem? (i := 64) rfl))) (by decide) (backOf (W := 0) (rmD l Z a0 hw [] b319 a__VALUES kV a_LISTED a_SEEDED s_LISTED t_LISTED kL s_SEEDED t_SEEDED kS (([ch8, ch10, ch12, ch14, ch16, ch18, vc6] : List Int32).map (nar .char)) t396 kb396 (7 : Int32) _ cs T396.heap n0 Zs396 (own_stakeep SV K396) (PAV.keep K396 nin0) (PEV.keep K396) (f_LISTED.keep K396 nin0) (es_LISTED.keep K396) (cs_LISTED.keep K396 nin0) (vs_LISTED.keep K396 nin0) (as_LISTED.keep K396 nin0) (f_SEEDED.keep K396 nin0) (es_SEEDED.keep K396) (cs_SEEDED.keep K396 nin0) (vs_SEEDED.keep K396 nin0) (as_SEEDED.keep K396 nin0) x396_e x396_v x396_c x396_a hcs396 (own_up _ hps396) (Nat.le_of_ble_eq_true rfl) (own_stakeep S1 K396) hs1) hZ4 (hw _ (List.mem_of_getElem? (i := 64) rfl)) (hw _ (List.mem_of_getElem? (i := 63) rfl)) (by decide) (by decide)) (g := (mkF m 302 #[.val (.int p1), .val (.int p2), .val (.long q3), .second, .val (.ref a4), .val (.int vl), .val (.int ch8), .val (.int ch10), .val (.int ch12), .val (.int ch14), .val (.int ch16), .val (.int ch18), .val (.int vc6), .val (.ref b319), .val (.ref a_LISTED)] [(.ref b319)])) rfl (by rw [hml]; rfl) (argsL := [(.ref b319)]) (rest := []) (lenOf pd_6 rfl) rfl (by show 2 * 0 + _ ≤ _; exact Nat.le_of_eq rfl) (hb hby at_302) (fun _ _ => ⟨rfl, e435, (by decide : 5 + 1 ≤ _), (by decide : 46 + 2 ≤ _)⟩)
            dsimp only [Pt.U, Pt.locs, Pt.cells, Pt.slots] at X437 l437 y437 z437 st437 hQ437
            subst l437 y437 z437
            obtain ⟨hv437, N437q, K437q⟩ := hQ437
            rw [show own_named (([ch8, ch10, ch12, ch14, ch16, ch18, vc6] : List Int32).map (nar .char)) a_LISTED a_SEEDED = .ref a_LISTED from (by unfold own_named; rw [if_pos (own_yes hvq406 hc268_407).symm])] at hv437
            subst hv437
            have N437 := Fr.app N396 N437q
            have hku437 := Nat.le_trans hku396 K437q.1
            have K437 := (K396).trans K437q all0
            have Zs437 : n0 ≤ T437.heap.size := Nat.le_trans Zs396 K437q.1
            have k437 : Go p e below (s₁.setTop (entryFrame m #[(.int p1), (.int p2), (.long q3)] maxLocals)) (T437.setTop (mkF m 305 #[.val (.int p1), .val (.int p2), .val (.long q3), .second, .val (.ref a4), .val (.int vl), .val (.int ch8), .val (.int ch10), .val (.int ch12), .val (.int ch14), .val (.int ch16), .val (.int ch18), .val (.int vc6), .val (.ref b319), .val (.ref a_LISTED)] [(.ref a_LISTED)])) := fun t kk => k436 t (st437 t kk)
            have k438 : Go p e below (s₁.setTop (entryFrame m #[(.int p1), (.int p2), (.long q3)] maxLocals)) (T437.setTop (mkF m 315 #[.val (.int p1), .val (.int p2), .val (.long q3), .second, .val (.ref a4), .val (.int vl), .val (.int ch8), .val (.int ch10), .val (.int ch12), .val (.int ch14), .val (.int ch16), .val (.int ch18), .val (.int vc6), .val (.ref b319), .val (.ref a_LISTED)] [(.int (1 : Int32))])) := fun t kk => k437 t (by
              show Steps p.tables e below (T437.setTop (mkF m 305 #[.val (.int p1), .val (.int p2), .val (.long q3), .second, .val (.ref a4), .val (.int vl), .val (.int ch8), .val (.int ch10), .val (.int ch12), .val (.int ch14), .val (.int ch16), .val (.int ch18), .val (.int vc6), .val (.ref b319), .val (.ref a_LISTED)] [(.ref a_LISTED)])) _
              refine XS.aload X437.here hx rfl (hb hby at_305) rfl rfl ?_
              show Steps p.tables e below (T437.setTop (mkF m 307 #[.val (.int p1), .val (.int p2), .val (.long q3), .second, .val (.ref a4), .val (.int vl), .val (.int ch8), .val (.int ch10), .val (.int ch12), .val (.int ch14), .val (.int ch16), .val (.int ch18), .val (.int vc6), .val (.ref b319), .val (.ref a_LISTED)] [(.ref a_LISTED), (.ref a_LISTED)])) _
              refine Jvm.RoadKit.acmp (g := (mkF m 307 #[.val (.int p1), .val (.int p2), .val (.long q3), .second, .val (.ref a4), .val (.int vl), .val (.int ch8), .val (.int ch10), .val (.int ch12), .val (.int ch14), .val (.int ch16), .val (.int ch18), .val (.int vc6), .val (.ref b319), .val (.ref a_LISTED)] [(.ref a_LISTED), (.ref a_LISTED)])) X437 hx rfl rfl rfl (pc0 := 307) (pc' := 310) (same := true) rfl (hb hby at_307) rfl (decide_eq_true (rfl : (Value.ref a_LISTED) = (Value.ref a_LISTED))) (by decide) (by decide) ?_
              show Steps p.tables e below (T437.setTop (mkF m 310 #[.val (.int p1), .val (.int p2), .val (.long q3), .second, .val (.ref a4), .val (.int vl), .val (.int ch8), .val (.int ch10), .val (.int ch12), .val (.int ch14), .val (.int ch16), .val (.int ch18), .val (.int vc6), .val (.ref b319), .val (.ref a_LISTED)] [])) _
              refine XS.iconst X437.here hx rfl (hb hby at_310) ?_
              show Steps p.tables e below (T437.setTop (mkF m 311 #[.val (.int p1), .val (.int p2), .val (.long q3), .second, .val (.ref a4), .val (.int vl), .val (.int ch8), .val (.int ch10), .val (.int ch12), .val (.int ch14), .val (.int ch16), .val (.int ch18), .val (.int vc6), .val (.ref b319), .val (.ref a_LISTED)] [(.int (1 : Int32))])) _
              refine XS.goto X437.here hx rfl (pc0 := 311) (pc' := 315) rfl (hb hby at_311) (by decide) (by decide) ?_
              exact kk)
            have Xb440 : Stand p l e room_1 (s.setVm T4.vm) m #[(.int p1), (.int p2), (.long q3)] below meth c T437 _ _ _ := X437
            obtain ⟨fs, hr, hrun, hended, hW⟩ := leaveW Xb440 hS4 hku437 (v := some (.int (1 : Int32))) (fun h => by rw [Bd.returns] at h; cases h)
            refine ⟨_, _, k438 _ ?_, hrun, hended, _, _, rfl, ?_, hW.1, hW.2.1, hW.2.2.1, hW.2.2.2.mono (by decide) (by decide)⟩
            · show Steps p.tables e below (T437.setTop (mkF m 315 #[.val (.int p1), .val (.int p2), .val (.long q3), .second, .val (.ref a4), .val (.int vl), .val (.int ch8), .val (.int ch10), .val (.int ch12), .val (.int ch14), .val (.int ch16), .val (.int ch18), .val (.int vc6), .val (.ref b319), .val (.ref a_LISTED)] [(.int (1 : Int32))])) _
              exact retN X437 hx (t := .boolean) Bd.returns (by simp) (hb hby at_315) hr
            · show Q0 Z p1 p2 q3 a__VALUES kV a_LISTED a_SEEDED s_LISTED t_LISTED kL s_SEEDED t_SEEDED kS cs fm h0 n0 _ T437.heap _
              exact ⟨rfl, N437⟩
  · have k441 : Go p e below (s₁.setTop (entryFrame m #[(.int p1), (.int p2), (.long q3)] maxLocals)) (s₁.setTop (mkF m 6 #[.val (.int p1), .val (.int p2), .val (.long q3), .second, .unset, .unset, .unset, .unset, .unset, .unset, .unset, .unset, .unset, .unset, .unset] [])) := fun t kk => k1 t (by
      show Steps p.tables e below (s₁.setTop (mkF m 3 #[.val (.int p1), .val (.int p2), .val (.long q3), .second, .unset, .unset, .unset, .unset, .unset, .unset, .unset, .unset, .unset, .unset, .unset] [(.int (p1 &&& (1 : Int32)))])) _
      refine XS.ifNo X0.here hx rfl (hb hby at_3) rfl ((if0 _ _).trans (feq hc3_2).1) ?_
      exact kk)
    have wS0 : ∀ d ∈ Bundle.stringAtoms, d.before a0 Z = true := fun d hd => by
      simp only [Bundle.stringAtoms, Bundle.sN, List.mem_cons, List.not_mem_nil, or_false] at hd
      rcases hd with rfl | rfl | rfl | rfl | rfl | rfl | rfl
      · exact (hw _ (List.mem_of_getElem? (i := 1) rfl))
      · exact (hw _ (List.mem_of_getElem? (i := 2) rfl))
      · exact (hw _ (List.mem_of_getElem? (i := 3) rfl))
      · exact (hw _ (List.mem_of_getElem? (i := 4) rfl))
      · exact (hw _ (List.mem_of_getElem? (i := 5) rfl))
      · exact (hw _ (List.mem_of_getElem? (i := 6) rfl))
      · exact (hw _ (List.mem_of_getElem? (i := 7) rfl))
    have Xb443 : Stand p l e room_1 (s.setVm s.vm) m #[(.int p1), (.int p2), (.long q3)] below meth c s₁ _ _ _ := X0
    obtain ⟨a442, T442, h442, kn442, b442, kc442, X442, e442, E442, hS442, hk442, hZ442, hown442, xe442, xc442, xv442, V442, -, -, Cn442, lit442, nsf442, st442⟩ := ldcCH (s := s) (vm0 := s.vm) Xb443 hx hZ hown (hw _ (List.mem_of_getElem? (i := 60) rfl)) wS0 e0 hS0 (Nat.zero_le _) (EW.cons (hw _ (List.mem_of_getElem? (i := 60) rfl)) (by decide) (EW.cons (hw _ (List.mem_of_getElem? (i := 0) rfl)) (by decide) (EW.cons (hw _ (List.mem_of_getElem? (i := 50) rfl)) (by decide) EW.nil))) (List.mem_of_getElem? (i := 0) rfl) C0.1 (vs := [(.int (115 : Int32)), (.int (101 : Int32)), (.int (101 : Int32)), (.int (100 : Int32)), (.int (101 : Int32)), (.int (100 : Int32))]) (z := 6) ⟨by decide, by decide⟩ (by decide) rfl (g := (mkF m 6 #[.val (.int p1), .val (.int p2), .val (.long q3), .second, .unset, .unset, .unset, .unset, .unset, .unset, .unset, .unset, .unset, .unset, .unset] [])) rfl (hb hby at_6) (n := 24) (by decide) (by decide) (by decide) (by decide)
    have C442 := C0.trans Cn442
    have K442 := ((Keep.refl h0 [])).ext E442
    have Zs442 : n0 ≤ h442.size := Nat.le_trans Z0 E442.1
    have k442 : Go p e below (s₁.setTop (entryFrame m #[(.int p1), (.int p2), (.long q3)] maxLocals)) (T442.setTop (mkF m 8 #[.val (.int p1), .val (.int p2), .val (.long q3), .second, .unset, .unset, .unset, .unset, .unset, .unset, .unset, .unset, .unset, .unset, .unset] [(.ref a442)])) := fun t kk => k441 t (st442 t kk)
    have k444 : Go p e below (s₁.setTop (entryFrame m #[(.int p1), (.int p2), (.long q3)] maxLocals)) (T442.setTop (mkF m 22 #[.val (.int p1), .val (.int p2), .val (.long q3), .second, .val (.ref a442), .val (.int (((p1.toUInt32 >>> ((1 : Int32) &&& 31).toUInt32).toInt32) &&& (3 : Int32))), .unset, .unset, .unset, .unset, .unset, .unset, .unset, .unset, .unset] [])) := fun t kk => k442 t (by
      show Steps p.tables e below (T442.setTop (mkF m 8 #[.val (.int p1), .val (.int p2), .val (.long q3), .second, .unset, .unset, .unset, .unset, .unset, .unset, .unset, .unset, .unset, .unset, .unset] [(.ref a442)])) _
      refine XS.goto X442.here hx rfl (pc0 := 8) (pc' := 13) rfl (hb hby at_8) (by decide) (by decide) ?_
      show Steps p.tables e below (T442.setTop (mkF m 13 #[.val (.int p1), .val (.int p2), .val (.long q3), .second, .unset, .unset, .unset, .unset, .unset, .unset, .unset, .unset, .unset, .unset, .unset] [(.ref a442)])) _
      refine XS.astore X442.here hx rfl (hb hby at_13) rfl rfl (l' := #[.val (.int p1), .val (.int p2), .val (.long q3), .second, .val (.ref a442), .unset, .unset, .unset, .unset, .unset, .unset, .unset, .unset, .unset, .unset]) rfl ?_
      show Steps p.tables e below (T442.setTop (mkF m 15 #[.val (.int p1), .val (.int p2), .val (.long q3), .second, .val (.ref a442), .unset, .unset, .unset, .unset, .unset, .unset, .unset, .unset, .unset, .unset] [])) _
      refine XS.iloadN X442.here hx rfl (hb hby at_15) rfl ?_
      show Steps p.tables e below (T442.setTop (mkF m 16 #[.val (.int p1), .val (.int p2), .val (.long q3), .second, .val (.ref a442), .unset, .unset, .unset, .unset, .unset, .unset, .unset, .unset, .unset, .unset] [(.int p1)])) _
      refine XS.iconst X442.here hx rfl (hb hby at_16) ?_
      show Steps p.tables e below (T442.setTop (mkF m 17 #[.val (.int p1), .val (.int p2), .val (.long q3), .second, .val (.ref a442), .unset, .unset, .unset, .unset, .unset, .unset, .unset, .unset, .unset, .unset] [(.int (1 : Int32)), (.int p1)])) _
      refine XS.iushr X442.here hx rfl (hb hby at_17) rfl ?_
      show Steps p.tables e below (T442.setTop (mkF m 18 #[.val (.int p1), .val (.int p2), .val (.long q3), .second, .val (.ref a442), .unset, .unset, .unset, .unset, .unset, .unset, .unset, .unset, .unset, .unset] [(.int ((p1.toUInt32 >>> ((1 : Int32) &&& 31).toUInt32).toInt32))])) _
      refine XS.iconst X442.here hx rfl (hb hby at_18) ?_
      show Steps p.tables e below (T442.setTop (mkF m 19 #[.val (.int p1), .val (.int p2), .val (.long q3), .second, .val (.ref a442), .unset, .unset, .unset, .unset, .unset, .unset, .unset, .unset, .unset, .unset] [(.int (3 : Int32)), (.int ((p1.toUInt32 >>> ((1 : Int32) &&& 31).toUInt32).toInt32))])) _
      refine XS.iand X442.here hx rfl (hb hby at_19) rfl ?_
      show Steps p.tables e below (T442.setTop (mkF m 20 #[.val (.int p1), .val (.int p2), .val (.long q3), .second, .val (.ref a442), .unset, .unset, .unset, .unset, .unset, .unset, .unset, .unset, .unset, .unset] [(.int (((p1.toUInt32 >>> ((1 : Int32) &&& 31).toUInt32).toInt32) &&& (3 : Int32)))])) _
      refine XS.istore X442.here hx rfl (hb hby at_20) rfl (l' := #[.val (.int p1), .val (.int p2), .val (.long q3), .second, .val (.ref a442), .val (.int (((p1.toUInt32 >>> ((1 : Int32) &&& 31).toUInt32).toInt32) &&& (3 : Int32))), .unset, .unset, .unset, .unset, .unset, .unset, .unset, .unset, .unset]) rfl ?_
      exact kk)
    obtain ⟨vl, h_vl⟩ : ∃ z : Int32, z = (((p1.toUInt32 >>> ((1 : Int32) &&& 31).toUInt32).toInt32) &&& (3 : Int32)) := ⟨_, rfl⟩
    rw [← h_vl] at k444
    have k445 : Go p e below (s₁.setTop (entryFrame m #[(.int p1), (.int p2), (.long q3)] maxLocals)) (T442.setTop (mkF m 27 #[.val (.int p1), .val (.int p2), .val (.long q3), .second, .val (.ref a442), .val (.int vl), .unset, .unset, .unset, .unset, .unset, .unset, .unset, .unset, .unset] [(.long q3), (.int p2), (.int (0 : Int32)), (.ref a442)])) := fun t kk => k444 t (by
      show Steps p.tables e below (T442.setTop (mkF m 22 #[.val (.int p1), .val (.int p2), .val (.long q3), .second, .val (.ref a442), .val (.int vl), .unset, .unset, .unset, .unset, .unset, .unset, .unset, .unset, .unset] [])) _
      refine XS.aload X442.here hx rfl (hb hby at_22) rfl rfl ?_
      show Steps p.tables e below (T442.setTop (mkF m 24 #[.val (.int p1), .val (.int p2), .val (.long q3), .second, .val (.ref a442), .val (.int vl), .unset, .unset, .unset, .unset, .unset, .unset, .unset, .unset, .unset] [(.ref a442)])) _
      refine XS.iconst X442.here hx rfl (hb hby at_24) ?_
      show Steps p.tables e below (T442.setTop (mkF m 25 #[.val (.int p1), .val (.int p2), .val (.long q3), .second, .val (.ref a442), .val (.int vl), .unset, .unset, .unset, .unset, .unset, .unset, .unset, .unset, .unset] [(.int (0 : Int32)), (.ref a442)])) _
      refine XS.iloadN X442.here hx rfl (hb hby at_25) rfl ?_
      show Steps p.tables e below (T442.setTop (mkF m 26 #[.val (.int p1), .val (.int p2), .val (.long q3), .second, .val (.ref a442), .val (.int vl), .unset, .unset, .unset, .unset, .unset, .unset, .unset, .unset, .unset] [(.int p2), (.int (0 : Int32)), (.ref a442)])) _
      refine XS.lloadN X442.here hx rfl (hb hby at_26) rfl ?_
      exact kk)
    obtain ⟨_, _, ⟨T446, L446, kx446, nx446⟩, -, X446, ⟨Lc446, hQ446, l446, y446, z446⟩, st446⟩ := Jvm.LawKit.callS X442 hx (y := (⟨"com/example/tabularium/tabularium/record/DealNamedPinLaw", "pick", "(Ljava/lang/String;IIJ)C"⟩ : MethodName)) hown442 (mvT hZ442 (hw _ (List.mem_of_getElem? (i := 8) rfl))) (mvT hZ442 (hw _ (List.mem_of_getElem? (i := 9) rfl))) (mvT hZ442 (hw _ (List.mem_of_getElem? (i := 10) rfl))) (mvT hZ442 (hw _ (List.mem_of_getElem? (i := 11) rfl))) (by decide) (backOf (W := 0) (rmK l Z a0 hw [] a442 (0 : Int32) p2 q3 own_S b442 kc442 (6 : Int32) _ cs fm 0 h442 n0 Zs442 xe442 xv442 xc442 V442 own_Sc own_Sb (own_stakeep S1 K442) hs1 (own_stakeep SF1 K442) rf1 (by decide) (by decide) rfl) hZ442 (hw _ (List.mem_of_getElem? (i := 11) rfl)) (hw _ (List.mem_of_getElem? (i := 10) rfl)) (by decide) (by decide)) (g := (mkF m 27 #[.val (.int p1), .val (.int p2), .val (.long q3), .second, .val (.ref a442), .val (.int vl), .unset, .unset, .unset, .unset, .unset, .unset, .unset, .unset, .unset] [(.long q3), (.int p2), (.int (0 : Int32)), (.ref a442)])) rfl (by rw [hml]; rfl) (argsL := [(.ref a442), (.int (0 : Int32)), (.int p2), (.long q3)]) (rest := []) (lenOf pd_4 rfl) rfl (by show 2 * 0 + _ ≤ _; exact Nat.le_of_eq rfl) (hb hby at_27) (fun _ _ => ⟨rfl, e442, (by decide : 2 + 0 ≤ _), (by decide : 28 + 0 ≤ _)⟩)
    dsimp only [Pt.U, Pt.locs, Pt.cells, Pt.slots] at X446 l446 y446 z446 st446 hQ446
    subst l446 y446 z446
    obtain ⟨ch446, rfl, hb446, rfl, e446⟩ := hQ446
    try rw [List.append_nil] at X446
    have k446 : Go p e below (s₁.setTop (entryFrame m #[(.int p1), (.int p2), (.long q3)] maxLocals)) (T446.setTop (mkF m 30 #[.val (.int p1), .val (.int p2), .val (.long q3), .second, .val (.ref a442), .val (.int vl), .unset, .unset, .unset, .unset, .unset, .unset, .unset, .unset, .unset] [(.int ch446)])) := fun t kk => k445 t (st446 t kk)
    have k447 : Go p e below (s₁.setTop (entryFrame m #[(.int p1), (.int p2), (.long q3)] maxLocals)) (T446.setTop (mkF m 37 #[.val (.int p1), .val (.int p2), .val (.long q3), .second, .val (.ref a442), .val (.int vl), .val (.int ch446), .unset, .unset, .unset, .unset, .unset, .unset, .unset, .unset] [(.long q3), (.int p2), (.int (1 : Int32)), (.ref a442)])) := fun t kk => k446 t (by
      show Steps p.tables e below (T446.setTop (mkF m 30 #[.val (.int p1), .val (.int p2), .val (.long q3), .second, .val (.ref a442), .val (.int vl), .unset, .unset, .unset, .unset, .unset, .unset, .unset, .unset, .unset] [(.int ch446)])) _
      refine XS.istore X446.here hx rfl (hb hby at_30) rfl (l' := #[.val (.int p1), .val (.int p2), .val (.long q3), .second, .val (.ref a442), .val (.int vl), .val (.int ch446), .unset, .unset, .unset, .unset, .unset, .unset, .unset, .unset]) rfl ?_
      show Steps p.tables e below (T446.setTop (mkF m 32 #[.val (.int p1), .val (.int p2), .val (.long q3), .second, .val (.ref a442), .val (.int vl), .val (.int ch446), .unset, .unset, .unset, .unset, .unset, .unset, .unset, .unset] [])) _
      refine XS.aload X446.here hx rfl (hb hby at_32) rfl rfl ?_
      show Steps p.tables e below (T446.setTop (mkF m 34 #[.val (.int p1), .val (.int p2), .val (.long q3), .second, .val (.ref a442), .val (.int vl), .val (.int ch446), .unset, .unset, .unset, .unset, .unset, .unset, .unset, .unset] [(.ref a442)])) _
      refine XS.iconst X446.here hx rfl (hb hby at_34) ?_
      show Steps p.tables e below (T446.setTop (mkF m 35 #[.val (.int p1), .val (.int p2), .val (.long q3), .second, .val (.ref a442), .val (.int vl), .val (.int ch446), .unset, .unset, .unset, .unset, .unset, .unset, .unset, .unset] [(.int (1 : Int32)), (.ref a442)])) _
      refine XS.iloadN X446.here hx rfl (hb hby at_35) rfl ?_
      show Steps p.tables e below (T446.setTop (mkF m 36 #[.val (.int p1), .val (.int p2), .val (.long q3), .second, .val (.ref a442), .val (.int vl), .val (.int ch446), .unset, .unset, .unset, .unset, .unset, .unset, .unset, .unset] [(.int p2), (.int (1 : Int32)), (.ref a442)])) _
      refine XS.lloadN X446.here hx rfl (hb hby at_36) rfl ?_
      exact kk)
    obtain ⟨_, _, ⟨T448, L448, kx448, nx448⟩, -, X448, ⟨Lc448, hQ448, l448, y448, z448⟩, st448⟩ := Jvm.LawKit.callS X446 hx (y := (⟨"com/example/tabularium/tabularium/record/DealNamedPinLaw", "pick", "(Ljava/lang/String;IIJ)C"⟩ : MethodName)) hown442 (mvT hZ442 (hw _ (List.mem_of_getElem? (i := 8) rfl))) (mvT hZ442 (hw _ (List.mem_of_getElem? (i := 9) rfl))) (mvT hZ442 (hw _ (List.mem_of_getElem? (i := 10) rfl))) (mvT hZ442 (hw _ (List.mem_of_getElem? (i := 11) rfl))) (by decide) (backOf (W := 0) (rmK l Z a0 hw [] a442 (1 : Int32) p2 q3 own_S b442 kc442 (6 : Int32) _ cs fm 1 h442 n0 Zs442 xe442 xv442 xc442 V442 own_Sc own_Sb (own_stakeep S1 K442) hs1 (own_stakeep SF1 K442) rf1 (by decide) (by decide) rfl) hZ442 (hw _ (List.mem_of_getElem? (i := 11) rfl)) (hw _ (List.mem_of_getElem? (i := 10) rfl)) (by decide) (by decide)) (g := (mkF m 37 #[.val (.int p1), .val (.int p2), .val (.long q3), .second, .val (.ref a442), .val (.int vl), .val (.int ch446), .unset, .unset, .unset, .unset, .unset, .unset, .unset, .unset] [(.long q3), (.int p2), (.int (1 : Int32)), (.ref a442)])) rfl (by rw [hml]; rfl) (argsL := [(.ref a442), (.int (1 : Int32)), (.int p2), (.long q3)]) (rest := []) (lenOf pd_4 rfl) rfl (by show 2 * 0 + _ ≤ _; exact Nat.le_of_eq rfl) (hb hby at_37) (fun _ _ => ⟨rfl, e446, (by decide : 2 + 0 ≤ _), (by decide : 28 + 0 ≤ _)⟩)
    dsimp only [Pt.U, Pt.locs, Pt.cells, Pt.slots] at X448 l448 y448 z448 st448 hQ448
    subst l448 y448 z448
    obtain ⟨ch448, rfl, hb448, rfl, e448⟩ := hQ448
    try rw [List.append_nil] at X448
    have k448 : Go p e below (s₁.setTop (entryFrame m #[(.int p1), (.int p2), (.long q3)] maxLocals)) (T448.setTop (mkF m 40 #[.val (.int p1), .val (.int p2), .val (.long q3), .second, .val (.ref a442), .val (.int vl), .val (.int ch446), .unset, .unset, .unset, .unset, .unset, .unset, .unset, .unset] [(.int ch448)])) := fun t kk => k447 t (st448 t kk)
    have k449 : Go p e below (s₁.setTop (entryFrame m #[(.int p1), (.int p2), (.long q3)] maxLocals)) (T448.setTop (mkF m 47 #[.val (.int p1), .val (.int p2), .val (.long q3), .second, .val (.ref a442), .val (.int vl), .val (.int ch446), .val (.int ch448), .unset, .unset, .unset, .unset, .unset, .unset, .unset] [(.long q3), (.int p2), (.int (2 : Int32)), (.ref a442)])) := fun t kk => k448 t (by
      show Steps p.tables e below (T448.setTop (mkF m 40 #[.val (.int p1), .val (.int p2), .val (.long q3), .second, .val (.ref a442), .val (.int vl), .val (.int ch446), .unset, .unset, .unset, .unset, .unset, .unset, .unset, .unset] [(.int ch448)])) _
      refine XS.istore X448.here hx rfl (hb hby at_40) rfl (l' := #[.val (.int p1), .val (.int p2), .val (.long q3), .second, .val (.ref a442), .val (.int vl), .val (.int ch446), .val (.int ch448), .unset, .unset, .unset, .unset, .unset, .unset, .unset]) rfl ?_
      show Steps p.tables e below (T448.setTop (mkF m 42 #[.val (.int p1), .val (.int p2), .val (.long q3), .second, .val (.ref a442), .val (.int vl), .val (.int ch446), .val (.int ch448), .unset, .unset, .unset, .unset, .unset, .unset, .unset] [])) _
      refine XS.aload X448.here hx rfl (hb hby at_42) rfl rfl ?_
      show Steps p.tables e below (T448.setTop (mkF m 44 #[.val (.int p1), .val (.int p2), .val (.long q3), .second, .val (.ref a442), .val (.int vl), .val (.int ch446), .val (.int ch448), .unset, .unset, .unset, .unset, .unset, .unset, .unset] [(.ref a442)])) _
      refine XS.iconst X448.here hx rfl (hb hby at_44) ?_
      show Steps p.tables e below (T448.setTop (mkF m 45 #[.val (.int p1), .val (.int p2), .val (.long q3), .second, .val (.ref a442), .val (.int vl), .val (.int ch446), .val (.int ch448), .unset, .unset, .unset, .unset, .unset, .unset, .unset] [(.int (2 : Int32)), (.ref a442)])) _
      refine XS.iloadN X448.here hx rfl (hb hby at_45) rfl ?_
      show Steps p.tables e below (T448.setTop (mkF m 46 #[.val (.int p1), .val (.int p2), .val (.long q3), .second, .val (.ref a442), .val (.int vl), .val (.int ch446), .val (.int ch448), .unset, .unset, .unset, .unset, .unset, .unset, .unset] [(.int p2), (.int (2 : Int32)), (.ref a442)])) _
      refine XS.lloadN X448.here hx rfl (hb hby at_46) rfl ?_
      exact kk)
    obtain ⟨_, _, ⟨T450, L450, kx450, nx450⟩, -, X450, ⟨Lc450, hQ450, l450, y450, z450⟩, st450⟩ := Jvm.LawKit.callS X448 hx (y := (⟨"com/example/tabularium/tabularium/record/DealNamedPinLaw", "pick", "(Ljava/lang/String;IIJ)C"⟩ : MethodName)) hown442 (mvT hZ442 (hw _ (List.mem_of_getElem? (i := 8) rfl))) (mvT hZ442 (hw _ (List.mem_of_getElem? (i := 9) rfl))) (mvT hZ442 (hw _ (List.mem_of_getElem? (i := 10) rfl))) (mvT hZ442 (hw _ (List.mem_of_getElem? (i := 11) rfl))) (by decide) (backOf (W := 0) (rmK l Z a0 hw [] a442 (2 : Int32) p2 q3 own_S b442 kc442 (6 : Int32) _ cs fm 2 h442 n0 Zs442 xe442 xv442 xc442 V442 own_Sc own_Sb (own_stakeep S1 K442) hs1 (own_stakeep SF1 K442) rf1 (by decide) (by decide) rfl) hZ442 (hw _ (List.mem_of_getElem? (i := 11) rfl)) (hw _ (List.mem_of_getElem? (i := 10) rfl)) (by decide) (by decide)) (g := (mkF m 47 #[.val (.int p1), .val (.int p2), .val (.long q3), .second, .val (.ref a442), .val (.int vl), .val (.int ch446), .val (.int ch448), .unset, .unset, .unset, .unset, .unset, .unset, .unset] [(.long q3), (.int p2), (.int (2 : Int32)), (.ref a442)])) rfl (by rw [hml]; rfl) (argsL := [(.ref a442), (.int (2 : Int32)), (.int p2), (.long q3)]) (rest := []) (lenOf pd_4 rfl) rfl (by show 2 * 0 + _ ≤ _; exact Nat.le_of_eq rfl) (hb hby at_47) (fun _ _ => ⟨rfl, e448, (by decide : 2 + 0 ≤ _), (by decide : 28 + 0 ≤ _)⟩)
    dsimp only [Pt.U, Pt.locs, Pt.cells, Pt.slots] at X450 l450 y450 z450 st450 hQ450
    subst l450 y450 z450
    obtain ⟨ch450, rfl, hb450, rfl, e450⟩ := hQ450
    try rw [List.append_nil] at X450
    have k450 : Go p e below (s₁.setTop (entryFrame m #[(.int p1), (.int p2), (.long q3)] maxLocals)) (T450.setTop (mkF m 50 #[.val (.int p1), .val (.int p2), .val (.long q3), .second, .val (.ref a442), .val (.int vl), .val (.int ch446), .val (.int ch448), .unset, .unset, .unset, .unset, .unset, .unset, .unset] [(.int ch450)])) := fun t kk => k449 t (st450 t kk)
    have k451 : Go p e below (s₁.setTop (entryFrame m #[(.int p1), (.int p2), (.long q3)] maxLocals)) (T450.setTop (mkF m 57 #[.val (.int p1), .val (.int p2), .val (.long q3), .second, .val (.ref a442), .val (.int vl), .val (.int ch446), .val (.int ch448), .val (.int ch450), .unset, .unset, .unset, .unset, .unset, .unset] [(.long q3), (.int p2), (.int (3 : Int32)), (.ref a442)])) := fun t kk => k450 t (by
      show Steps p.tables e below (T450.setTop (mkF m 50 #[.val (.int p1), .val (.int p2), .val (.long q3), .second, .val (.ref a442), .val (.int vl), .val (.int ch446), .val (.int ch448), .unset, .unset, .unset, .unset, .unset, .unset, .unset] [(.int ch450)])) _
      refine XS.istore X450.here hx rfl (hb hby at_50) rfl (l' := #[.val (.int p1), .val (.int p2), .val (.long q3), .second, .val (.ref a442), .val (.int vl), .val (.int ch446), .val (.int ch448), .val (.int ch450), .unset, .unset, .unset, .unset, .unset, .unset]) rfl ?_
      show Steps p.tables e below (T450.setTop (mkF m 52 #[.val (.int p1), .val (.int p2), .val (.long q3), .second, .val (.ref a442), .val (.int vl), .val (.int ch446), .val (.int ch448), .val (.int ch450), .unset, .unset, .unset, .unset, .unset, .unset] [])) _
      refine XS.aload X450.here hx rfl (hb hby at_52) rfl rfl ?_
      show Steps p.tables e below (T450.setTop (mkF m 54 #[.val (.int p1), .val (.int p2), .val (.long q3), .second, .val (.ref a442), .val (.int vl), .val (.int ch446), .val (.int ch448), .val (.int ch450), .unset, .unset, .unset, .unset, .unset, .unset] [(.ref a442)])) _
      refine XS.iconst X450.here hx rfl (hb hby at_54) ?_
      show Steps p.tables e below (T450.setTop (mkF m 55 #[.val (.int p1), .val (.int p2), .val (.long q3), .second, .val (.ref a442), .val (.int vl), .val (.int ch446), .val (.int ch448), .val (.int ch450), .unset, .unset, .unset, .unset, .unset, .unset] [(.int (3 : Int32)), (.ref a442)])) _
      refine XS.iloadN X450.here hx rfl (hb hby at_55) rfl ?_
      show Steps p.tables e below (T450.setTop (mkF m 56 #[.val (.int p1), .val (.int p2), .val (.long q3), .second, .val (.ref a442), .val (.int vl), .val (.int ch446), .val (.int ch448), .val (.int ch450), .unset, .unset, .unset, .unset, .unset, .unset] [(.int p2), (.int (3 : Int32)), (.ref a442)])) _
      refine XS.lloadN X450.here hx rfl (hb hby at_56) rfl ?_
      exact kk)
    obtain ⟨_, _, ⟨T452, L452, kx452, nx452⟩, -, X452, ⟨Lc452, hQ452, l452, y452, z452⟩, st452⟩ := Jvm.LawKit.callS X450 hx (y := (⟨"com/example/tabularium/tabularium/record/DealNamedPinLaw", "pick", "(Ljava/lang/String;IIJ)C"⟩ : MethodName)) hown442 (mvT hZ442 (hw _ (List.mem_of_getElem? (i := 8) rfl))) (mvT hZ442 (hw _ (List.mem_of_getElem? (i := 9) rfl))) (mvT hZ442 (hw _ (List.mem_of_getElem? (i := 10) rfl))) (mvT hZ442 (hw _ (List.mem_of_getElem? (i := 11) rfl))) (by decide) (backOf (W := 0) (rmK l Z a0 hw [] a442 (3 : Int32) p2 q3 own_S b442 kc442 (6 : Int32) _ cs fm 3 h442 n0 Zs442 xe442 xv442 xc442 V442 own_Sc own_Sb (own_stakeep S1 K442) hs1 (own_stakeep SF1 K442) rf1 (by decide) (by decide) rfl) hZ442 (hw _ (List.mem_of_getElem? (i := 11) rfl)) (hw _ (List.mem_of_getElem? (i := 10) rfl)) (by decide) (by decide)) (g := (mkF m 57 #[.val (.int p1), .val (.int p2), .val (.long q3), .second, .val (.ref a442), .val (.int vl), .val (.int ch446), .val (.int ch448), .val (.int ch450), .unset, .unset, .unset, .unset, .unset, .unset] [(.long q3), (.int p2), (.int (3 : Int32)), (.ref a442)])) rfl (by rw [hml]; rfl) (argsL := [(.ref a442), (.int (3 : Int32)), (.int p2), (.long q3)]) (rest := []) (lenOf pd_4 rfl) rfl (by show 2 * 0 + _ ≤ _; exact Nat.le_of_eq rfl) (hb hby at_57) (fun _ _ => ⟨rfl, e450, (by decide : 2 + 0 ≤ _), (by decide : 28 + 0 ≤ _)⟩)
    dsimp only [Pt.U, Pt.locs, Pt.cells, Pt.slots] at X452 l452 y452 z452 st452 hQ452
    subst l452 y452 z452
    obtain ⟨ch452, rfl, hb452, rfl, e452⟩ := hQ452
    try rw [List.append_nil] at X452
    have k452 : Go p e below (s₁.setTop (entryFrame m #[(.int p1), (.int p2), (.long q3)] maxLocals)) (T452.setTop (mkF m 60 #[.val (.int p1), .val (.int p2), .val (.long q3), .second, .val (.ref a442), .val (.int vl), .val (.int ch446), .val (.int ch448), .val (.int ch450), .unset, .unset, .unset, .unset, .unset, .unset] [(.int ch452)])) := fun t kk => k451 t (st452 t kk)
    have k453 : Go p e below (s₁.setTop (entryFrame m #[(.int p1), (.int p2), (.long q3)] maxLocals)) (T452.setTop (mkF m 67 #[.val (.int p1), .val (.int p2), .val (.long q3), .second, .val (.ref a442), .val (.int vl), .val (.int ch446), .val (.int ch448), .val (.int ch450), .val (.int ch452), .unset, .unset, .unset, .unset, .unset] [(.long q3), (.int p2), (.int (4 : Int32)), (.ref a442)])) := fun t kk => k452 t (by
      show Steps p.tables e below (T452.setTop (mkF m 60 #[.val (.int p1), .val (.int p2), .val (.long q3), .second, .val (.ref a442), .val (.int vl), .val (.int ch446), .val (.int ch448), .val (.int ch450), .unset, .unset, .unset, .unset, .unset, .unset] [(.int ch452)])) _
      refine XS.istore X452.here hx rfl (hb hby at_60) rfl (l' := #[.val (.int p1), .val (.int p2), .val (.long q3), .second, .val (.ref a442), .val (.int vl), .val (.int ch446), .val (.int ch448), .val (.int ch450), .val (.int ch452), .unset, .unset, .unset, .unset, .unset]) rfl ?_
      show Steps p.tables e below (T452.setTop (mkF m 62 #[.val (.int p1), .val (.int p2), .val (.long q3), .second, .val (.ref a442), .val (.int vl), .val (.int ch446), .val (.int ch448), .val (.int ch450), .val (.int ch452), .unset, .unset, .unset, .unset, .unset] [])) _
      refine XS.aload X452.here hx rfl (hb hby at_62) rfl rfl ?_
      show Steps p.tables e below (T452.setTop (mkF m 64 #[.val (.int p1), .val (.int p2), .val (.long q3), .second, .val (.ref a442), .val (.int vl), .val (.int ch446), .val (.int ch448), .val (.int ch450), .val (.int ch452), .unset, .unset, .unset, .unset, .unset] [(.ref a442)])) _
      refine XS.iconst X452.here hx rfl (hb hby at_64) ?_
      show Steps p.tables e below (T452.setTop (mkF m 65 #[.val (.int p1), .val (.int p2), .val (.long q3), .second, .val (.ref a442), .val (.int vl), .val (.int ch446), .val (.int ch448), .val (.int ch450), .val (.int ch452), .unset, .unset, .unset, .unset, .unset] [(.int (4 : Int32)), (.ref a442)])) _
      refine XS.iloadN X452.here hx rfl (hb hby at_65) rfl ?_
      show Steps p.tables e below (T452.setTop (mkF m 66 #[.val (.int p1), .val (.int p2), .val (.long q3), .second, .val (.ref a442), .val (.int vl), .val (.int ch446), .val (.int ch448), .val (.int ch450), .val (.int ch452), .unset, .unset, .unset, .unset, .unset] [(.int p2), (.int (4 : Int32)), (.ref a442)])) _
      refine XS.lloadN X452.here hx rfl (hb hby at_66) rfl ?_
      exact kk)
    obtain ⟨_, _, ⟨T454, L454, kx454, nx454⟩, -, X454, ⟨Lc454, hQ454, l454, y454, z454⟩, st454⟩ := Jvm.LawKit.callS X452 hx (y := (⟨"com/example/tabularium/tabularium/record/DealNamedPinLaw", "pick", "(Ljava/lang/String;IIJ)C"⟩ : MethodName)) hown442 (mvT hZ442 (hw _ (List.mem_of_getElem? (i := 8) rfl))) (mvT hZ442 (hw _ (List.mem_of_getElem? (i := 9) rfl))) (mvT hZ442 (hw _ (List.mem_of_getElem? (i := 10) rfl))) (mvT hZ442 (hw _ (List.mem_of_getElem? (i := 11) rfl))) (by decide) (backOf (W := 0) (rmK l Z a0 hw [] a442 (4 : Int32) p2 q3 own_S b442 kc442 (6 : Int32) _ cs fm 4 h442 n0 Zs442 xe442 xv442 xc442 V442 own_Sc own_Sb (own_stakeep S1 K442) hs1 (own_stakeep SF1 K442) rf1 (by decide) (by decide) rfl) hZ442 (hw _ (List.mem_of_getElem? (i := 11) rfl)) (hw _ (List.mem_of_getElem? (i := 10) rfl)) (by decide) (by decide)) (g := (mkF m 67 #[.val (.int p1), .val (.int p2), .val (.long q3), .second, .val (.ref a442), .val (.int vl), .val (.int ch446), .val (.int ch448), .val (.int ch450), .val (.int ch452), .unset, .unset, .unset, .unset, .unset] [(.long q3), (.int p2), (.int (4 : Int32)), (.ref a442)])) rfl (by rw [hml]; rfl) (argsL := [(.ref a442), (.int (4 : Int32)), (.int p2), (.long q3)]) (rest := []) (lenOf pd_4 rfl) rfl (by show 2 * 0 + _ ≤ _; exact Nat.le_of_eq rfl) (hb hby at_67) (fun _ _ => ⟨rfl, e452, (by decide : 2 + 0 ≤ _), (by decide : 28 + 0 ≤ _)⟩)
    dsimp only [Pt.U, Pt.locs, Pt.cells, Pt.slots] at X454 l454 y454 z454 st454 hQ454
    subst l454 y454 z454
    obtain ⟨ch454, rfl, hb454, rfl, e454⟩ := hQ454
    try rw [List.append_nil] at X454
    have k454 : Go p e below (s₁.setTop (entryFrame m #[(.int p1), (.int p2), (.long q3)] maxLocals)) (T454.setTop (mkF m 70 #[.val (.int p1), .val (.int p2), .val (.long q3), .second, .val (.ref a442), .val (.int vl), .val (.int ch446), .val (.int ch448), .val (.int ch450), .val (.int ch452), .unset, .unset, .unset, .unset, .unset] [(.int ch454)])) := fun t kk => k453 t (st454 t kk)
    have k455 : Go p e below (s₁.setTop (entryFrame m #[(.int p1), (.int p2), (.long q3)] maxLocals)) (T454.setTop (mkF m 77 #[.val (.int p1), .val (.int p2), .val (.long q3), .second, .val (.ref a442), .val (.int vl), .val (.int ch446), .val (.int ch448), .val (.int ch450), .val (.int ch452), .val (.int ch454), .unset, .unset, .unset, .unset] [(.long q3), (.int p2), (.int (5 : Int32)), (.ref a442)])) := fun t kk => k454 t (by
      show Steps p.tables e below (T454.setTop (mkF m 70 #[.val (.int p1), .val (.int p2), .val (.long q3), .second, .val (.ref a442), .val (.int vl), .val (.int ch446), .val (.int ch448), .val (.int ch450), .val (.int ch452), .unset, .unset, .unset, .unset, .unset] [(.int ch454)])) _
      refine XS.istore X454.here hx rfl (hb hby at_70) rfl (l' := #[.val (.int p1), .val (.int p2), .val (.long q3), .second, .val (.ref a442), .val (.int vl), .val (.int ch446), .val (.int ch448), .val (.int ch450), .val (.int ch452), .val (.int ch454), .unset, .unset, .unset, .unset]) rfl ?_
      show Steps p.tables e below (T454.setTop (mkF m 72 #[.val (.int p1), .val (.int p2), .val (.long q3), .second, .val (.ref a442), .val (.int vl), .val (.int ch446), .val (.int ch448), .val (.int ch450), .val (.int ch452), .val (.int ch454), .unset, .unset, .unset, .unset] [])) _
      refine XS.aload X454.here hx rfl (hb hby at_72) rfl rfl ?_
      show Steps p.tables e below (T454.setTop (mkF m 74 #[.val (.int p1), .val (.int p2), .val (.long q3), .second, .val (.ref a442), .val (.int vl), .val (.int ch446), .val (.int ch448), .val (.int ch450), .val (.int ch452), .val (.int ch454), .unset, .unset, .unset, .unset] [(.ref a442)])) _
      refine XS.iconst X454.here hx rfl (hb hby at_74) ?_
      show Steps p.tables e below (T454.setTop (mkF m 75 #[.val (.int p1), .val (.int p2), .val (.long q3), .second, .val (.ref a442), .val (.int vl), .val (.int ch446), .val (.int ch448), .val (.int ch450), .val (.int ch452), .val (.int ch454), .unset, .unset, .unset, .unset] [(.int (5 : Int32)), (.ref a442)])) _
      refine XS.iloadN X454.here hx rfl (hb hby at_75) rfl ?_
      show Steps p.tables e below (T454.setTop (mkF m 76 #[.val (.int p1), .val (.int p2), .val (.long q3), .second, .val (.ref a442), .val (.int vl), .val (.int ch446), .val (.int ch448), .val (.int ch450), .val (.int ch452), .val (.int ch454), .unset, .unset, .unset, .unset] [(.int p2), (.int (5 : Int32)), (.ref a442)])) _
      refine XS.lloadN X454.here hx rfl (hb hby at_76) rfl ?_
      exact kk)
    obtain ⟨_, _, ⟨T456, L456, kx456, nx456⟩, -, X456, ⟨Lc456, hQ456, l456, y456, z456⟩, st456⟩ := Jvm.LawKit.callS X454 hx (y := (⟨"com/example/tabularium/tabularium/record/DealNamedPinLaw", "pick", "(Ljava/lang/String;IIJ)C"⟩ : MethodName)) hown442 (mvT hZ442 (hw _ (List.mem_of_getElem? (i := 8) rfl))) (mvT hZ442 (hw _ (List.mem_of_getElem? (i := 9) rfl))) (mvT hZ442 (hw _ (List.mem_of_getElem? (i := 10) rfl))) (mvT hZ442 (hw _ (List.mem_of_getElem? (i := 11) rfl))) (by decide) (backOf (W := 0) (rmK l Z a0 hw [] a442 (5 : Int32) p2 q3 own_S b442 kc442 (6 : Int32) _ cs fm 5 h442 n0 Zs442 xe442 xv442 xc442 V442 own_Sc own_Sb (own_stakeep S1 K442) hs1 (own_stakeep SF1 K442) rf1 (by decide) (by decide) rfl) hZ442 (hw _ (List.mem_of_getElem? (i := 11) rfl)) (hw _ (List.mem_of_getElem? (i := 10) rfl)) (by decide) (by decide)) (g := (mkF m 77 #[.val (.int p1), .val (.int p2), .val (.long q3), .second, .val (.ref a442), .val (.int vl), .val (.int ch446), .val (.int ch448), .val (.int ch450), .val (.int ch452), .val (.int ch454), .unset, .unset, .unset, .unset] [(.long q3), (.int p2), (.int (5 : Int32)), (.ref a442)])) rfl (by rw [hml]; rfl) (argsL := [(.ref a442), (.int (5 : Int32)), (.int p2), (.long q3)]) (rest := []) (lenOf pd_4 rfl) rfl (by show 2 * 0 + _ ≤ _; exact Nat.le_of_eq rfl) (hb hby at_77) (fun _ _ => ⟨rfl, e454, (by decide : 2 + 0 ≤ _), (by decide : 28 + 0 ≤ _)⟩)
    dsimp only [Pt.U, Pt.locs, Pt.cells, Pt.slots] at X456 l456 y456 z456 st456 hQ456
    subst l456 y456 z456
    obtain ⟨ch456, rfl, hb456, rfl, e456⟩ := hQ456
    try rw [List.append_nil] at X456
    have k456 : Go p e below (s₁.setTop (entryFrame m #[(.int p1), (.int p2), (.long q3)] maxLocals)) (T456.setTop (mkF m 80 #[.val (.int p1), .val (.int p2), .val (.long q3), .second, .val (.ref a442), .val (.int vl), .val (.int ch446), .val (.int ch448), .val (.int ch450), .val (.int ch452), .val (.int ch454), .unset, .unset, .unset, .unset] [(.int ch456)])) := fun t kk => k455 t (st456 t kk)
    have k457 : Go p e below (s₁.setTop (entryFrame m #[(.int p1), (.int p2), (.long q3)] maxLocals)) (T456.setTop (mkF m 94 #[.val (.int p1), .val (.int p2), .val (.long q3), .second, .val (.ref a442), .val (.int vl), .val (.int ch446), .val (.int ch448), .val (.int ch450), .val (.int ch452), .val (.int ch454), .val (.int ch456), .val (.int (((((q3.toUInt64 >>> ((48 : Int32) &&& 0x3f).toInt64.toUInt64).toInt64) &&& (255 : Int64)).toInt32).toUInt32.toUInt16.toUInt32.toInt32)), .unset, .unset] [])) := fun t kk => k456 t (by
      show Steps p.tables e below (T456.setTop (mkF m 80 #[.val (.int p1), .val (.int p2), .val (.long q3), .second, .val (.ref a442), .val (.int vl), .val (.int ch446), .val (.int ch448), .val (.int ch450), .val (.int ch452), .val (.int ch454), .unset, .unset, .unset, .unset] [(.int ch456)])) _
      refine XS.istore X456.here hx rfl (hb hby at_80) rfl (l' := #[.val (.int p1), .val (.int p2), .val (.long q3), .second, .val (.ref a442), .val (.int vl), .val (.int ch446), .val (.int ch448), .val (.int ch450), .val (.int ch452), .val (.int ch454), .val (.int ch456), .unset, .unset, .unset]) rfl ?_
      show Steps p.tables e below (T456.setTop (mkF m 82 #[.val (.int p1), .val (.int p2), .val (.long q3), .second, .val (.ref a442), .val (.int vl), .val (.int ch446), .val (.int ch448), .val (.int ch450), .val (.int ch452), .val (.int ch454), .val (.int ch456), .unset, .unset, .unset] [])) _
      refine XS.lloadN X456.here hx rfl (hb hby at_82) rfl ?_
      show Steps p.tables e below (T456.setTop (mkF m 83 #[.val (.int p1), .val (.int p2), .val (.long q3), .second, .val (.ref a442), .val (.int vl), .val (.int ch446), .val (.int ch448), .val (.int ch450), .val (.int ch452), .val (.int ch454), .val (.int ch456), .unset, .unset, .unset] [(.long q3)])) _
      refine XS.bipush X456.here hx rfl (hb hby at_83) ?_
      show Steps p.tables e below (T456.setTop (mkF m 85 #[.val (.int p1), .val (.int p2), .val (.long q3), .second, .val (.ref a442), .val (.int vl), .val (.int ch446), .val (.int ch448), .val (.int ch450), .val (.int ch452), .val (.int ch454), .val (.int ch456), .unset, .unset, .unset] [(.int (48 : Int32)), (.long q3)])) _
      refine XS.lushr X456.here hx rfl (hb hby at_85) rfl ?_
      show Steps p.tables e below (T456.setTop (mkF m 86 #[.val (.int p1), .val (.int p2), .val (.long q3), .second, .val (.ref a442), .val (.int vl), .val (.int ch446), .val (.int ch448), .val (.int ch450), .val (.int ch452), .val (.int ch454), .val (.int ch456), .unset, .unset, .unset] [(.long ((q3.toUInt64 >>> ((48 : Int32) &&& 0x3f).toInt64.toUInt64).toInt64))])) _
      refine X456.ldc2Long hx hown442 (mvT hZ442 (hw _ (List.mem_of_getElem? (i := 12) rfl))) (g := (mkF m 86 #[.val (.int p1), .val (.int p2), .val (.long q3), .second, .val (.ref a442), .val (.int vl), .val (.int ch446), .val (.int ch448), .val (.int ch450), .val (.int ch452), .val (.int ch454), .val (.int ch456), .unset, .unset, .unset] [(.long ((q3.toUInt64 >>> ((48 : Int32) &&& 0x3f).toInt64.toUInt64).toInt64))])) rfl (hb hby at_86) _ ?_
      show Steps p.tables e below (T456.setTop (mkF m 89 #[.val (.int p1), .val (.int p2), .val (.long q3), .second, .val (.ref a442), .val (.int vl), .val (.int ch446), .val (.int ch448), .val (.int ch450), .val (.int ch452), .val (.int ch454), .val (.int ch456), .unset, .unset, .unset] [(.long (255 : Int64)), (.long ((q3.toUInt64 >>> ((48 : Int32) &&& 0x3f).toInt64.toUInt64).toInt64))])) _
      refine XS.land X456.here hx rfl (hb hby at_89) rfl ?_
      show Steps p.tables e below (T456.setTop (mkF m 90 #[.val (.int p1), .val (.int p2), .val (.long q3), .second, .val (.ref a442), .val (.int vl), .val (.int ch446), .val (.int ch448), .val (.int ch450), .val (.int ch452), .val (.int ch454), .val (.int ch456), .unset, .unset, .unset] [(.long (((q3.toUInt64 >>> ((48 : Int32) &&& 0x3f).toInt64.toUInt64).toInt64) &&& (255 : Int64)))])) _
      refine XS.l2i X456.here hx rfl (hb hby at_90) rfl ?_
      show Steps p.tables e below (T456.setTop (mkF m 91 #[.val (.int p1), .val (.int p2), .val (.long q3), .second, .val (.ref a442), .val (.int vl), .val (.int ch446), .val (.int ch448), .val (.int ch450), .val (.int ch452), .val (.int ch454), .val (.int ch456), .unset, .unset, .unset] [(.int ((((q3.toUInt64 >>> ((48 : Int32) &&& 0x3f).toInt64.toUInt64).toInt64) &&& (255 : Int64)).toInt32))])) _
      refine XS.i2c X456.here hx rfl (hb hby at_91) rfl ?_
      show Steps p.tables e below (T456.setTop (mkF m 92 #[.val (.int p1), .val (.int p2), .val (.long q3), .second, .val (.ref a442), .val (.int vl), .val (.int ch446), .val (.int ch448), .val (.int ch450), .val (.int ch452), .val (.int ch454), .val (.int ch456), .unset, .unset, .unset] [(.int (((((q3.toUInt64 >>> ((48 : Int32) &&& 0x3f).toInt64.toUInt64).toInt64) &&& (255 : Int64)).toInt32).toUInt32.toUInt16.toUInt32.toInt32))])) _
      refine XS.istore X456.here hx rfl (hb hby at_92) rfl (l' := #[.val (.int p1), .val (.int p2), .val (.long q3), .second, .val (.ref a442), .val (.int vl), .val (.int ch446), .val (.int ch448), .val (.int ch450), .val (.int ch452), .val (.int ch454), .val (.int ch456), .val (.int (((((q3.toUInt64 >>> ((48 : Int32) &&& 0x3f).toInt64.toUInt64).toInt64) &&& (255 : Int64)).toInt32).toUInt32.toUInt16.toUInt32.toInt32)), .unset, .unset]) rfl ?_
      exact kk)
    obtain ⟨vc6, h_vc6⟩ : ∃ z : Int32, z = (((((q3.toUInt64 >>> ((48 : Int32) &&& 0x3f).toInt64.toUInt64).toInt64) &&& (255 : Int64)).toInt32).toUInt32.toUInt16.toUInt32.toInt32) := ⟨_, rfl⟩
    rw [← h_vc6] at k457
    have hbc6 : ¬ vc6 < 0 ∧ ¬ (255 : Int32) < vc6 := by rw [h_vc6]; exact own_c8 _
    have k458 : Go p e below (s₁.setTop (entryFrame m #[(.int p1), (.int p2), (.long q3)] maxLocals)) (T456.setTop (mkF m 96 #[.val (.int p1), .val (.int p2), .val (.long q3), .second, .val (.ref a442), .val (.int vl), .val (.int ch446), .val (.int ch448), .val (.int ch450), .val (.int ch452), .val (.int ch454), .val (.int ch456), .val (.int vc6), .unset, .unset] [(.int vl)])) := fun t kk => k457 t (by
      show Steps p.tables e below (T456.setTop (mkF m 94 #[.val (.int p1), .val (.int p2), .val (.long q3), .second, .val (.ref a442), .val (.int vl), .val (.int ch446), .val (.int ch448), .val (.int ch450), .val (.int ch452), .val (.int ch454), .val (.int ch456), .val (.int vc6), .unset, .unset] [])) _
      refine XS.iload X456.here hx rfl (hb hby at_94) rfl ?_
      exact kk)
    by_cases hc96_459 : vl = (0 : Int32)
    · have k460 : Go p e below (s₁.setTop (entryFrame m #[(.int p1), (.int p2), (.long q3)] maxLocals)) (T456.setTop (mkF m 99 #[.val (.int p1), .val (.int p2), .val (.long q3), .second, .val (.ref a442), .val (.int vl), .val (.int ch446), .val (.int ch448), .val (.int ch450), .val (.int ch452), .val (.int ch454), .val (.int ch456), .val (.int vc6), .unset, .unset] [])) := fun t kk => k458 t (by
        show Steps p.tables e below (T456.setTop (mkF m 96 #[.val (.int p1), .val (.int p2), .val (.long q3), .second, .val (.ref a442), .val (.int vl), .val (.int ch446), .val (.int ch448), .val (.int ch450), .val (.int ch452), .val (.int ch454), .val (.int ch456), .val (.int vc6), .unset, .unset] [(.int vl)])) _
        refine XS.ifNo X456.here hx rfl (hb hby at_96) rfl ((if0 _ _).trans (teq hc96_459).2) ?_
        exact kk)
      obtain ⟨T461, h461, X461, e461, E461, A461, D461, -, st461⟩ := newO X456 hx hZ442 hown442 (hw _ (List.mem_of_getElem? (i := 38) rfl)) (hw _ (List.mem_of_getElem? (i := 2) rfl)) (hw _ (List.mem_of_getElem? (i := 1) rfl)) e456 (g := (mkF m 99 #[.val (.int p1), .val (.int p2), .val (.long q3), .second, .val (.ref a442), .val (.int vl), .val (.int ch446), .val (.int ch448), .val (.int ch450), .val (.int ch452), .val (.int ch454), .val (.int ch456), .val (.int vc6), .unset, .unset] [])) rfl (hb hby at_99) (by decide) (by decide)
      obtain ⟨b461, g461⟩ : ∃ z, z = (h442).size := ⟨_, rfl⟩
      rw [← g461] at A461 D461 st461
      have ne_a442_b461 : a442 ≠ b461 := Nat.ne_of_lt (Nat.lt_of_lt_of_le xe442.lt (Nat.le_of_eq g461.symm))
      have ne_b442_b461 : b442 ≠ b461 := Nat.ne_of_lt (Nat.lt_of_lt_of_le V442.lt (Nat.le_of_eq g461.symm))
      have sz_b461 : h0.size ≤ b461 := Nat.le_trans K442.1 (Nat.le_of_eq g461.symm)
      have ge_b461 : n0 ≤ b461 := Nat.le_trans Zs442 (Nat.le_of_eq g461.symm)
      have f462 := xe442.ext E461
      have f463 := xc442.ext E461
      have f464 := xv442.ext E461
      have f465 := V442.ext E461
      have sf461_b461 := Safe.ext E461 C442.1 (Safe.new (x := b461) (Nat.le_of_eq g461.symm))
      have C461 := C442.trans (CHr.ext E461 C442.1)
      have hku461 := Nat.le_trans hk442 E461.1
      have K461 := (K442).ext E461
      have Zs461 : n0 ≤ h461.size := Nat.le_trans Zs442 E461.1
      have F461_value : Fld Z h461 b461 "java/lang/String" "value" "[B" .null := D461 (Or.inr (hw _ (List.mem_of_getElem? (i := 4) rfl))) (ty := (.array .byte)) (by decide)
      have F461_coder : Fld Z h461 b461 "java/lang/String" "coder" "B" (.int (0 : Int32)) := D461 (Or.inr (hw _ (List.mem_of_getElem? (i := 5) rfl))) (ty := .byte) (by decide)
      have k461 : Go p e below (s₁.setTop (entryFrame m #[(.int p1), (.int p2), (.long q3)] maxLocals)) (T461.setTop (mkF m 102 #[.val (.int p1), .val (.int p2), .val (.long q3), .second, .val (.ref a442), .val (.int vl), .val (.int ch446), .val (.int ch448), .val (.int ch450), .val (.int ch452), .val (.int ch454), .val (.int ch456), .val (.int vc6), .unset, .unset] [(.ref b461)])) := fun t kk => k460 t (st461 t kk)
      have k466 : Go p e below (s₁.setTop (entryFrame m #[(.int p1), (.int p2), (.long q3)] maxLocals)) (T461.setTop (mkF m 104 #[.val (.int p1), .val (.int p2), .val (.long q3), .second, .val (.ref a442), .val (.int vl), .val (.int ch446), .val (.int ch448), .val (.int ch450), .val (.int ch452), .val (.int ch454), .val (.int ch456), .val (.int vc6), .unset, .unset] [(.int (0 : Int32)), (.ref b461), (.ref b461)])) := fun t kk => k461 t (by
        show Steps p.tables e below (T461.setTop (mkF m 102 #[.val (.int p1), .val (.int p2), .val (.long q3), .second, .val (.ref a442), .val (.int vl), .val (.int ch446), .val (.int ch448), .val (.int ch450), .val (.int ch452), .val (.int ch454), .val (.int ch456), .val (.int vc6), .unset, .unset] [(.ref b461)])) _
        refine XS.dup X461.here hx rfl (hb hby at_102) rfl rfl ?_
        show Steps p.tables e below (T461.setTop (mkF m 103 #[.val (.int p1), .val (.int p2), .val (.long q3), .second, .val (.ref a442), .val (.int vl), .val (.int ch446), .val (.int ch448), .val (.int ch450), .val (.int ch452), .val (.int ch454), .val (.int ch456), .val (.int vc6), .unset, .unset] [(.ref b461), (.ref b461)])) _
        refine XS.iconst X461.here hx rfl (hb hby at_103) ?_
        exact kk)
      obtain ⟨T467, h467, kc467, X467, e467, E467, A467, st467⟩ := newP X461 hx hZ442 (hw _ (List.mem_of_getElem? (i := 39) rfl)) e461 (g := (mkF m 104 #[.val (.int p1), .val (.int p2), .val (.long q3), .second, .val (.ref a442), .val (.int vl), .val (.int ch446), .val (.int ch448), .val (.int ch450), .val (.int ch452), .val (.int ch454), .val (.int ch456), .val (.int vc6), .unset, .unset] [(.int (0 : Int32)), (.ref b461), (.ref b461)])) rfl (hb hby at_104) rfl (by decide) (cap := 0) (by decide) (by decide) (by decide) (by decide)
      obtain ⟨b467, g467⟩ : ∃ z, z = (h461).size := ⟨_, rfl⟩
      rw [← g467] at A467 st467
      have ne_a442_b467 : a442 ≠ b467 := Nat.ne_of_lt (Nat.lt_of_lt_of_le f462.lt (Nat.le_of_eq g467.symm))
      have ne_b442_b467 : b442 ≠ b467 := Nat.ne_of_lt (Nat.lt_of_lt_of_le f465.lt (Nat.le_of_eq g467.symm))
      have ne_b461_b467 : b461 ≠ b467 := Nat.ne_of_lt (Nat.lt_of_lt_of_le F461_value.lt (Nat.le_of_eq g467.symm))
      have sz_b467 : h0.size ≤ b467 := Nat.le_trans K461.1 (Nat.le_of_eq g467.symm)
      have ge_b467 : n0 ≤ b467 := Nat.le_trans Zs461 (Nat.le_of_eq g467.symm)
      have f468 := f462.ext E467
      have f469 := f463.ext E467
      have f470 := f464.ext E467
      have f471 := f465.ext E467
      have f472 := F461_value.ext E467
      have f473 := F461_coder.ext E467
      have f474 := A461.ext E467
      have sf467_b461 := Safe.ext E467 C461.1 sf461_b461
      have sf467_b467 := Safe.ext E467 C461.1 (Safe.new (x := b467) (Nat.le_of_eq g467.symm))
      have C467 := C461.trans (CHr.ext E467 C461.1)
      have hku467 := Nat.le_trans hku461 E467.1
      have K467 := (K461).ext E467
      have Zs467 : n0 ≤ h467.size := Nat.le_trans Zs461 E467.1
      have V467 : Arv Z h467 b467 kc467 .char (0 : Int32) [] (.int (0 : Int32)) := (Arv.new A467 (by decide)).pad (pad_rep [] (.int (0 : Int32)) 0)
      have k467 : Go p e below (s₁.setTop (entryFrame m #[(.int p1), (.int p2), (.long q3)] maxLocals)) (T467.setTop (mkF m 106 #[.val (.int p1), .val (.int p2), .val (.long q3), .second, .val (.ref a442), .val (.int vl), .val (.int ch446), .val (.int ch448), .val (.int ch450), .val (.int ch452), .val (.int ch454), .val (.int ch456), .val (.int vc6), .unset, .unset] [(.ref b467), (.ref b461), (.ref b461)])) := fun t kk => k466 t (st467 t kk)
      have hcs475 : StrChars.Road.CodA ([] : List Int32) 0 (0 : Int32) [] := Or.inl ⟨rfl, rfl, rfl, fun c hc => by cases hc⟩
      have Xb476 : Stand p l e room_1 (s.setVm T442.vm) m #[(.int p1), (.int p2), (.long q3)] below meth c T467 _ _ _ := X467
      obtain ⟨_, _, ⟨T475, L475, kx475, nx475⟩, -, Xq475, hSq475, hgr475, ⟨Lc475, hQ475, l475, y475, z475, Cq475⟩, st475⟩ := Xb476.specialBackS hx (y := (⟨"java/lang/String", "<init>", "([C)V"⟩ : MethodName)) rfl hown442 (mvT hZ442 (hw _ (List.mem_of_getElem? (i := 40) rfl))) (mvT hZ442 (hw _ (List.mem_of_getElem? (i := 41) rfl))) (mvT hZ442 (hw _ (List.mem_of_getElem? (i := 42) rfl))) (by decide) (own_backSH (s := s) (W := 1) (xs := [b461]) (rmC l Z a0 hw [] b461 b467 kc467 h467 n0 Zs467 f472 f473 f474 ge_b461 V467) hZ442 (hw _ (List.mem_of_getElem? (i := 42) rfl)) (hw _ (List.mem_of_getElem? (i := 1) rfl)) (by decide) (by decide) (EW.cons (hw _ (List.mem_of_getElem? (i := 60) rfl)) (by decide) (EW.cons (hw _ (List.mem_of_getElem? (i := 0) rfl)) (by decide) (EW.cons (hw _ (List.mem_of_getElem? (i := 50) rfl)) (by decide) EW.nil))) C467.1 (allS ⟨f472.lt, sf467_b461⟩ all0)) (g := (mkF m 106 #[.val (.int p1), .val (.int p2), .val (.long q3), .second, .val (.ref a442), .val (.int vl), .val (.int ch446), .val (.int ch448), .val (.int ch450), .val (.int ch452), .val (.int ch454), .val (.int ch456), .val (.int vc6), .unset, .unset] [(.ref b467), (.ref b461), (.ref b461)])) rfl (by rw [hml]; rfl) (Steps.refl _) (a := b461) (argsL := [(.ref b467)]) (rest := [(.ref b461)]) (lenOf pd_5 rfl) rfl (by show 2 * 0 + _ ≤ _; exact Nat.le_of_eq rfl) (hb hby at_106) (fun _ _ => ⟨rfl, e467, (by decide : 4 + 2 ≤ _), (by decide : 32 + 4 ≤ _)⟩)
      dsimp only [Pt.U, Pt.locs, Pt.cells, Pt.slots] at Xq475 l475 y475 z475 st475 hQ475 hSq475 hgr475 Cq475
      subst l475 y475 z475
      obtain ⟨X475, hS475, hZ475, hown475⟩ := rebS (s := s) (vm0 := T442.vm) hS442 (by rw [e467]; exact hku467) Xq475 hSq475 hgr475 hZ442 hown442
      obtain ⟨rfl, N475q, K475q, x475_e, x475_c, t475, kb475, x475_v, x475_a⟩ := hQ475
      have N475 := Fr.app N0 N475q
      have f477 := f468.keep K475q
      have f478 := f469.keep K475q (ninS ne_a442_b461 nin0)
      have f479 := f470.keep K475q (ninS ne_a442_b461 nin0)
      have f480 := f471.keep K475q (ninS ne_b442_b461 nin0)
      have f481 := V467.keep K475q (ninS (Ne.symm ne_b461_b467) nin0)
      have K475 := (K467).trans K475q (allS (Or.inr sz_b461) all0)
      have Zs475 : n0 ≤ T475.heap.size := Nat.le_trans Zs467 K475q.1
      have hkr475 : T475.heap.size ≤ T475.heap.size := Nat.le_refl _
      have sf475_b461 := CHr.safe Cq475 f472.lt sf467_b461
      have sf475_b467 := CHr.safe Cq475 V467.lt sf467_b467
      have C475 := C467.trans Cq475
      have k475 : Go p e below (s₁.setTop (entryFrame m #[(.int p1), (.int p2), (.long q3)] maxLocals)) (T475.setTop (mkF m 109 #[.val (.int p1), .val (.int p2), .val (.long q3), .second, .val (.ref a442), .val (.int vl), .val (.int ch446), .val (.int ch448), .val (.int ch450), .val (.int ch452), .val (.int ch454), .val (.int ch456), .val (.int vc6), .unset, .unset] [(.ref b461)])) := fun t kk => k467 t (st475.trans kk)
      have k482 : Go p e below (s₁.setTop (entryFrame m #[(.int p1), (.int p2), (.long q3)] maxLocals)) (T475.setTop (mkF m 263 #[.val (.int p1), .val (.int p2), .val (.long q3), .second, .val (.ref a442), .val (.int vl), .val (.int ch446), .val (.int ch448), .val (.int ch450), .val (.int ch452), .val (.int ch454), .val (.int ch456), .val (.int vc6), .val (.ref b461), .unset] [(.ref b461)])) := fun t kk => k475 t (by
        show Steps p.tables e below (T475.setTop (mkF m 109 #[.val (.int p1), .val (.int p2), .val (.long q3), .second, .val (.ref a442), .val (.int vl), .val (.int ch446), .val (.int ch448), .val (.int ch450), .val (.int ch452), .val (.int ch454), .val (.int ch456), .val (.int vc6), .unset, .unset] [(.ref b461)])) _
        refine XS.astore X475.here hx rfl (hb hby at_109) rfl rfl (l' := #[.val (.int p1), .val (.int p2), .val (.long q3), .second, .val (.ref a442), .val (.int vl), .val (.int ch446), .val (.int ch448), .val (.int ch450), .val (.int ch452), .val (.int ch454), .val (.int ch456), .val (.int vc6), .val (.ref b461), .unset]) rfl ?_
        show Steps p.tables e below (T475.setTop (mkF m 111 #[.val (.int p1), .val (.int p2), .val (.long q3), .second, .val (.ref a442), .val (.int vl), .val (.int ch446), .val (.int ch448), .val (.int ch450), .val (.int ch452), .val (.int ch454), .val (.int ch456), .val (.int vc6), .val (.ref b461), .unset] [])) _
        refine XS.goto X475.here hx rfl (pc0 := 111) (pc' := 261) rfl (hb hby at_111) (by decide) (by decide) ?_
        show Steps p.tables e below (T475.setTop (mkF m 261 #[.val (.int p1), .val (.int p2), .val (.long q3), .second, .val (.ref a442), .val (.int vl), .val (.int ch446), .val (.int ch448), .val (.int ch450), .val (.int ch452), .val (.int ch454), .val (.int ch456), .val (.int vc6), .val (.ref b461), .unset] [])) _
        refine XS.aload X475.here hx rfl (hb hby at_261) rfl rfl ?_
        exact kk)
      have Xb484 : Stand p l e room_1 (s.setVm T475.vm) m #[(.int p1), (.int p2), (.long q3)] below meth c T475 _ _ _ := X475
      obtain ⟨a483, T483, h483, kn483, b483, kc483, X483, e483, E483, hS483, hk483, hZ483, hown483, xe483, xc483, xv483, V483, -, -, Cn483, lit483, nsf483, st483⟩ := ldcCH (s := s) (vm0 := T475.vm) Xb484 hx hZ475 hown475 (hw _ (List.mem_of_getElem? (i := 0) rfl)) wS0 rfl hS475 hkr475 (EW.cons (hw _ (List.mem_of_getElem? (i := 60) rfl)) (by decide) (EW.cons (hw _ (List.mem_of_getElem? (i := 0) rfl)) (by decide) (EW.cons (hw _ (List.mem_of_getElem? (i := 50) rfl)) (by decide) EW.nil))) (List.mem_of_getElem? (i := 1) rfl) C475.1 (vs := [(.int (108 : Int32)), (.int (105 : Int32)), (.int (115 : Int32)), (.int (116 : Int32)), (.int (101 : Int32)), (.int (100 : Int32))]) (z := 6) ⟨by decide, by decide⟩ (by decide) rfl (g := (mkF m 263 #[.val (.int p1), .val (.int p2), .val (.long q3), .second, .val (.ref a442), .val (.int vl), .val (.int ch446), .val (.int ch448), .val (.int ch450), .val (.int ch452), .val (.int ch454), .val (.int ch456), .val (.int vc6), .val (.ref b461), .unset] [(.ref b461)])) rfl (hb hby at_263) (n := 24) (by decide) (by decide) (by decide) (by decide)
      have sf483_b461 := CHr.safe Cn483 x475_e.lt sf475_b461
      have sf483_b467 := CHr.safe Cn483 f481.lt sf475_b467
      have C483 := C475.trans Cn483
      have f485 := f477.ext E483
      have f486 := f478.ext E483
      have f487 := f479.ext E483
      have f488 := f480.ext E483
      have f489 := f481.ext E483
      have f490 := x475_e.ext E483
      have f491 := x475_c.ext E483
      have f492 := x475_v.ext E483
      have f493 := x475_a.ext E483
      have K483 := (K475).ext E483
      have Zs483 : n0 ≤ h483.size := Nat.le_trans Zs475 E483.1
      have k483 : Go p e below (s₁.setTop (entryFrame m #[(.int p1), (.int p2), (.long q3)] maxLocals)) (T483.setTop (mkF m 265 #[.val (.int p1), .val (.int p2), .val (.long q3), .second, .val (.ref a442), .val (.int vl), .val (.int ch446), .val (.int ch448), .val (.int ch450), .val (.int ch452), .val (.int ch454), .val (.int ch456), .val (.int vc6), .val (.ref b461), .unset] [(.ref a483), (.ref b461)])) := fun t kk => k482 t (st483 t kk)
      obtain ⟨cq494, kq494, q494a, q494b, q494c⟩ := isOf hZ483 e483 f490
      obtain ⟨_, _, ⟨T494, L494, kx494, nx494⟩, -, X494, ⟨Lc494, hQ494, l494, y494, z494⟩, st494⟩ := X483.virtualBack hx (y := (⟨"java/lang/String", "equals", "(Ljava/lang/Object;)Z"⟩ : MethodName)) (z := (⟨"java/lang/String", "equals", "(Ljava/lang/Object;)Z"⟩ : MethodName)) hown483 (mvT hZ483 (hw _ (List.mem_of_getElem? (i := 51) rfl))) (mvT hZ483 (hw _ (List.mem_of_getElem? (i := 52) rfl))) (notFace_of_selects (args := #[]) (mvT hZ483 (hw _ (List.mem_of_getElem? (i := 54) rfl)))) (mvT hZ483 (hw _ (List.mem_of_getElem? (i := 54) rfl))) (mvT hZ483 (hw _ (List.mem_of_getElem? (i := 53) rfl))) (by decide) (StrChars.Road.eqW (W := 0) hZ483 heq (kI := 4) (hw _ (List.mem_of_getElem? (i := 2) rfl)) f490 f492 f491 f493 hcs475 (fun c hc => by cases hc) (Nat.le_of_ble_eq_true rfl) xe483 xv483 xc483 V483 own_Lc (own_up _ own_Lb) (Nat.le_of_ble_eq_true rfl) (own_stakeep S1 K483) hs1 (by decide) (by decide)) q494a q494c (g := (mkF m 265 #[.val (.int p1), .val (.int p2), .val (.long q3), .second, .val (.ref a442), .val (.int vl), .val (.int ch446), .val (.int ch448), .val (.int ch450), .val (.int ch452), .val (.int ch454), .val (.int ch456), .val (.int vc6), .val (.ref b461), .unset] [(.ref a483), (.ref b461)])) rfl (by rw [hml]; rfl) (Steps.refl _) (argsL := [(.ref a483)]) (rest := []) (lenOf pd_3 rfl) rfl (by show 2 * 0 + _ ≤ _; exact Nat.le_of_eq rfl) (hb hby at_265) (fun _ _ => ⟨rfl, e483, (by decide : 8 + 0 ≤ _), (by decide : 64 + 0 ≤ _)⟩)
      dsimp only [Pt.U, Pt.locs, Pt.cells, Pt.slots] at X494 l494 y494 z494 st494 hQ494
      subst l494 y494 z494
      obtain ⟨hcase494, rfl, e494⟩ := hQ494
      try rw [List.append_nil] at X494
      obtain ⟨vq494, rfl, hvq494⟩ := own_case hcase494
      have k494 : Go p e below (s₁.setTop (entryFrame m #[(.int p1), (.int p2), (.long q3)] maxLocals)) (T494.setTop (mkF m 268 #[.val (.int p1), .val (.int p2), .val (.long q3), .second, .val (.ref a442), .val (.int vl), .val (.int ch446), .val (.int ch448), .val (.int ch450), .val (.int ch452), .val (.int ch454), .val (.int ch456), .val (.int vc6), .val (.ref b461), .unset] [(.int vq494)])) := fun t kk => k483 t (st494.trans kk)
      by_cases hc268_495 : vq494 = (0 : Int32)
      · have k496 : Go p e below (s₁.setTop (entryFrame m #[(.int p1), (.int p2), (.long q3)] maxLocals)) (T494.setTop (mkF m 281 #[.val (.int p1), .val (.int p2), .val (.long q3), .second, .val (.ref a442), .val (.int vl), .val (.int ch446), .val (.int ch448), .val (.int ch450), .val (.int ch452), .val (.int ch454), .val (.int ch456), .val (.int vc6), .val (.ref b461), .unset] [(.ref b461)])) := fun t kk => k494 t (by
          show Steps p.tables e below (T494.setTop (mkF m 268 #[.val (.int p1), .val (.int p2), .val (.long q3), .second, .val (.ref a442), .val (.int vl), .val (.int ch446), .val (.int ch448), .val (.int ch450), .val (.int ch452), .val (.int ch454), .val (.int ch456), .val (.int vc6), .val (.ref b461), .unset] [(.int vq494)])) _
          refine XS.ifYes X494.here hx rfl (pc0 := 268) (pc' := 279) rfl (hb hby at_268) rfl ((if0 _ _).trans (teq hc268_495).1) (by decide) (by decide) ?_
          show Steps p.tables e below (T494.setTop (mkF m 279 #[.val (.int p1), .val (.int p2), .val (.long q3), .second, .val (.ref a442), .val (.int vl), .val (.int ch446), .val (.int ch448), .val (.int ch450), .val (.int ch452), .val (.int ch454), .val (.int ch456), .val (.int vc6), .val (.ref b461), .unset] [])) _
          refine XS.aload X494.here hx rfl (hb hby at_279) rfl rfl ?_
          exact kk)
        have Xb498 : Stand p l e room_1 (s.setVm T483.vm) m #[(.int p1), (.int p2), (.long q3)] below meth c T494 _ _ _ := X494
        obtain ⟨a497, T497, h497, kn497, b497, kc497, X497, e497, E497, hS497, hk497, hZ497, hown497, xe497, xc497, xv497, V497, -, -, Cn497, lit497, nsf497, st497⟩ := ldcCH (s := s) (vm0 := T483.vm) Xb498 hx hZ483 hown483 (hw _ (List.mem_of_getElem? (i := 60) rfl)) wS0 e494 hS483 hk483 (EW.cons (hw _ (List.mem_of_getElem? (i := 60) rfl)) (by decide) (EW.cons (hw _ (List.mem_of_getElem? (i := 0) rfl)) (by decide) (EW.cons (hw _ (List.mem_of_getElem? (i := 50) rfl)) (by decide) EW.nil))) (List.mem_of_getElem? (i := 0) rfl) C483.1 (vs := [(.int (115 : Int32)), (.int (101 : Int32)), (.int (101 : Int32)), (.int (100 : Int32)), (.int (101 : Int32)), (.int (100 : Int32))]) (z := 6) ⟨by decide, by decide⟩ (by decide) rfl (g := (mkF m 281 #[.val (.int p1), .val (.int p2), .val (.long q3), .second, .val (.ref a442), .val (.int vl), .val (.int ch446), .val (.int ch448), .val (.int ch450), .val (.int ch452), .val (.int ch454), .val (.int ch456), .val (.int vc6), .val (.ref b461), .unset] [(.ref b461)])) rfl (hb hby at_281) (n := 24) (by decide) (by decide) (by decide) (by decide)
        have sf497_b461 := CHr.safe Cn497 f490.lt sf483_b461
        have sf497_b467 := CHr.safe Cn497 f489.lt sf483_b467
        have C497 := C483.trans Cn497
        have f499 := f485.ext E497
        have f500 := f486.ext E497
        have f501 := f487.ext E497
        have f502 := f488.ext E497
        have f503 := f489.ext E497
        have f504 := f490.ext E497
        have f505 := f491.ext E497
        have f506 := f492.ext E497
        have f507 := f493.ext E497
        have f508 := xe483.ext E497
        have f509 := xc483.ext E497
        have f510 := xv483.ext E497
        have f511 := V483.ext E497
        have K497 := (K483).ext E497
        have Zs497 : n0 ≤ h497.size := Nat.le_trans Zs483 E497.1
        have k497 : Go p e below (s₁.setTop (entryFrame m #[(.int p1), (.int p2), (.long q3)] maxLocals)) (T497.setTop (mkF m 283 #[.val (.int p1), .val (.int p2), .val (.long q3), .second, .val (.ref a442), .val (.int vl), .val (.int ch446), .val (.int ch448), .val (.int ch450), .val (.int ch452), .val (.int ch454), .val (.int ch456), .val (.int vc6), .val (.ref b461), .unset] [(.ref a497), (.ref b461)])) := fun t kk => k496 t (st497 t kk)
        obtain ⟨cq512, kq512, q512a, q512b, q512c⟩ := isOf hZ497 e497 f504
        obtain ⟨_, _, ⟨T512, L512, kx512, nx512⟩, -, X512, ⟨Lc512, hQ512, l512, y512, z512⟩, st512⟩ := X497.virtualBack hx (y := (⟨"java/lang/String", "equals", "(Ljava/lang/Object;)Z"⟩ : MethodName)) (z := (⟨"java/lang/String", "equals", "(Ljava/lang/Object;)Z"⟩ : MethodName)) hown497 (mvT hZ497 (hw _ (List.mem_of_getElem? (i := 51) rfl))) (mvT hZ497 (hw _ (List.mem_of_getElem? (i := 52) rfl))) (notFace_of_selects (args := #[]) (mvT hZ497 (hw _ (List.mem_of_getElem? (i := 54) rfl)))) (mvT hZ497 (hw _ (List.mem_of_getElem? (i := 54) rfl))) (mvT hZ497 (hw _ (List.mem_of_getElem? (i := 53) rfl))) (by decide) (StrChars.Road.eqW (W := 0) hZ497 heq (kI := 4) (hw _ (List.mem_of_getElem? (i := 2) rfl)) f504 f506 f505 f507 hcs475 (fun c hc => by cases hc) (Nat.le_of_ble_eq_true rfl) xe497 xv497 xc497 V497 own_Sc (own_up _ own_Sb) (Nat.le_of_ble_eq_true rfl) (own_stakeep S1 K497) hs1 (by decide) (by decide)) q512a q512c (g := (mkF m 283 #[.val (.int p1), .val (.int p2), .val (.long q3), .second, .val (.ref a442), .val (.int vl), .val (.int ch446), .val (.int ch448), .val (.int ch450), .val (.int ch452), .val (.int ch454), .val (.int ch456), .val (.int vc6), .val (.ref b461), .unset] [(.ref a497), (.ref b461)])) rfl (by rw [hml]; rfl) (Steps.refl _) (argsL := [(.ref a497)]) (rest := []) (lenOf pd_3 rfl) rfl (by show 2 * 0 + _ ≤ _; exact Nat.le_of_eq rfl) (hb hby at_283) (fun _ _ => ⟨rfl, e497, (by decide : 10 + 0 ≤ _), (by decide : 92 + 0 ≤ _)⟩)
        dsimp only [Pt.U, Pt.locs, Pt.cells, Pt.slots] at X512 l512 y512 z512 st512 hQ512
        subst l512 y512 z512
        obtain ⟨hcase512, rfl, e512⟩ := hQ512
        try rw [List.append_nil] at X512
        obtain ⟨vq512, rfl, hvq512⟩ := own_case hcase512
        have k512 : Go p e below (s₁.setTop (entryFrame m #[(.int p1), (.int p2), (.long q3)] maxLocals)) (T512.setTop (mkF m 286 #[.val (.int p1), .val (.int p2), .val (.long q3), .second, .val (.ref a442), .val (.int vl), .val (.int ch446), .val (.int ch448), .val (.int ch450), .val (.int ch452), .val (.int ch454), .val (.int ch456), .val (.int vc6), .val (.ref b461), .unset] [(.int vq512)])) := fun t kk => k497 t (st512.trans kk)
        by_cases hc286_513 : vq512 = (0 : Int32)
        · have k514 : Go p e below (s₁.setTop (entryFrame m #[(.int p1), (.int p2), (.long q3)] maxLocals)) (T512.setTop (mkF m 302 #[.val (.int p1), .val (.int p2), .val (.long q3), .second, .val (.ref a442), .val (.int vl), .val (.int ch446), .val (.int ch448), .val (.int ch450), .val (.int ch452), .val (.int ch454), .val (.int ch456), .val (.int vc6), .val (.ref b461), .val .null] [(.ref b461)])) := fun t kk => k512 t (by
            show Steps p.tables e below (T512.setTop (mkF m 286 #[.val (.int p1), .val (.int p2), .val (.long q3), .second, .val (.ref a442), .val (.int vl), .val (.int ch446), .val (.int ch448), .val (.int ch450), .val (.int ch452), .val (.int ch454), .val (.int ch456), .val (.int vc6), .val (.ref b461), .unset] [(.int vq512)])) _
            refine XS.ifYes X512.here hx rfl (pc0 := 286) (pc' := 297) rfl (hb hby at_286) rfl ((if0 _ _).trans (teq hc286_513).1) (by decide) (by decide) ?_
            show Steps p.tables e below (T512.setTop (mkF m 297 #[.val (.int p1), .val (.int p2), .val (.long q3), .second, .val (.ref a442), .val (.int vl), .val (.int ch446), .val (.int ch448), .val (.int ch450), .val (.int ch452), .val (.int ch454), .val (.int ch456), .val (.int vc6), .val (.ref b461), .unset] [])) _
            refine XS.aconstNull X512.here hx rfl (hb hby at_297) ?_
            show Steps p.tables e below (T512.setTop (mkF m 298 #[.val (.int p1), .val (.int p2), .val (.long q3), .second, .val (.ref a442), .val (.int vl), .val (.int ch446), .val (.int ch448), .val (.int ch450), .val (.int ch452), .val (.int ch454), .val (.int ch456), .val (.int vc6), .val (.ref b461), .unset] [.null])) _
            refine XS.astore X512.here hx rfl (hb hby at_298) rfl rfl (l' := #[.val (.int p1), .val (.int p2), .val (.long q3), .second, .val (.ref a442), .val (.int vl), .val (.int ch446), .val (.int ch448), .val (.int ch450), .val (.int ch452), .val (.int ch454), .val (.int ch456), .val (.int vc6), .val (.ref b461), .val .null]) rfl ?_
            show Steps p.tables e below (T512.setTop (mkF m 300 #[.val (.int p1), .val (.int p2), .val (.long q3), .second, .val (.ref a442), .val (.int vl), .val (.int ch446), .val (.int ch448), .val (.int ch450), .val (.int ch452), .val (.int ch454), .val (.int ch456), .val (.int vc6), .val (.ref b461), .val .null] [])) _
            refine XS.aload X512.here hx rfl (hb hby at_300) rfl rfl ?_
            exact kk)
          obtain ⟨_, _, ⟨T515, L515, kx515, nx515⟩, -, X515, ⟨Lc515, hQ515, l515, y515, z515⟩, st515⟩ := Jvm.LawKit.callS X512 hx (y := (⟨"com/example/tabularium/tabularium/record/Deal", "named", "(Ljava/lang/String;)Lcom/example/tabularium/tabularium/record/Deal;"⟩ : MethodName)) hown497 (mvT hZ497 (hw _ (List.mem_of_getElem? (i := 61) rfl))) (mvT hZ497 (hw _ (List.mem_of_getElem? (i := 62) rfl))) (mvT hZ497 (hw _ (List.mem_of_getElem? (i := 63) rfl))) (mvT hZ497 (hw _ (List.mem_of_getElem? (i := 64) rfl))) (by decide) (backOf (W := 0) (rmD l Z a0 hw [] b461 a__VALUES kV a_LISTED a_SEEDED s_LISTED t_LISTED kL s_SEEDED t_SEEDED kS ([] : List Int32) t475 kb475 (0 : Int32) _ cs h497 n0 Zs497 (own_stakeep SV K497) (PAV.keep K497 nin0) (PEV.keep K497) (f_LISTED.keep K497 nin0) (es_LISTED.keep K497) (cs_LISTED.keep K497 nin0) (vs_LISTED.keep K497 nin0) (as_LISTED.keep K497 nin0) (f_SEEDED.keep K497 nin0) (es_SEEDED.keep K497) (cs_SEEDED.keep K497 nin0) (vs_SEEDED.keep K497 nin0) (as_SEEDED.keep K497 nin0) f504 f506 f505 f507 hcs475 (fun c hc => by cases hc) (Nat.le_of_ble_eq_true rfl) (own_stakeep S1 K497) hs1) hZ497 (hw _ (List.mem_of_getElem? (i := 64) rfl)) (hw _ (List.mem_of_getElem? (i := 63) rfl)) (by decide) (by decide)) (g := (mkF m 302 #[.val (.int p1), .val (.int p2), .val (.long q3), .second, .val (.ref a442), .val (.int vl), .val (.int ch446), .val (.int ch448), .val (.int ch450), .val (.int ch452), .val (.int ch454), .val (.int ch456), .val (.int vc6), .val (.ref b461), .val .null] [(.ref b461)])) rfl (by rw [hml]; rfl) (argsL := [(.ref b461)]) (rest := []) (lenOf pd_6 rfl) rfl (by show 2 * 0 + _ ≤ _; exact Nat.le_of_eq rfl) (hb hby at_302) (fun _ _ => ⟨rfl, e512, (by decide : 10 + 1 ≤ _), (by decide : 92 + 2 ≤ _)⟩)
          dsimp only [Pt.U, Pt.locs, Pt.cells, Pt.slots] at X515 l515 y515 z515 st515 hQ515
          subst l515 y515 z515
          obtain ⟨hv515, N515q, K515q⟩ := hQ515
          rw [show own_named ([] : List Int32) a_LISTED a_SEEDED = .null from (by unfold own_named; rw [if_neg (fun q => own_no hvq494 hc268_495 q.symm), if_neg (fun q => own_no hvq512 hc286_513 q.symm)])] at hv515
          subst hv515
          have N515 := Fr.app N475 N515q
          have hku515 := Nat.le_trans hk497 K515q.1
          have K515 := (K497).trans K515q all0
          have Zs515 : n0 ≤ T515.heap.size := Nat.le_trans Zs497 K515q.1
          have k515 : Go p e below (s₁.setTop (entryFrame m #[(.int p1), (.int p2), (.long q3)] maxLocals)) (T515.setTop (mkF m 305 #[.val (.int p1), .val (.int p2), .val (.long q3), .second, .val (.ref a442), .val (.int vl), .val (.int ch446), .val (.int ch448), .val (.int ch450), .val (.int ch452), .val (.int ch454), .val (.int ch456), .val (.int vc6), .val (.ref b461), .val .null] [.null])) := fun t kk => k514 t (st515 t kk)
          have k516 : Go p e below (s₁.setTop (entryFrame m #[(.int p1), (.int p2), (.long q3)] maxLocals)) (T515.setTop (mkF m 315 #[.val (.int p1), .val (.int p2), .val (.long q3), .second, .val (.ref a442), .val (.int vl), .val (.int ch446), .val (.int ch448), .val (.int ch450), .val (.int ch452), .val (.int ch454), .val (.int ch456), .val (.int vc6), .val (.ref b461), .val .null] [(.int (1 : Int32))])) := fun t kk => k515 t (by
            show Steps p.tables e below (T515.setTop (mkF m 305 #[.val (.int p1), .val (.int p2), .val (.long q3), .second, .val (.ref a442), .val (.int vl), .val (.int ch446), .val (.int ch448), .val (.int ch450), .val (.int ch452), .val (.int ch454), .val (.int ch456), .val (.int vc6), .val (.ref b461), .val .null] [.null])) _
            refine XS.aload X515.here hx rfl (hb hby at_305) rfl rfl ?_
            show Steps p.tables e below (T515.setTop (mkF m 307 #[.val (.int p1), .val (.int p2), .val (.long q3), .second, .val (.ref a442), .val (.int vl), .val (.int ch446), .val (.int ch448), .val (.int ch450), .val (.int ch452), .val (.int ch454), .val (.int ch456), .val (.int vc6), .val (.ref b461), .val .null] [.null, .null])) _
            refine Jvm.RoadKit.acmp (g := (mkF m 307 #[.val (.int p1), .val (.int p2), .val (.long q3), .second, .val (.ref a442), .val (.int vl), .val (.int ch446), .val (.int ch448), .val (.int ch450), .val (.int ch452), .val (.int ch454), .val (.int ch456), .val (.int vc6), .val (.ref b461), .val .null] [.null, .null])) X515 hx rfl rfl rfl (pc0 := 307) (pc' := 310) (same := true) rfl (hb hby at_307) rfl (decide_eq_true (rfl : Value.null = Value.null)) (by decide) (by decide) ?_
            show Steps p.tables e below (T515.setTop (mkF m 310 #[.val (.int p1), .val (.int p2), .val (.long q3), .second, .val (.ref a442), .val (.int vl), .val (.int ch446), .val (.int ch448), .val (.int ch450), .val (.int ch452), .val (.int ch454), .val (.int ch456), .val (.int vc6), .val (.ref b461), .val .null] [])) _
            refine XS.iconst X515.here hx rfl (hb hby at_310) ?_
            show Steps p.tables e below (T515.setTop (mkF m 311 #[.val (.int p1), .val (.int p2), .val (.long q3), .second, .val (.ref a442), .val (.int vl), .val (.int ch446), .val (.int ch448), .val (.int ch450), .val (.int ch452), .val (.int ch454), .val (.int ch456), .val (.int vc6), .val (.ref b461), .val .null] [(.int (1 : Int32))])) _
            refine XS.goto X515.here hx rfl (pc0 := 311) (pc' := 315) rfl (hb hby at_311) (by decide) (by decide) ?_
            exact kk)
          have Xb518 : Stand p l e room_1 (s.setVm T497.vm) m #[(.int p1), (.int p2), (.long q3)] below meth c T515 _ _ _ := X515
          obtain ⟨fs, hr, hrun, hended, hW⟩ := leaveW Xb518 hS497 hku515 (v := some (.int (1 : Int32))) (fun h => by rw [Bd.returns] at h; cases h)
          refine ⟨_, _, k516 _ ?_, hrun, hended, _, _, rfl, ?_, hW.1, hW.2.1, hW.2.2.1, hW.2.2.2.mono (by decide) (by decide)⟩
          · show Steps p.tables e below (T515.setTop (mkF m 315 #[.val (.int p1), .val (.int p2), .val (.long q3), .second, .val (.ref a442), .val (.int vl), .val (.int ch446), .val (.int ch448), .val (.int ch450), .val (.int ch452), .val (.int ch454), .val (.int ch456), .val (.int vc6), .val (.ref b461), .val .null] [(.int (1 : Int32))])) _
            exact retN X515 hx (t := .boolean) Bd.returns (by simp) (hb hby at_315) hr
          · show Q0 Z p1 p2 q3 a__VALUES kV a_LISTED a_SEEDED s_LISTED t_LISTED kL s_SEEDED t_SEEDED kS cs fm h0 n0 _ T515.heap _
            exact ⟨rfl, N515⟩
        · have k519 : Go p e below (s₁.setTop (entryFrame m #[(.int p1), (.int p2), (.long q3)] maxLocals)) (T512.setTop (mkF m 289 #[.val (.int p1), .val (.int p2), .val (.long q3), .second, .val (.ref a442), .val (.int vl), .val (.int ch446), .val (.int ch448), .val (.int ch450), .val (.int ch452), .val (.int ch454), .val (.int ch456), .val (.int vc6), .val (.ref b461), .unset] [])) := fun t kk => k512 t (by
            show Steps p.tables e below (T512.setTop (mkF m 286 #[.val (.int p1), .val (.int p2), .val (.long q3), .second, .val (.ref a442), .val (.int vl), .val (.int ch446), .val (.int ch448), .val (.int ch450), .val (.int ch452), .val (.int ch454), .val (.int ch456), .val (.int vc6), .val (.ref b461), .unset] [(.int vq512)])) _
            refine XS.ifNo X512.here hx rfl (hb hby at_286) rfl ((if0 _ _).trans (feq hc286_513).1) ?_
            exact kk)
          obtain ⟨T520, X520, e520, st520⟩ := getS2 X512 hx hZ497 hown497 (host := "") (Or.inl (hw _ (List.mem_of_getElem? (i := 96) rfl))) Via.refl e512 (own_stakeep S_SEEDED K497) (g := (mkF m 289 #[.val (.int p1), .val (.int p2), .val (.long q3), .second, .val (.ref a442), .val (.int vl), .val (.int ch446), .val (.int ch448), .val (.int ch450), .val (.int ch452), .val (.int ch454), .val (.int ch456), .val (.int vc6), .val (.ref b461), .unset] [])) rfl (hb hby at_289)
          have k520 : Go p e below (s₁.setTop (entryFrame m #[(.int p1), (.int p2), (.long q3)] maxLocals)) (T520.setTop (mkF m 292 #[.val (.int p1), .val (.int p2), .val (.long q3), .second, .val (.ref a442), .val (.int vl), .val (.int ch446), .val (.int ch448), .val (.int ch450), .val (.int ch452), .val (.int ch454), .val (.int ch456), .val (.int vc6), .val (.ref b461), .unset] [(.ref a_SEEDED)])) := fun t kk => k519 t (st520 t kk)
          have k521 : Go p e below (s₁.setTop (entryFrame m #[(.int p1), (.int p2), (.long q3)] maxLocals)) (T520.setTop (mkF m 302 #[.val (.int p1), .val (.int p2), .val (.long q3), .second, .val (.ref a442), .val (.int vl), .val (.int ch446), .val (.int ch448), .val (.int ch450), .val (.int ch452), .val (.int ch454), .val (.int ch456), .val (.int vc6), .val (.ref b461), .val (.ref a_SEEDED)] [(.ref b461)])) := fun t kk => k520 t (by
            show Steps p.tables e below (T520.setTop (mkF m 292 #[.val (.int p1), .val (.int p2), .val (.long q3), .second, .val (.ref a442), .val (.int vl), .val (.int ch446), .val (.int ch448), .val (.int ch450), .val (.int ch452), .val (.int ch454), .val (.int ch456), .val (.int vc6), .val (.ref b461), .unset] [(.ref a_SEEDED)])) _
            refine XS.astore X520.here hx rfl (hb hby at_292) rfl rfl (l' := #[.val (.int p1), .val (.int p2), .val (.long q3), .second, .val (.ref a442), .val (.int vl), .val (.int ch446), .val (.int ch448), .val (.int ch450), .val (.int ch452), .val (.int ch454), .val (.int ch456), .val (.int vc6), .val (.ref b461), .val (.ref a_SEEDED)]) rfl ?_
            show Steps p.tables e below (T520.setTop (mkF m 294 #[.val (.int p1), .val (.int p2), .val (.long q3), .second, .val (.ref a442), .val (.int vl), .val (.int ch446), .val (.int ch448), .val (.int ch450), .val (.int ch452), .val (.int ch454), .val (.int ch456), .val (.int vc6), .val (.ref b461), .val (.ref a_SEEDED)] [])) _
            refine XS.goto X520.here hx rfl (pc0 := 294) (pc' := 300) rfl (hb hby at_294) (by decide) (by decide) ?_
            show Steps p.tables e below (T520.setTop (mkF m 300 #[.val (.int p1), .val (.int p2), .val (.long q3), .second, .val (.ref a442), .val (.int vl), .val (.int ch446), .val (.int ch448), .val (.int ch450), .val (.int ch452), .val (.int ch454), .val (.int ch456), .val (.int vc6), .val (.ref b461), .val (.ref a_SEEDED)] [])) _
            refine XS.aload X520.here hx rfl (hb hby at_300) rfl rfl ?_
            exact kk)
          obtain ⟨_, _, ⟨T522, L522, kx522, nx522⟩, -, X522, ⟨Lc522, hQ522, l522, y522, z522⟩, st522⟩ := Jvm.LawKit.callS X520 hx (y := (⟨"com/example/tabularium/tabularium/record/Deal", "named", "(Ljava/lang/String;)Lcom/example/tabularium/tabularium/record/Deal;"⟩ : MethodName)) hown497 (mvT hZ497 (hw _ (List.mem_of_getElem? (i := 61) rfl))) (mvT hZ497 (hw _ (List.mem_of_getElem? (i := 62) rfl))) (mvT hZ497 (hw _ (List.mem_of_getElem? (i := 63) rfl))) (mvT hZ497 (hw _ (List.mem_of_getElem? (i := 64) rfl))) (by decide) (backOf (W := 0) (rmD l Z a0 hw [] b461 a__VALUES kV a_LISTED a_SEEDED s_LISTED t_LISTED kL s_SEEDED t_SEEDED kS ([] : List Int32) t475 kb475 (0 : Int32) _ cs h497 n0 Zs497 (own_stakeep SV K497) (PAV.keep K497 nin0) (PEV.keep K497) (f_LISTED.keep K497 nin0) (es_LISTED.keep K497) (cs_LISTED.keep K497 nin0) (vs_LISTED.keep K497 nin0) (as_LISTED.keep K497 nin0) (f_SEEDED.keep K497 nin0) (es_SEEDED.keep K497) (cs_SEEDED.keep K497 nin0) (vs_SEEDED.keep K497 nin0) (as_SEEDED.keep K497 nin0) f504 f506 f505 f507 hcs475 (fun c hc => by cases hc) (Nat.le_of_ble_eq_true rfl) (own_stakeep S1 K497) hs1) hZ497 (hw _ (List.mem_of_getElem? (i := 64) rfl)) (hw _ (List.mem_of_getElem? (i := 63) rfl)) (by decide) (by decide)) (g := (mkF m 302 #[.val (.int p1), .val (.int p2), .val (.long q3), .second, .val (.ref a442), .val (.int vl), .val (.int ch446), .val (.int ch448), .val (.int ch450), .val (.int ch452), .val (.int ch454), .val (.int ch456), .val (.int vc6), .val (.ref b461), .val (.ref a_SEEDED)] [(.ref b461)])) rfl (by rw [hml]; rfl) (argsL := [(.ref b461)]) (rest := []) (lenOf pd_6 rfl) rfl (by show 2 * 0 + _ ≤ _; exact Nat.le_of_eq rfl) (hb hby at_302) (fun _ _ => ⟨rfl, e520, (by decide : 10 + 1 ≤ _), (by decide : 92 + 2 ≤ _)⟩)
          dsimp only [Pt.U, Pt.locs, Pt.cells, Pt.slots] at X522 l522 y522 z522 st522 hQ522
          subst l522 y522 z522
          obtain ⟨hv522, N522q, K522q⟩ := hQ522
          rw [show own_named ([] : List Int32) a_LISTED a_SEEDED = .ref a_SEEDED from (by unfold own_named; rw [if_neg (fun q => own_no hvq494 hc268_495 q.symm), if_pos (own_yes hvq512 hc286_513).symm])] at hv522
          subst hv522
          have N522 := Fr.app N475 N522q
          have hku522 := Nat.le_trans hk497 K522q.1
          have K522 := (K497).trans K522q all0
          have Zs522 : n0 ≤ T522.heap.size := Nat.le_trans Zs497 K522q.1
          have k522 : Go p e below (s₁.setTop (entryFrame m #[(.int p1), (.int p2), (.long q3)] maxLocals)) (T522.setTop (mkF m 305 #[.val (.int p1), .val (.int p2), .val (.long q3), .second, .val (.ref a442), .val (.int vl), .val (.int ch446), .val (.int ch448), .val (.int ch450), .val (.int ch452), .val (.int ch454), .val (.int ch456), .val (.int vc6), .val (.ref b461), .val (.ref a_SEEDED)] [(.ref a_SEEDED)])) := fun t kk => k521 t (st522 t kk)
          have k523 : Go p e below (s₁.setTop (entryFrame m #[(.int p1), (.int p2), (.long q3)] maxLocals)) (T522.setTop (mkF m 315 #[.val (.int p1), .val (.int p2), .val (.long q3), .second, .val (.ref a442), .val (.int vl), .val (.int ch446), .val (.int ch448), .val (.int ch450), .val (.int ch452), .val (.int ch454), .val (.int ch456), .val (.int vc6), .val (.ref b461), .val (.ref a_SEEDED)] [(.int (1 : Int32))])) := fun t kk => k522 t (by
            show Steps p.tables e below (T522.setTop (mkF m 305 #[.val (.int p1), .val (.int p2), .val (.long q3), .second, .val (.ref a442), .val (.int vl), .val (.int ch446), .val (.int ch448), .val (.int ch450), .val (.int ch452), .val (.int ch454), .val (.int ch456), .val (.int vc6), .val (.ref b461), .val (.ref a_SEEDED)] [(.ref a_SEEDED)])) _
            refine XS.aload X522.here hx rfl (hb hby at_305) rfl rfl ?_
            show Steps p.tables e below (T522.setTop (mkF m 307 #[.val (.int p1), .val (.int p2), .val (.long q3), .second, .val (.ref a442), .val (.int vl), .val (.int ch446), .val (.int ch448), .val (.int ch450), .val (.int ch452), .val (.int ch454), .val (.int ch456), .val (.int vc6), .val (.ref b461), .val (.ref a_SEEDED)] [(.ref a_SEEDED), (.ref a_SEEDED)])) _
            refine Jvm.RoadKit.acmp (g := (mkF m 307 #[.val (.int p1), .val (.int p2), .val (.long q3), .second, .val (.ref a442), .val (.int vl), .val (.int ch446), .val (.int ch448), .val (.int ch450), .val (.int ch452), .val (.int ch454), .val (.int ch456), .val (.int vc6), .val (.ref b461), .val (.ref a_SEEDED)] [(.ref a_SEEDED), (.ref a_SEEDED)])) X522 hx rfl rfl rfl (pc0 := 307) (pc' := 310) (same := true) rfl (hb hby at_307) rfl (decide_eq_true (rfl : (Value.ref a_SEEDED) = (Value.ref a_SEEDED))) (by decide) (by decide) ?_
            show Steps p.tables e below (T522.setTop (mkF m 310 #[.val (.int p1), .val (.int p2), .val (.long q3), .second, .val (.ref a442), .val (.int vl), .val (.int ch446), .val (.int ch448), .val (.int ch450), .val (.int ch452), .val (.int ch454), .val (.int ch456), .val (.int vc6), .val (.ref b461), .val (.ref a_SEEDED)] [])) _
            refine XS.iconst X522.here hx rfl (hb hby at_310) ?_
            show Steps p.tables e below (T522.setTop (mkF m 311 #[.val (.int p1), .val (.int p2), .val (.long q3), .second, .val (.ref a442), .val (.int vl), .val (.int ch446), .val (.int ch448), .val (.int ch450), .val (.int ch452), .val (.int ch454), .val (.int ch456), .val (.int vc6), .val (.ref b461), .val (.ref a_SEEDED)] [(.int (1 : Int32))])) _
            refine XS.goto X522.here hx rfl (pc0 := 311) (pc' := 315) rfl (hb hby at_311) (by decide) (by decide) ?_
            exact kk)
          have Xb525 : Stand p l e room_1 (s.setVm T497.vm) m #[(.int p1), (.int p2), (.long q3)] below meth c T522 _ _ _ := X522
          obtain ⟨fs, hr, hrun, hended, hW⟩ := leaveW Xb525 hS497 hku522 (v := some (.int (1 : Int32))) (fun h => by rw [Bd.returns] at h; cases h)
          refine ⟨_, _, k523 _ ?_, hrun, hended, _, _, rfl, ?_, hW.1, hW.2.1, hW.2.2.1, hW.2.2.2.mono (by decide) (by decide)⟩
          · show Steps p.tables e below (T522.setTop (mkF m 315 #[.val (.int p1), .val (.int p2), .val (.long q3), .second, .val (.ref a442), .val (.int vl), .val (.int ch446), .val (.int ch448), .val (.int ch450), .val (.int ch452), .val (.int ch454), .val (.int ch456), .val (.int vc6), .val (.ref b461), .val (.ref a_SEEDED)] [(.int (1 : Int32))])) _
            exact retN X522 hx (t := .boolean) Bd.returns (by simp) (hb hby at_315) hr
          · show Q0 Z p1 p2 q3 a__VALUES kV a_LISTED a_SEEDED s_LISTED t_LISTED kL s_SEEDED t_SEEDED kS cs fm h0 n0 _ T522.heap _
            exact ⟨rfl, N522⟩
      · have k526 : Go p e below (s₁.setTop (entryFrame m #[(.int p1), (.int p2), (.long q3)] maxLocals)) (T494.setTop (mkF m 271 #[.val (.int p1), .val (.int p2), .val (.long q3), .second, .val (.ref a442), .val (.int vl), .val (.int ch446), .val (.int ch448), .val (.int ch450), .val (.int ch452), .val (.int ch454), .val (.int ch456), .val (.int vc6), .val (.ref b461), .unset] [])) := fun t kk => k494 t (by
          show Steps p.tables e below (T494.setTop (mkF m 268 #[.val (.int p1), .val (.int p2), .val (.long q3), .second, .val (.ref a442), .val (.int vl), .val (.int ch446), .val (.int ch448), .val (.int ch450), .val (.int ch452), .val (.int ch454), .val (.int ch456), .val (.int vc6), .val (.ref b461), .unset] [(.int vq494)])) _
          refine XS.ifNo X494.here hx rfl (hb hby at_268) rfl ((if0 _ _).trans (feq hc268_495).1) ?_
          exact kk)
        obtain ⟨T527, X527, e527, st527⟩ := getS2 X494 hx hZ483 hown483 (host := "") (Or.inl (hw _ (List.mem_of_getElem? (i := 95) rfl))) Via.refl e494 (own_stakeep S_LISTED K483) (g := (mkF m 271 #[.val (.int p1), .val (.int p2), .val (.long q3), .second, .val (.ref a442), .val (.int vl), .val (.int ch446), .val (.int ch448), .val (.int ch450), .val (.int ch452), .val (.int ch454), .val (.int ch456), .val (.int vc6), .val (.ref b461), .unset] [])) rfl (hb hby at_271)
        have k527 : Go p e below (s₁.setTop (entryFrame m #[(.int p1), (.int p2), (.long q3)] maxLocals)) (T527.setTop (mkF m 274 #[.val (.int p1), .val (.int p2), .val (.long q3), .second, .val (.ref a442), .val (.int vl), .val (.int ch446), .val (.int ch448), .val (.int ch450), .val (.int ch452), .val (.int ch454), .val (.int ch456), .val (.int vc6), .val (.ref b461), .unset] [(.ref a_LISTED)])) := fun t kk => k526 t (st527 t kk)
        have k528 : Go p e below (s₁.setTop (entryFrame m #[(.int p1), (.int p2), (.long q3)] maxLocals)) (T527.setTop (mkF m 302 #[.val (.int p1), .val (.int p2), .val (.long q3), .second, .val (.ref a442), .val (.int vl), .val (.int ch446), .val (.int ch448), .val (.int ch450), .val (.int ch452), .val (.int ch454), .val (.int ch456), .val (.int vc6), .val (.ref b461), .val (.ref a_LISTED)] [(.ref b461)])) := fun t kk => k527 t (by
          show Steps p.tables e below (T527.setTop (mkF m 274 #[.val (.int p1), .val (.int p2), .val (.long q3), .second, .val (.ref a442), .val (.int vl), .val (.int ch446), .val (.int ch448), .val (.int ch450), .val (.int ch452), .val (.int ch454), .val (.int ch456), .val (.int vc6), .val (.ref b461), .unset] [(.ref a_LISTED)])) _
          refine XS.astore X527.here hx rfl (hb hby at_274) rfl rfl (l' := #[.val (.int p1), .val (.int p2), .val (.long q3), .second, .val (.ref a442), .val (.int vl), .val (.int ch446), .val (.int ch448), .val (.int ch450), .val (.int ch452), .val (.int ch454), .val (.int ch456), .val (.int vc6), .val (.ref b461), .val (.ref a_LISTED)]) rfl ?_
          show Steps p.tables e below (T527.setTop (mkF m 276 #[.val (.int p1), .val (.int p2), .val (.long q3), .second, .val (.ref a442), .val (.int vl), .val (.int ch446), .val (.int ch448), .val (.int ch450), .val (.int ch452), .val (.int ch454), .val (.int ch456), .val (.int vc6), .val (.ref b461), .val (.ref a_LISTED)] [])) _
          refine XS.goto X527.here hx rfl (pc0 := 276) (pc' := 300) rfl (hb hby at_276) (by decide) (by decide) ?_
          show Steps p.tables e below (T527.setTop (mkF m 300 #[.val (.int p1), .val (.int p2), .val (.long q3), .second, .val (.ref a442), .val (.int vl), .val (.int ch446), .val (.int ch448), .val (.int ch450), .val (.int ch452), .val (.int ch454), .val (.int ch456), .val (.int vc6), .val (.ref b461), .val (.ref a_LISTED)] [])) _
          refine XS.aload X527.here hx rfl (hb hby at_300) rfl rfl ?_
          exact kk)
        obtain ⟨_, _, ⟨T529, L529, kx529, nx529⟩, -, X529, ⟨Lc529, hQ529, l529, y529, z529⟩, st529⟩ := Jvm.LawKit.callS X527 hx (y := (⟨"com/example/tabularium/tabularium/record/Deal", "named", "(Ljava/lang/String;)Lcom/example/tabularium/tabularium/record/Deal;"⟩ : MethodName)) hown483 (mvT hZ483 (hw _ (List.mem_of_getElem? (i := 61) rfl))) (mvT hZ483 (hw _ (List.mem_of_getElem? (i := 62) rfl))) (mvT hZ483 (hw _ (List.mem_of_getElem? (i := 63) rfl))) (mvT hZ483 (hw _ (List.mem_of_getElem? (i := 64) rfl))) (by decide) (backOf (W := 0) (rmD l Z a0 hw [] b461 a__VALUES kV a_LISTED a_SEEDED s_LISTED t_LISTED kL s_SEEDED t_SEEDED kS ([] : List Int32) t475 kb475 (0 : Int32) _ cs h483 n0 Zs483 (own_stakeep SV K483) (PAV.keep K483 nin0) (PEV.keep K483) (f_LISTED.keep K483 nin0) (es_LISTED.keep K483) (cs_LISTED.keep K483 nin0) (vs_LISTED.keep K483 nin0) (as_LISTED.keep K483 nin0) (f_SEEDED.keep K483 nin0) (es_SEEDED.keep K483) (cs_SEEDED.keep K483 nin0) (vs_SEEDED.keep K483 nin0) (as_SEEDED.keep K483 nin0) f490 f492 f491 f493 hcs475 (fun c hc => by cases hc) (Nat.le_of_ble_eq_true rfl) (own_stakeep S1 K483) hs1) hZ483 (hw _ (List.mem_of_getElem? (i := 64) rfl)) (hw _ (List.mem_of_getElem? (i := 63) rfl)) (by decide) (by decide)) (g := (mkF m 302 #[.val (.int p1), .val (.int p2), .val (.long q3), .second, .val (.ref a442), .val (.int vl), .val (.int ch446), .val (.int ch448), .val (.int ch450), .val (.int ch452), .val (.int ch454), .val (.int ch456), .val (.int vc6), .val (.ref b461), .val (.ref a_LISTED)] [(.ref b461)])) rfl (by rw [hml]; rfl) (argsL := [(.ref b461)]) (rest := []) (lenOf pd_6 rfl) rfl (by show 2 * 0 + _ ≤ _; exact Nat.le_of_eq rfl) (hb hby at_302) (fun _ _ => ⟨rfl, e527, (by decide : 8 + 1 ≤ _), (by decide : 64 + 2 ≤ _)⟩)
        dsimp only [Pt.U, Pt.locs, Pt.cells, Pt.slots] at X529 l529 y529 z529 st529 hQ529
        subst l529 y529 z529
        obtain ⟨hv529, N529q, K529q⟩ := hQ529
        rw [show own_named ([] : List Int32) a_LISTED a_SEEDED = .ref a_LISTED from (by unfold own_named; rw [if_pos (own_yes hvq494 hc268_495).symm])] at hv529
        subst hv529
        have N529 := Fr.app N475 N529q
        have hku529 := Nat.le_trans hk483 K529q.1
        have K529 := (K483).trans K529q all0
        have Zs529 : n0 ≤ T529.heap.size := Nat.le_trans Zs483 K529q.1
        have k529 : Go p e below (s₁.setTop (entryFrame m #[(.int p1), (.int p2), (.long q3)] maxLocals)) (T529.setTop (mkF m 305 #[.val (.int p1), .val (.int p2), .val (.long q3), .second, .val (.ref a442), .val (.int vl), .val (.int ch446), .val (.int ch448), .val (.int ch450), .val (.int ch452), .val (.int ch454), .val (.int ch456), .val (.int vc6), .val (.ref b461), .val (.ref a_LISTED)] [(.ref a_LISTED)])) := fun t kk => k528 t (st529 t kk)
        have k530 : Go p e below (s₁.setTop (entryFrame m #[(.int p1), (.int p2), (.long q3)] maxLocals)) (T529.setTop (mkF m 315 #[.val (.int p1), .val (.int p2), .val (.long q3), .second, .val (.ref a442), .val (.int vl), .val (.int ch446), .val (.int ch448), .val (.int ch450), .val (.int ch452), .val (.int ch454), .val (.int ch456), .val (.int vc6), .val (.ref b461), .val (.ref a_LISTED)] [(.int (1 : Int32))])) := fun t kk => k529 t (by
          show Steps p.tables e below (T529.setTop (mkF m 305 #[.val (.int p1), .val (.int p2), .val (.long q3), .second, .val (.ref a442), .val (.int vl), .val (.int ch446), .val (.int ch448), .val (.int ch450), .val (.int ch452), .val (.int ch454), .val (.int ch456), .val (.int vc6), .val (.ref b461), .val (.ref a_LISTED)] [(.ref a_LISTED)])) _
          refine XS.aload X529.here hx rfl (hb hby at_305) rfl rfl ?_
          show Steps p.tables e below (T529.setTop (mkF m 307 #[.val (.int p1), .val (.int p2), .val (.long q3), .second, .val (.ref a442), .val (.int vl), .val (.int ch446), .val (.int ch448), .val (.int ch450), .val (.int ch452), .val (.int ch454), .val (.int ch456), .val (.int vc6), .val (.ref b461), .val (.ref a_LISTED)] [(.ref a_LISTED), (.ref a_LISTED)])) _
          refine Jvm.RoadKit.acmp (g := (mkF m 307 #[.val (.int p1), .val (.int p2), .val (.long q3), .second, .val (.ref a442), .val (.int vl), .val (.int ch446), .val (.int ch448), .val (.int ch450), .val (.int ch452), .val (.int ch454), .val (.int ch456), .val (.int vc6), .val (.ref b461), .val (.ref a_LISTED)] [(.ref a_LISTED), (.ref a_LISTED)])) X529 hx rfl rfl rfl (pc0 := 307) (pc' := 310) (same := true) rfl (hb hby at_307) rfl (decide_eq_true (rfl : (Value.ref a_LISTED) = (Value.ref a_LISTED))) (by decide) (by decide) ?_
          show Steps p.tables e below (T529.setTop (mkF m 310 #[.val (.int p1), .val (.int p2), .val (.long q3), .second, .val (.ref a442), .val (.int vl), .val (.int ch446), .val (.int ch448), .val (.int ch450), .val (.int ch452), .val (.int ch454), .val (.int ch456), .val (.int vc6), .val (.ref b461), .val (.ref a_LISTED)] [])) _
          refine XS.iconst X529.here hx rfl (hb hby at_310) ?_
          show Steps p.tables e below (T529.setTop (mkF m 311 #[.val (.int p1), .val (.int p2), .val (.long q3), .second, .val (.ref a442), .val (.int vl), .val (.int ch446), .val (.int ch448), .val (.int ch450), .val (.int ch452), .val (.int ch454), .val (.int ch456), .val (.int vc6), .val (.ref b461), .val (.ref a_LISTED)] [(.int (1 : Int32))])) _
          refine XS.goto X529.here hx rfl (pc0 := 311) (pc' := 315) rfl (hb hby at_311) (by decide) (by decide) ?_
          exact kk)
        have Xb532 : Stand p l e room_1 (s.setVm T483.vm) m #[(.int p1), (.int p2), (.long q3)] below meth c T529 _ _ _ := X529
        obtain ⟨fs, hr, hrun, hended, hW⟩ := leaveW Xb532 hS483 hku529 (v := some (.int (1 : Int32))) (fun h => by rw [Bd.returns] at h; cases h)
        refine ⟨_, _, k530 _ ?_, hrun, hended, _, _, rfl, ?_, hW.1, hW.2.1, hW.2.2.1, hW.2.2.2.mono (by decide) (by decide)⟩
        · show Steps p.tables e below (T529.setTop (mkF m 315 #[.val (.int p1), .val (.int p2), .val (.long q3), .second, .val (.ref a442), .val (.int vl), .val (.int ch446), .val (.int ch448), .val (.int ch450), .val (.int ch452), .val (.int ch454), .val (.int ch456), .val (.int vc6), .val (.ref b461), .val (.ref a_LISTED)] [(.int (1 : Int32))])) _
          exact retN X529 hx (t := .boolean) Bd.returns (by simp) (hb hby at_315) hr
        · show Q0 Z p1 p2 q3 a__VALUES kV a_LISTED a_SEEDED s_LISTED t_LISTED kL s_SEEDED t_SEEDED kS cs fm h0 n0 _ T529.heap _
          exact ⟨rfl, N529⟩
    · have k533 : Go p e below (s₁.setTop (entryFrame m #[(.int p1), (.int p2), (.long q3)] maxLocals)) (T456.setTop (mkF m 117 #[.val (.int p1), .val (.int p2), .val (.long q3), .second, .val (.ref a442), .val (.int vl), .val (.int ch446), .val (.int ch448), .val (.int ch450), .val (.int ch452), .val (.int ch454), .val (.int ch456), .val (.int vc6), .unset, .unset] [(.int (1 : Int32)), (.int vl)])) := fun t kk => k458 t (by
        show Steps p.tables e below (T456.setTop (mkF m 96 #[.val (.int p1), .val (.int p2), .val (.long q3), .second, .val (.ref a442), .val (.int vl), .val (.int ch446), .val (.int ch448), .val (.int ch450), .val (.int ch452), .val (.int ch454), .val (.int ch456), .val (.int vc6), .unset, .unset] [(.int vl)])) _
        refine XS.ifYes X456.here hx rfl (pc0 := 96) (pc' := 114) rfl (hb hby at_96) rfl ((if0 _ _).trans (feq hc96_459).2) (by decide) (by decide) ?_
        show Steps p.tables e below (T456.setTop (mkF m 114 #[.val (.int p1), .val (.int p2), .val (.long q3), .second, .val (.ref a442), .val (.int vl), .val (.int ch446), .val (.int ch448), .val (.int ch450), .val (.int ch452), .val (.int ch454), .val (.int ch456), .val (.int vc6), .unset, .unset] [])) _
        refine XS.iload X456.here hx rfl (hb hby at_114) rfl ?_
        show Steps p.tables e below (T456.setTop (mkF m 116 #[.val (.int p1), .val (.int p2), .val (.long q3), .second, .val (.ref a442), .val (.int vl), .val (.int ch446), .val (.int ch448), .val (.int ch450), .val (.int ch452), .val (.int ch454), .val (.int ch456), .val (.int vc6), .unset, .unset] [(.int vl)])) _
        refine XS.iconst X456.here hx rfl (hb hby at_116) ?_
        exact kk)
      by_cases hc117_534 : vl = (1 : Int32)
      · have k535 : Go p e below (s₁.setTop (entryFrame m #[(.int p1), (.int p2), (.long q3)] maxLocals)) (T456.setTop (mkF m 120 #[.val (.int p1), .val (.int p2), .val (.long q3), .second, .val (.ref a442), .val (.int vl), .val (.int ch446), .val (.int ch448), .val (.int ch450), .val (.int ch452), .val (.int ch454), .val (.int ch456), .val (.int vc6), .unset, .unset] [])) := fun t kk => k533 t (by
          show Steps p.tables e below (T456.setTop (mkF m 117 #[.val (.int p1), .val (.int p2), .val (.long q3), .second, .val (.ref a442), .val (.int vl), .val (.int ch446), .val (.int ch448), .val (.int ch450), .val (.int ch452), .val (.int ch454), .val (.int ch456), .val (.int vc6), .unset, .unset] [(.int (1 : Int32)), (.int vl)])) _
          refine XS.icmpNo X456.here hx rfl (hb hby at_117) rfl (teq hc117_534).2 ?_
          exact kk)
        obtain ⟨T536, h536, X536, e536, E536, A536, D536, -, st536⟩ := newO X456 hx hZ442 hown442 (hw _ (List.mem_of_getElem? (i := 38) rfl)) (hw _ (List.mem_of_getElem? (i := 2) rfl)) (hw _ (List.mem_of_getElem? (i := 1) rfl)) e456 (g := (mkF m 120 #[.val (.int p1), .val (.int p2), .val (.long q3), .second, .val (.ref a442), .val (.int vl), .val (.int ch446), .val (.int ch448), .val (.int ch450), .val (.int ch452), .val (.int ch454), .val (.int ch456), .val (.int vc6), .unset, .unset] [])) rfl (hb hby at_120) (by decide) (by decide)
        obtain ⟨b536, g536⟩ : ∃ z, z = (h442).size := ⟨_, rfl⟩
        rw [← g536] at A536 D536 st536
        have ne_a442_b536 : a442 ≠ b536 := Nat.ne_of_lt (Nat.lt_of_lt_of_le xe442.lt (Nat.le_of_eq g536.symm))
        have ne_b442_b536 : b442 ≠ b536 := Nat.ne_of_lt (Nat.lt_of_lt_of_le V442.lt (Nat.le_of_eq g536.symm))
        have sz_b536 : h0.size ≤ b536 := Nat.le_trans K442.1 (Nat.le_of_eq g536.symm)
        have ge_b536 : n0 ≤ b536 := Nat.le_trans Zs442 (Nat.le_of_eq g536.symm)
        have f537 := xe442.ext E536
        have f538 := xc442.ext E536
        have f539 := xv442.ext E536
        have f540 := V442.ext E536
        have sf536_b536 := Safe.ext E536 C442.1 (Safe.new (x := b536) (Nat.le_of_eq g536.symm))
        have C536 := C442.trans (CHr.ext E536 C442.1)
        have hku536 := Nat.le_trans hk442 E536.1
        have K536 := (K442).ext E536
        have Zs536 : n0 ≤ h536.size := Nat.le_trans Zs442 E536.1
        have F536_value : Fld Z h536 b536 "java/lang/String" "value" "[B" .null := D536 (Or.inr (hw _ (List.mem_of_getElem? (i := 4) rfl))) (ty := (.array .byte)) (by decide)
        have F536_coder : Fld Z h536 b536 "java/lang/String" "coder" "B" (.int (0 : Int32)) := D536 (Or.inr (hw _ (List.mem_of_getElem? (i := 5) rfl))) (ty := .byte) (by decide)
        have k536 : Go p e below (s₁.setTop (entryFrame m #[(.int p1), (.int p2), (.long q3)] maxLocals)) (T536.setTop (mkF m 123 #[.val (.int p1), .val (.int p2), .val (.long q3), .second, .val (.ref a442), .val (.int vl), .val (.int ch446), .val (.int ch448), .val (.int ch450), .val (.int ch452), .val (.int ch454), .val (.int ch456), .val (.int vc6), .unset, .unset] [(.ref b536)])) := fun t kk => k535 t (st536 t kk)
        have k541 : Go p e below (s₁.setTop (entryFrame m #[(.int p1), (.int p2), (.long q3)] maxLocals)) (T536.setTop (mkF m 125 #[.val (.int p1), .val (.int p2), .val (.long q3), .second, .val (.ref a442), .val (.int vl), .val (.int ch446), .val (.int ch448), .val (.int ch450), .val (.int ch452), .val (.int ch454), .val (.int ch456), .val (.int vc6), .unset, .unset] [(.int (5 : Int32)), (.ref b536), (.ref b536)])) := fun t kk => k536 t (by
          show Steps p.tables e below (T536.setTop (mkF m 123 #[.val (.int p1), .val (.int p2), .val (.long q3), .second, .val (.ref a442), .val (.int vl), .val (.int ch446), .val (.int ch448), .val (.int ch450), .val (.int ch452), .val (.int ch454), .val (.int ch456), .val (.int vc6), .unset, .unset] [(.ref b536)])) _
          refine XS.dup X536.here hx rfl (hb hby at_123) rfl rfl ?_
          show Steps p.tables e below (T536.setTop (mkF m 124 #[.val (.int p1), .val (.int p2), .val (.long q3), .second, .val (.ref a442), .val (.int vl), .val (.int ch446), .val (.int ch448), .val (.int ch450), .val (.int ch452), .val (.int ch454), .val (.int ch456), .val (.int vc6), .unset, .unset] [(.ref b536), (.ref b536)])) _
          refine XS.iconst X536.here hx rfl (hb hby at_124) ?_
          exact kk)
        obtain ⟨T542, h542, kc542, X542, e542, E542, A542, st542⟩ := newP X536 hx hZ442 (hw _ (List.mem_of_getElem? (i := 39) rfl)) e536 (g := (mkF m 125 #[.val (.int p1), .val (.int p2), .val (.long q3), .second, .val (.ref a442), .val (.int vl), .val (.int ch446), .val (.int ch448), .val (.int ch450), .val (.int ch452), .val (.int ch454), .val (.int ch456), .val (.int vc6), .unset, .unset] [(.int (5 : Int32)), (.ref b536), (.ref b536)])) rfl (hb hby at_125) rfl (by decide) (cap := 5) (by decide) (by decide) (by decide) (by decide)
        obtain ⟨b542, g542⟩ : ∃ z, z = (h536).size := ⟨_, rfl⟩
        rw [← g542] at A542 st542
        have ne_a442_b542 : a442 ≠ b542 := Nat.ne_of_lt (Nat.lt_of_lt_of_le f537.lt (Nat.le_of_eq g542.symm))
        have ne_b442_b542 : b442 ≠ b542 := Nat.ne_of_lt (Nat.lt_of_lt_of_le f540.lt (Nat.le_of_eq g542.symm))
        have ne_b536_b542 : b536 ≠ b542 := Nat.ne_of_lt (Nat.lt_of_lt_of_le F536_value.lt (Nat.le_of_eq g542.symm))
        have sz_b542 : h0.size ≤ b542 := Nat.le_trans K536.1 (Nat.le_of_eq g542.symm)
        have ge_b542 : n0 ≤ b542 := Nat.le_trans Zs536 (Nat.le_of_eq g542.symm)
        have f543 := f537.ext E542
        have f544 := f538.ext E542
        have f545 := f539.ext E542
        have f546 := f540.ext E542
        have f547 := F536_value.ext E542
        have f548 := F536_coder.ext E542
        have f549 := A536.ext E542
        have sf542_b536 := Safe.ext E542 C536.1 sf536_b536
        have sf542_b542 := Safe.ext E542 C536.1 (Safe.new (x := b542) (Nat.le_of_eq g542.symm))
        have C542 := C536.trans (CHr.ext E542 C536.1)
        have hku542 := Nat.le_trans hku536 E542.1
        have K542 := (K536).ext E542
        have Zs542 : n0 ≤ h542.size := Nat.le_trans Zs536 E542.1
        have V542 : Arv Z h542 b542 kc542 .char (5 : Int32) [(.int (0 : Int32)), (.int (0 : Int32)), (.int (0 : Int32)), (.int (0 : Int32)), (.int (0 : Int32))] (.int (0 : Int32)) := (Arv.new A542 (by decide)).pad (pad_rep [] (.int (0 : Int32)) 5)
        have k542 : Go p e below (s₁.setTop (entryFrame m #[(.int p1), (.int p2), (.long q3)] maxLocals)) (T542.setTop (mkF m 127 #[.val (.int p1), .val (.int p2), .val (.long q3), .second, .val (.ref a442), .val (.int vl), .val (.int ch446), .val (.int ch448), .val (.int ch450), .val (.int ch452), .val (.int ch454), .val (.int ch456), .val (.int vc6), .unset, .unset] [(.ref b542), (.ref b536), (.ref b536)])) := fun t kk => k541 t (st542 t kk)
        have k550 : Go p e below (s₁.setTop (entryFrame m #[(.int p1), (.int p2), (.long q3)] maxLocals)) (T542.setTop (mkF m 131 #[.val (.int p1), .val (.int p2), .val (.long q3), .second, .val (.ref a442), .val (.int vl), .val (.int ch446), .val (.int ch448), .val (.int ch450), .val (.int ch452), .val (.int ch454), .val (.int ch456), .val (.int vc6), .unset, .unset] [(.int ch446), (.int (0 : Int32)), (.ref b542), (.ref b542), (.ref b536), (.ref b536)])) := fun t kk => k542 t (by
          show Steps p.tables e below (T542.setTop (mkF m 127 #[.val (.int p1), .val (.int p2), .val (.long q3), .second, .val (.ref a442), .val (.int vl), .val (.int ch446), .val (.int ch448), .val (.int ch450), .val (.int ch452), .val (.int ch454), .val (.int ch456), .val (.int vc6), .unset, .unset] [(.ref b542), (.ref b536), (.ref b536)])) _
          refine XS.dup X542.here hx rfl (hb hby at_127) rfl rfl ?_
          show Steps p.tables e below (T542.setTop (mkF m 128 #[.val (.int p1), .val (.int p2), .val (.long q3), .second, .val (.ref a442), .val (.int vl), .val (.int ch446), .val (.int ch448), .val (.int ch450), .val (.int ch452), .val (.int ch454), .val (.int ch456), .val (.int vc6), .unset, .unset] [(.ref b542), (.ref b542), (.ref b536), (.ref b536)])) _
          refine XS.iconst X542.here hx rfl (hb hby at_128) ?_
          show Steps p.tables e below (T542.setTop (mkF m 129 #[.val (.int p1), .val (.int p2), .val (.long q3), .second, .val (.ref a442), .val (.int vl), .val (.int ch446), .val (.int ch448), .val (.int ch450), .val (.int ch452), .val (.int ch454), .val (.int ch456), .val (.int vc6), .unset, .unset] [(.int (0 : Int32)), (.ref b542), (.ref b542), (.ref b536), (.ref b536)])) _
          refine XS.iload X542.here hx rfl (hb hby at_129) rfl ?_
          exact kk)
        obtain ⟨cl551, Ar551, q551, S551, G551, H551, J551⟩ := V542
        have hin551 : ¬ ((0 : Int32) < 0 ∨ cl551.slots.size ≤ ((0 : Int32)).toNatClampNeg) := inb_of S551 ⟨by decide, by decide⟩
        obtain ⟨T551, h551, X551, e551, W551, st551⟩ := stC X542 hx hZ442 e542 Ar551 (j := (0 : Int32)) hin551 (g := (mkF m 131 #[.val (.int p1), .val (.int p2), .val (.long q3), .second, .val (.ref a442), .val (.int vl), .val (.int ch446), .val (.int ch448), .val (.int ch450), .val (.int ch452), .val (.int ch454), .val (.int ch456), .val (.int vc6), .unset, .unset] [(.int ch446), (.int (0 : Int32)), (.ref b542), (.ref b542), (.ref b536), (.ref b536)])) rfl rfl (hb hby at_131)
        have V551 := Arv.set Ar551 q551 S551 G551 H551 J551 (fits_nar_char _) W551 0 rfl (Nat.le_of_ble_eq_true rfl)
        have N551 := Fr.snoc X551 N0 ge_b542
        have hku551 := Nat.le_trans hku542 (Keep.of_wr W551).1
        have sf551_b536 := Safe.wr W551 sf542_b542 C542.1 sf542_b536
        have sf551_b542 := Safe.wr W551 sf542_b542 C542.1 sf542_b542
        have C551 := C542.trans (CHr.wr W551 sf542_b542 C542.1)
        have f552 := f543.wr W551
        have f553 := f544.other W551 (Or.inl ne_a442_b542)
        have f554 := f545.other W551 (Or.inl ne_a442_b542)
        have f555 := f546.other W551 ne_b442_b542
        have f556 := f547.other W551 (Or.inl ne_b536_b542)
        have f557 := f548.other W551 (Or.inl ne_b536_b542)
        have f558 := f549.wr W551
        have K551 := (K542).wr W551 (Or.inr sz_b542)
        have Zs551 : n0 ≤ h551.size := Nat.le_trans Zs542 (Keep.of_wr W551).1
        have k551 : Go p e below (s₁.setTop (entryFrame m #[(.int p1), (.int p2), (.long q3)] maxLocals)) (T551.setTop (mkF m 132 #[.val (.int p1), .val (.int p2), .val (.long q3), .second, .val (.ref a442), .val (.int vl), .val (.int ch446), .val (.int ch448), .val (.int ch450), .val (.int ch452), .val (.int ch454), .val (.int ch456), .val (.int vc6), .unset, .unset] [(.ref b542), (.ref b536), (.ref b536)])) := fun t kk => k550 t (st551 t kk)
        have k559 : Go p e below (s₁.setTop (entryFrame m #[(.int p1), (.int p2), (.long q3)] maxLocals)) (T551.setTop (mkF m 136 #[.val (.int p1), .val (.int p2), .val (.long q3), .second, .val (.ref a442), .val (.int vl), .val (.int ch446), .val (.int ch448), .val (.int ch450), .val (.int ch452), .val (.int ch454), .val (.int ch456), .val (.int vc6), .unset, .unset] [(.int ch448), (.int (1 : Int32)), (.ref b542), (.ref b542), (.ref b536), (.ref b536)])) := fun t kk => k551 t (by
          show Steps p.tables e below (T551.setTop (mkF m 132 #[.val (.int p1), .val (.int p2), .val (.long q3), .second, .val (.ref a442), .val (.int vl), .val (.int ch446), .val (.int ch448), .val (.int ch450), .val (.int ch452), .val (.int ch454), .val (.int ch456), .val (.int vc6), .unset, .unset] [(.ref b542), (.ref b536), (.ref b536)])) _
          refine XS.dup X551.here hx rfl (hb hby at_132) rfl rfl ?_
          show Steps p.tables e below (T551.setTop (mkF m 133 #[.val (.int p1), .val (.int p2), .val (.long q3), .second, .val (.ref a442), .val (.int vl), .val (.int ch446), .val (.int ch448), .val (.int ch450), .val (.int ch452), .val (.int ch454), .val (.int ch456), .val (.int vc6), .unset, .unset] [(.ref b542), (.ref b542), (.ref b536), (.ref b536)])) _
          refine XS.iconst X551.here hx rfl (hb hby at_133) ?_
          show Steps p.tables e below (T551.setTop (mkF m 134 #[.val (.int p1), .val (.int p2), .val (.long q3), .second, .val (.ref a442), .val (.int vl), .val (.int ch446), .val (.int ch448), .val (.int ch450), .val (.int ch452), .val (.int ch454), .val (.int ch456), .val (.int vc6), .unset, .unset] [(.int (1 : Int32)), (.ref b542), (.ref b542), (.ref b536), (.ref b536)])) _
          refine XS.iload X551.here hx rfl (hb hby at_134) rfl ?_
          exact kk)
        obtain ⟨cl560, Ar560, q560, S560, G560, H560, J560⟩ := V551
        have hin560 : ¬ ((1 : Int32) < 0 ∨ cl560.slots.size ≤ ((1 : Int32)).toNatClampNeg) := inb_of S560 ⟨by decide, by decide⟩
        obtain ⟨T560, h560, X560, e560, W560, st560⟩ := stC X551 hx hZ442 e551 Ar560 (j := (1 : Int32)) hin560 (g := (mkF m 136 #[.val (.int p1), .val (.int p2), .val (.long q3), .second, .val (.ref a442), .val (.int vl), .val (.int ch446), .val (.int ch448), .val (.int ch450), .val (.int ch452), .val (.int ch454), .val (.int ch456), .val (.int vc6), .unset, .unset] [(.int ch448), (.int (1 : Int32)), (.ref b542), (.ref b542), (.ref b536), (.ref b536)])) rfl rfl (hb hby at_136)
        have V560 := Arv.set Ar560 q560 S560 G560 H560 J560 (fits_nar_char _) W560 1 rfl (Nat.le_of_ble_eq_true rfl)
        have N560 := Fr.snoc X560 N551 ge_b542
        have hku560 := Nat.le_trans hku551 (Keep.of_wr W560).1
        have sf560_b536 := Safe.wr W560 sf551_b542 C551.1 sf551_b536
        have sf560_b542 := Safe.wr W560 sf551_b542 C551.1 sf551_b542
        have C560 := C551.trans (CHr.wr W560 sf551_b542 C551.1)
        have f561 := f552.wr W560
        have f562 := f553.other W560 (Or.inl ne_a442_b542)
        have f563 := f554.other W560 (Or.inl ne_a442_b542)
        have f564 := f555.other W560 ne_b442_b542
        have f565 := f556.other W560 (Or.inl ne_b536_b542)
        have f566 := f557.other W560 (Or.inl ne_b536_b542)
        have f567 := f558.wr W560
        have K560 := (K551).wr W560 (Or.inr sz_b542)
        have Zs560 : n0 ≤ h560.size := Nat.le_trans Zs551 (Keep.of_wr W560).1
        have k560 : Go p e below (s₁.setTop (entryFrame m #[(.int p1), (.int p2), (.long q3)] maxLocals)) (T560.setTop (mkF m 137 #[.val (.int p1), .val (.int p2), .val (.long q3), .second, .val (.ref a442), .val (.int vl), .val (.int ch446), .val (.int ch448), .val (.int ch450), .val (.int ch452), .val (.int ch454), .val (.int ch456), .val (.int vc6), .unset, .unset] [(.ref b542), (.ref b536), (.ref b536)])) := fun t kk => k559 t (st560 t kk)
        have k568 : Go p e below (s₁.setTop (entryFrame m #[(.int p1), (.int p2), (.long q3)] maxLocals)) (T560.setTop (mkF m 141 #[.val (.int p1), .val (.int p2), .val (.long q3), .second, .val (.ref a442), .val (.int vl), .val (.int ch446), .val (.int ch448), .val (.int ch450), .val (.int ch452), .val (.int ch454), .val (.int ch456), .val (.int vc6), .unset, .unset] [(.int ch450), (.int (2 : Int32)), (.ref b542), (.ref b542), (.ref b536), (.ref b536)])) := fun t kk => k560 t (by
          show Steps p.tables e below (T560.setTop (mkF m 137 #[.val (.int p1), .val (.int p2), .val (.long q3), .second, .val (.ref a442), .val (.int vl), .val (.int ch446), .val (.int ch448), .val (.int ch450), .val (.int ch452), .val (.int ch454), .val (.int ch456), .val (.int vc6), .unset, .unset] [(.ref b542), (.ref b536), (.ref b536)])) _
          refine XS.dup X560.here hx rfl (hb hby at_137) rfl rfl ?_
          show Steps p.tables e below (T560.setTop (mkF m 138 #[.val (.int p1), .val (.int p2), .val (.long q3), .second, .val (.ref a442), .val (.int vl), .val (.int ch446), .val (.int ch448), .val (.int ch450), .val (.int ch452), .val (.int ch454), .val (.int ch456), .val (.int vc6), .unset, .unset] [(.ref b542), (.ref b542), (.ref b536), (.ref b536)])) _
          refine XS.iconst X560.here hx rfl (hb hby at_138) ?_
          show Steps p.tables e below (T560.setTop (mkF m 139 #[.val (.int p1), .val (.int p2), .val (.long q3), .second, .val (.ref a442), .val (.int vl), .val (.int ch446), .val (.int ch448), .val (.int ch450), .val (.int ch452), .val (.int ch454), .val (.int ch456), .val (.int vc6), .unset, .unset] [(.int (2 : Int32)), (.ref b542), (.ref b542), (.ref b536), (.ref b536)])) _
          refine XS.iload X560.here hx rfl (hb hby at_139) rfl ?_
          exact kk)
        obtain ⟨cl569, Ar569, q569, S569, G569, H569, J569⟩ := V560
        have hin569 : ¬ ((2 : Int32) < 0 ∨ cl569.slots.size ≤ ((2 : Int32)).toNatClampNeg) := inb_of S569 ⟨by decide, by decide⟩
        obtain ⟨T569, h569, X569, e569, W569, st569⟩ := stC X560 hx hZ442 e560 Ar569 (j := (2 : Int32)) hin569 (g := (mkF m 141 #[.val (.int p1), .val (.int p2), .val (.long q3), .second, .val (.ref a442), .val (.int vl), .val (.int ch446), .val (.int ch448), .val (.int ch450), .val (.int ch452), .val (.int ch454), .val (.int ch456), .val (.int vc6), .unset, .unset] [(.int ch450), (.int (2 : Int32)), (.ref b542), (.ref b542), (.ref b536), (.ref b536)])) rfl rfl (hb hby at_141)
        have V569 := Arv.set Ar569 q569 S569 G569 H569 J569 (fits_nar_char _) W569 2 rfl (Nat.le_of_ble_eq_true rfl)
        have N569 := Fr.snoc X569 N560 ge_b542
        have hku569 := Nat.le_trans hku560 (Keep.of_wr W569).1
        have sf569_b536 := Safe.wr W569 sf560_b542 C560.1 sf560_b536
        have sf569_b542 := Safe.wr W569 sf560_b542 C560.1 sf560_b542
        have C569 := C560.trans (CHr.wr W569 sf560_b542 C560.1)
        have f570 := f561.wr W569
        have f571 := f562.other W569 (Or.inl ne_a442_b542)
        have f572 := f563.other W569 (Or.inl ne_a442_b542)
        have f573 := f564.other W569 ne_b442_b542
        have f574 := f565.other W569 (Or.inl ne_b536_b542)
        have f575 := f566.other W569 (Or.inl ne_b536_b542)
        have f576 := f567.wr W569
        have K569 := (K560).wr W569 (Or.inr sz_b542)
        have Zs569 : n0 ≤ h569.size := Nat.le_trans Zs560 (Keep.of_wr W569).1
        have k569 : Go p e below (s₁.setTop (entryFrame m #[(.int p1), (.int p2), (.long q3)] maxLocals)) (T569.setTop (mkF m 142 #[.val (.int p1), .val (.int p2), .val (.long q3), .second, .val (.ref a442), .val (.int vl), .val (.int ch446), .val (.int ch448), .val (.int ch450), .val (.int ch452), .val (.int ch454), .val (.int ch456), .val (.int vc6), .unset, .unset] [(.ref b542), (.ref b536), (.ref b536)])) := fun t kk => k568 t (st569 t kk)
        have k577 : Go p e below (s₁.setTop (entryFrame m #[(.int p1), (.int p2), (.long q3)] maxLocals)) (T569.setTop (mkF m 146 #[.val (.int p1), .val (.int p2), .val (.long q3), .second, .val (.ref a442), .val (.int vl), .val (.int ch446), .val (.int ch448), .val (.int ch450), .val (.int ch452), .val (.int ch454), .val (.int ch456), .val (.int vc6), .unset, .unset] [(.int ch452), (.int (3 : Int32)), (.ref b542), (.ref b542), (.ref b536), (.ref b536)])) := fun t kk => k569 t (by
          show Steps p.tables e below (T569.setTop (mkF m 142 #[.val (.int p1), .val (.int p2), .val (.long q3), .second, .val (.ref a442), .val (.int vl), .val (.int ch446), .val (.int ch448), .val (.int ch450), .val (.int ch452), .val (.int ch454), .val (.int ch456), .val (.int vc6), .unset, .unset] [(.ref b542), (.ref b536), (.ref b536)])) _
          refine XS.dup X569.here hx rfl (hb hby at_142) rfl rfl ?_
          show Steps p.tables e below (T569.setTop (mkF m 143 #[.val (.int p1), .val (.int p2), .val (.long q3), .second, .val (.ref a442), .val (.int vl), .val (.int ch446), .val (.int ch448), .val (.int ch450), .val (.int ch452), .val (.int ch454), .val (.int ch456), .val (.int vc6), .unset, .unset] [(.ref b542), (.ref b542), (.ref b536), (.ref b536)])) _
          refine XS.iconst X569.here hx rfl (hb hby at_143) ?_
          show Steps p.tables e below (T569.setTop (mkF m 144 #[.val (.int p1), .val (.int p2), .val (.long q3), .second, .val (.ref a442), .val (.int vl), .val (.int ch446), .val (.int ch448), .val (.int ch450), .val (.int ch452), .val (.int ch454), .val (.int ch456), .val (.int vc6), .unset, .unset] [(.int (3 : Int32)), (.ref b542), (.ref b542), (.ref b536), (.ref b536)])) _
          refine XS.iload X569.here hx rfl (hb hby at_144) rfl ?_
          exact kk)
        obtain ⟨cl578, Ar578, q578, S578, G578, H578, J578⟩ := V569
        have hin578 : ¬ ((3 : Int32) < 0 ∨ cl578.slots.size ≤ ((3 : Int32)).toNatClampNeg) := inb_of S578 ⟨by decide, by decide⟩
        obtain ⟨T578, h578, X578, e578, W578, st578⟩ := stC X569 hx hZ442 e569 Ar578 (j := (3 : Int32)) hin578 (g := (mkF m 146 #[.val (.int p1), .val (.int p2), .val (.long q3), .second, .val (.ref a442), .val (.int vl), .val (.int ch446), .val (.int ch448), .val (.int ch450), .val (.int ch452), .val (.int ch454), .val (.int ch456), .val (.int vc6), .unset, .unset] [(.int ch452), (.int (3 : Int32)), (.ref b542), (.ref b542), (.ref b536), (.ref b536)])) rfl rfl (hb hby at_146)
        have V578 := Arv.set Ar578 q578 S578 G578 H578 J578 (fits_nar_char _) W578 3 rfl (Nat.le_of_ble_eq_true rfl)
        have N578 := Fr.snoc X578 N569 ge_b542
        have hku578 := Nat.le_trans hku569 (Keep.of_wr W578).1
        have sf578_b536 := Safe.wr W578 sf569_b542 C569.1 sf569_b536
        have sf578_b542 := Safe.wr W578 sf569_b542 C569.1 sf569_b542
        have C578 := C569.trans (CHr.wr W578 sf569_b542 C569.1)
        have f579 := f570.wr W578
        have f580 := f571.other W578 (Or.inl ne_a442_b542)
        have f581 := f572.other W578 (Or.inl ne_a442_b542)
        have f582 := f573.other W578 ne_b442_b542
        have f583 := f574.other W578 (Or.inl ne_b536_b542)
        have f584 := f575.other W578 (Or.inl ne_b536_b542)
        have f585 := f576.wr W578
        have K578 := (K569).wr W578 (Or.inr sz_b542)
        have Zs578 : n0 ≤ h578.size := Nat.le_trans Zs569 (Keep.of_wr W578).1
        have k578 : Go p e below (s₁.setTop (entryFrame m #[(.int p1), (.int p2), (.long q3)] maxLocals)) (T578.setTop (mkF m 147 #[.val (.int p1), .val (.int p2), .val (.long q3), .second, .val (.ref a442), .val (.int vl), .val (.int ch446), .val (.int ch448), .val (.int ch450), .val (.int ch452), .val (.int ch454), .val (.int ch456), .val (.int vc6), .unset, .unset] [(.ref b542), (.ref b536), (.ref b536)])) := fun t kk => k577 t (st578 t kk)
        have k586 : Go p e below (s₁.setTop (entryFrame m #[(.int p1), (.int p2), (.long q3)] maxLocals)) (T578.setTop (mkF m 151 #[.val (.int p1), .val (.int p2), .val (.long q3), .second, .val (.ref a442), .val (.int vl), .val (.int ch446), .val (.int ch448), .val (.int ch450), .val (.int ch452), .val (.int ch454), .val (.int ch456), .val (.int vc6), .unset, .unset] [(.int ch454), (.int (4 : Int32)), (.ref b542), (.ref b542), (.ref b536), (.ref b536)])) := fun t kk => k578 t (by
          show Steps p.tables e below (T578.setTop (mkF m 147 #[.val (.int p1), .val (.int p2), .val (.long q3), .second, .val (.ref a442), .val (.int vl), .val (.int ch446), .val (.int ch448), .val (.int ch450), .val (.int ch452), .val (.int ch454), .val (.int ch456), .val (.int vc6), .unset, .unset] [(.ref b542), (.ref b536), (.ref b536)])) _
          refine XS.dup X578.here hx rfl (hb hby at_147) rfl rfl ?_
          show Steps p.tables e below (T578.setTop (mkF m 148 #[.val (.int p1), .val (.int p2), .val (.long q3), .second, .val (.ref a442), .val (.int vl), .val (.int ch446), .val (.int ch448), .val (.int ch450), .val (.int ch452), .val (.int ch454), .val (.int ch456), .val (.int vc6), .unset, .unset] [(.ref b542), (.ref b542), (.ref b536), (.ref b536)])) _
          refine XS.iconst X578.here hx rfl (hb hby at_148) ?_
          show Steps p.tables e below (T578.setTop (mkF m 149 #[.val (.int p1), .val (.int p2), .val (.long q3), .second, .val (.ref a442), .val (.int vl), .val (.int ch446), .val (.int ch448), .val (.int ch450), .val (.int ch452), .val (.int ch454), .val (.int ch456), .val (.int vc6), .unset, .unset] [(.int (4 : Int32)), (.ref b542), (.ref b542), (.ref b536), (.ref b536)])) _
          refine XS.iload X578.here hx rfl (hb hby at_149) rfl ?_
          exact kk)
        obtain ⟨cl587, Ar587, q587, S587, G587, H587, J587⟩ := V578
        have hin587 : ¬ ((4 : Int32) < 0 ∨ cl587.slots.size ≤ ((4 : Int32)).toNatClampNeg) := inb_of S587 ⟨by decide, by decide⟩
        obtain ⟨T587, h587, X587, e587, W587, st587⟩ := stC X578 hx hZ442 e578 Ar587 (j := (4 : Int32)) hin587 (g := (mkF m 151 #[.val (.int p1), .val (.int p2), .val (.long q3), .second, .val (.ref a442), .val (.int vl), .val (.int ch446), .val (.int ch448), .val (.int ch450), .val (.int ch452), .val (.int ch454), .val (.int ch456), .val (.int vc6), .unset, .unset] [(.int ch454), (.int (4 : Int32)), (.ref b542), (.ref b542), (.ref b536), (.ref b536)])) rfl rfl (hb hby at_151)
        have V587 := Arv.set Ar587 q587 S587 G587 H587 J587 (fits_nar_char _) W587 4 rfl (Nat.le_of_ble_eq_true rfl)
        have N587 := Fr.snoc X587 N578 ge_b542
        have hku587 := Nat.le_trans hku578 (Keep.of_wr W587).1
        have sf587_b536 := Safe.wr W587 sf578_b542 C578.1 sf578_b536
        have sf587_b542 := Safe.wr W587 sf578_b542 C578.1 sf578_b542
        have C587 := C578.trans (CHr.wr W587 sf578_b542 C578.1)
        have f588 := f579.wr W587
        have f589 := f580.other W587 (Or.inl ne_a442_b542)
        have f590 := f581.other W587 (Or.inl ne_a442_b542)
        have f591 := f582.other W587 ne_b442_b542
        have f592 := f583.other W587 (Or.inl ne_b536_b542)
        have f593 := f584.other W587 (Or.inl ne_b536_b542)
        have f594 := f585.wr W587
        have K587 := (K578).wr W587 (Or.inr sz_b542)
        have Zs587 : n0 ≤ h587.size := Nat.le_trans Zs578 (Keep.of_wr W587).1
        have k587 : Go p e below (s₁.setTop (entryFrame m #[(.int p1), (.int p2), (.long q3)] maxLocals)) (T587.setTop (mkF m 152 #[.val (.int p1), .val (.int p2), .val (.long q3), .second, .val (.ref a442), .val (.int vl), .val (.int ch446), .val (.int ch448), .val (.int ch450), .val (.int ch452), .val (.int ch454), .val (.int ch456), .val (.int vc6), .unset, .unset] [(.ref b542), (.ref b536), (.ref b536)])) := fun t kk => k586 t (st587 t kk)
        have hps595 : ∀ c ∈ (([ch446, ch448, ch450, ch452, ch454] : List Int32).map (nar .char)), ¬ c < 0 ∧ ¬ (255 : Int32) < c := own_nars _ (by
          intro x hx
          simp only [List.mem_cons, List.not_mem_nil, or_false] at hx
          rcases hx with rfl | rfl | rfl | rfl | rfl
          · exact hb446
          · exact hb448
          · exact hb450
          · exact hb452
          · exact hb454)
        have hcs595 : StrChars.Road.CodA (([ch446, ch448, ch450, ch452, ch454] : List Int32).map (nar .char)) 0 (5 : Int32) ((((([ch446, ch448, ch450, ch452, ch454] : List Int32).map (nar .char))).map (fun c => c.toInt8.toInt32)).map Value.int) := StrChars.Road.codOf (n := 5) rfl (fun c hc => (hps595 c hc).2)
        obtain ⟨_, _, ⟨T595, L595, kx595, nx595⟩, -, X595, ⟨Lc595, hQ595, l595, y595, z595⟩, st595⟩ := X587.specialBack hx (y := (⟨"java/lang/String", "<init>", "([C)V"⟩ : MethodName)) rfl hown442 (mvT hZ442 (hw _ (List.mem_of_getElem? (i := 40) rfl))) (mvT hZ442 (hw _ (List.mem_of_getElem? (i := 41) rfl))) (mvT hZ442 (hw _ (List.mem_of_getElem? (i := 42) rfl))) (by decide) (StrChars.Road.backV (W := 1) hZ442 hws (kI := 4) (hw _ (List.mem_of_getElem? (i := 2) rfl)) (cs := (([ch446, ch448, ch450, ch452, ch454] : List Int32).map (nar .char))) (bs := ((([ch446, ch448, ch450, ch452, ch454] : List Int32).map (nar .char))).map (fun c => c.toInt8.toInt32)) (n := 5) ge_b536 Zs587 f594 f592 f593 V587 (own_stakeep S1 K587) hs1 rfl rfl (by decide) (by decide) hps595 rfl (by decide) (by decide)) (g := (mkF m 152 #[.val (.int p1), .val (.int p2), .val (.long q3), .second, .val (.ref a442), .val (.int vl), .val (.int ch446), .val (.int ch448), .val (.int ch450), .val (.int ch452), .val (.int ch454), .val (.int ch456), .val (.int vc6), .unset, .unset] [(.ref b542), (.ref b536), (.ref b536)])) rfl (by rw [hml]; rfl) (Steps.refl _) (a := b536) (argsL := [(.ref b542)]) (rest := [(.ref b536)]) (lenOf pd_5 rfl) rfl (by show 2 * 0 + _ ≤ _; exact Nat.le_of_eq rfl) (hb hby at_152) (fun _ _ => ⟨rfl, e587, (by decide : 4 + 1 ≤ _), (by decide : 37 + 5 ≤ _)⟩)
        dsimp only [Pt.U, Pt.locs, Pt.cells, Pt.slots] at X595 l595 y595 z595 st595 hQ595
        subst l595 y595 z595
        obtain ⟨rfl, N595q, K595q, x595_e, x595_c, t595, kb595, -, zt595, -, x595_v, x595_a⟩ := hQ595
        have N595 := Fr.app N587 N595q
        have sf595_b536 := Safe.keep K595q (sfS sf587_b536 sf0) C587.1 sf587_b536
        have sf595_b542 := Safe.keep K595q (sfS sf587_b536 sf0) C587.1 sf587_b542
        have C595 := C587.trans (CHr.keep K595q (sfS sf587_b536 sf0) C587.1)
        have hku595 := Nat.le_trans hku587 K595q.1
        have ne_a442_t595 : a442 ≠ t595 := Nat.ne_of_lt (Nat.lt_of_lt_of_le f588.lt zt595)
        have ne_b442_t595 : b442 ≠ t595 := Nat.ne_of_lt (Nat.lt_of_lt_of_le f591.lt zt595)
        have ne_b542_t595 : b542 ≠ t595 := Nat.ne_of_lt (Nat.lt_of_lt_of_le V587.lt zt595)
        have f596 := f588.keep K595q
        have f597 := f589.keep K595q (ninS ne_a442_b536 nin0)
        have f598 := f590.keep K595q (ninS ne_a442_b536 nin0)
        have f599 := f591.keep K595q (ninS ne_b442_b536 nin0)
        have f600 := V587.keep K595q (ninS (Ne.symm ne_b536_b542) nin0)
        have K595 := (K587).trans K595q (allS (Or.inr sz_b536) all0)
        have sz_t595 : h0.size ≤ t595 := Nat.le_trans K587.1 zt595
        have Zs595 : n0 ≤ T595.heap.size := Nat.le_trans Zs587 K595q.1
        have k595 : Go p e below (s₁.setTop (entryFrame m #[(.int p1), (.int p2), (.long q3)] maxLocals)) (T595.setTop (mkF m 155 #[.val (.int p1), .val (.int p2), .val (.long q3), .second, .val (.ref a442), .val (.int vl), .val (.int ch446), .val (.int ch448), .val (.int ch450), .val (.int ch452), .val (.int ch454), .val (.int ch456), .val (.int vc6), .unset, .unset] [(.ref b536)])) := fun t kk => k587 t (st595.trans kk)
        have k601 : Go p e below (s₁.setTop (entryFrame m #[(.int p1), (.int p2), (.long q3)] maxLocals)) (T595.setTop (mkF m 263 #[.val (.int p1), .val (.int p2), .val (.long q3), .second, .val (.ref a442), .val (.int vl), .val (.int ch446), .val (.int ch448), .val (.int ch450), .val (.int ch452), .val (.int ch454), .val (.int ch456), .val (.int vc6), .val (.ref b536), .unset] [(.ref b536)])) := fun t kk => k595 t (by
          show Steps p.tables e below (T595.setTop (mkF m 155 #[.val (.int p1), .val (.int p2), .val (.long q3), .second, .val (.ref a442), .val (.int vl), .val (.int ch446), .val (.int ch448), .val (.int ch450), .val (.int ch452), .val (.int ch454), .val (.int ch456), .val (.int vc6), .unset, .unset] [(.ref b536)])) _
          refine XS.astore X595.here hx rfl (hb hby at_155) rfl rfl (l' := #[.val (.int p1), .val (.int p2), .val (.long q3), .second, .val (.ref a442), .val (.int vl), .val (.int ch446), .val (.int ch448), .val (.int ch450), .val (.int ch452), .val (.int ch454), .val (.int ch456), .val (.int vc6), .val (.ref b536), .unset]) rfl ?_
          show Steps p.tables e below (T595.setTop (mkF m 157 #[.val (.int p1), .val (.int p2), .val (.long q3), .second, .val (.ref a442), .val (.int vl), .val (.int ch446), .val (.int ch448), .val (.int ch450), .val (.int ch452), .val (.int ch454), .val (.int ch456), .val (.int vc6), .val (.ref b536), .unset] [])) _
          refine XS.goto X595.here hx rfl (pc0 := 157) (pc' := 261) rfl (hb hby at_157) (by decide) (by decide) ?_
          show Steps p.tables e below (T595.setTop (mkF m 261 #[.val (.int p1), .val (.int p2), .val (.long q3), .second, .val (.ref a442), .val (.int vl), .val (.int ch446), .val (.int ch448), .val (.int ch450), .val (.int ch452), .val (.int ch454), .val (.int ch456), .val (.int vc6), .val (.ref b536), .unset] [])) _
          refine XS.aload X595.here hx rfl (hb hby at_261) rfl rfl ?_
          exact kk)
        have Xb603 : Stand p l e room_1 (s.setVm T442.vm) m #[(.int p1), (.int p2), (.long q3)] below meth c T595 _ _ _ := X595
        obtain ⟨a602, T602, h602, kn602, b602, kc602, X602, e602, E602, hS602, hk602, hZ602, hown602, xe602, xc602, xv602, V602, -, -, Cn602, lit602, nsf602, st602⟩ := ldcCH (s := s) (vm0 := T442.vm) Xb603 hx hZ442 hown442 (hw _ (List.mem_of_getElem? (i := 0) rfl)) wS0 rfl hS442 hku595 (EW.cons (hw _ (List.mem_of_getElem? (i := 60) rfl)) (by decide) (EW.cons (hw _ (List.mem_of_getElem? (i := 0) rfl)) (by decide) (EW.cons (hw _ (List.mem_of_getElem? (i := 50) rfl)) (by decide) EW.nil))) (List.mem_of_getElem? (i := 1) rfl) C595.1 (vs := [(.int (108 : Int32)), (.int (105 : Int32)), (.int (115 : Int32)), (.int (116 : Int32)), (.int (101 : Int32)), (.int (100 : Int32))]) (z := 6) ⟨by decide, by decide⟩ (by decide) rfl (g := (mkF m 263 #[.val (.int p1), .val (.int p2), .val (.long q3), .second, .val (.ref a442), .val (.int vl), .val (.int ch446), .val (.int ch448), .val (.int ch450), .val (.int ch452), .val (.int ch454), .val (.int ch456), .val (.int vc6), .val (.ref b536), .unset] [(.ref b536)])) rfl (hb hby at_263) (n := 24) (by decide) (by decide) (by decide) (by decide)
        have sf602_b536 := CHr.safe Cn602 x595_e.lt sf595_b536
        have sf602_b542 := CHr.safe Cn602 f600.lt sf595_b542
        have C602 := C595.trans Cn602
        have f604 := f596.ext E602
        have f605 := f597.ext E602
        have f606 := f598.ext E602
        have f607 := f599.ext E602
        have f608 := f600.ext E602
        have f609 := x595_e.ext E602
        have f610 := x595_c.ext E602
        have f611 := x595_v.ext E602
        have f612 := x595_a.ext E602
        have K602 := (K595).ext E602
        have Zs602 : n0 ≤ h602.size := Nat.le_trans Zs595 E602.1
        have k602 : Go p e below (s₁.setTop (entryFrame m #[(.int p1), (.int p2), (.long q3)] maxLocals)) (T602.setTop (mkF m 265 #[.val (.int p1), .val (.int p2), .val (.long q3), .second, .val (.ref a442), .val (.int vl), .val (.int ch446), .val (.int ch448), .val (.int ch450), .val (.int ch452), .val (.int ch454), .val (.int ch456), .val (.int vc6), .val (.ref b536), .unset] [(.ref a602), (.ref b536)])) := fun t kk => k601 t (st602 t kk)
        obtain ⟨cq613, kq613, q613a, q613b, q613c⟩ := isOf hZ602 e602 f609
        obtain ⟨_, _, ⟨T613, L613, kx613, nx613⟩, -, X613, ⟨Lc613, hQ613, l613, y613, z613⟩, st613⟩ := X602.virtualBack hx (y := (⟨"java/lang/String", "equals", "(Ljava/lang/Object;)Z"⟩ : MethodName)) (z := (⟨"java/lang/String", "equals", "(Ljava/lang/Object;)Z"⟩ : MethodName)) hown602 (mvT hZ602 (hw _ (List.mem_of_getElem? (i := 51) rfl))) (mvT hZ602 (hw _ (List.mem_of_getElem? (i := 52) rfl))) (notFace_of_selects (args := #[]) (mvT hZ602 (hw _ (List.mem_of_getElem? (i := 54) rfl)))) (mvT hZ602 (hw _ (List.mem_of_getElem? (i := 54) rfl))) (mvT hZ602 (hw _ (List.mem_of_getElem? (i := 53) rfl))) (by decide) (StrChars.Road.eqW (W := 0) hZ602 heq (kI := 4) (hw _ (List.mem_of_getElem? (i := 2) rfl)) f609 f611 f610 f612 hcs595 (own_up _ hps595) (Nat.le_of_ble_eq_true rfl) xe602 xv602 xc602 V602 own_Lc (own_up _ own_Lb) (Nat.le_of_ble_eq_true rfl) (own_stakeep S1 K602) hs1 (by decide) (by decide)) q613a q613c (g := (mkF m 265 #[.val (.int p1), .val (.int p2), .val (.long q3), .second, .val (.ref a442), .val (.int vl), .val (.int ch446), .val (.int ch448), .val (.int ch450), .val (.int ch452), .val (.int ch454), .val (.int ch456), .val (.int vc6), .val (.ref b536), .unset] [(.ref a602), (.ref b536)])) rfl (by rw [hml]; rfl) (Steps.refl _) (argsL := [(.ref a602)]) (rest := []) (lenOf pd_3 rfl) rfl (by show 2 * 0 + _ ≤ _; exact Nat.le_of_eq rfl) (hb hby at_265) (fun _ _ => ⟨rfl, e602, (by decide : 7 + 0 ≤ _), (by decide : 70 + 0 ≤ _)⟩)
        dsimp only [Pt.U, Pt.locs, Pt.cells, Pt.slots] at X613 l613 y613 z613 st613 hQ613
        subst l613 y613 z613
        obtain ⟨hcase613, rfl, e613⟩ := hQ613
        try rw [List.append_nil] at X613
        obtain ⟨vq613, rfl, hvq613⟩ := own_case hcase613
        have k613 : Go p e below (s₁.setTop (entryFrame m #[(.int p1), (.int p2), (.long q3)] maxLocals)) (T613.setTop (mkF m 268 #[.val (.int p1), .val (.int p2), .val (.long q3), .second, .val (.ref a442), .val (.int vl), .val (.int ch446), .val (.int ch448), .val (.int ch450), .val (.int ch452), .val (.int ch454), .val (.int ch456), .val (.int vc6), .val (.ref b536), .unset] [(.int vq613)])) := fun t kk => k602 t (st613.trans kk)
        by_cases hc268_614 : vq613 = (0 : Int32)
        · have k615 : Go p e below (s₁.setTop (entryFrame m #[(.int p1), (.int p2), (.long q3)] maxLocals)) (T613.setTop (mkF m 281 #[.val (.int p1), .val (.int p2), .val (.long q3), .second, .val (.ref a442), .val (.int vl), .val (.int ch446), .val (.int ch448), .val (.int ch450), .val (.int ch452), .val (.int ch454), .val (.int ch456), .val (.int vc6), .val (.ref b536), .unset] [(.ref b536)])) := fun t kk => k613 t (by
            show Steps p.tables e below (T613.setTop (mkF m 268 #[.val (.int p1), .val (.int p2), .val (.long q3), .second, .val (.ref a442), .val (.int vl), .val (.int ch446), .val (.int ch448), .val (.int ch450), .val (.int ch452), .val (.int ch454), .val (.int ch456), .val (.int vc6), .val (.ref b536), .unset] [(.int vq613)])) _
            refine XS.ifYes X613.here hx rfl (pc0 := 268) (pc' := 279) rfl (hb hby at_268) rfl ((if0 _ _).trans (teq hc268_614).1) (by decide) (by decide) ?_
            show Steps p.tables e below (T613.setTop (mkF m 279 #[.val (.int p1), .val (.int p2), .val (.long q3), .second, .val (.ref a442), .val (.int vl), .val (.int ch446), .val (.int ch448), .val (.int ch450), .val (.int ch452), .val (.int ch454), .val (.int ch456), .val (.int vc6), .val (.ref b536), .unset] [])) _
            refine XS.aload X613.here hx rfl (hb hby at_279) rfl rfl ?_
            exact kk)
          have Xb617 : Stand p l e room_1 (s.setVm T602.vm) m #[(.int p1), (.int p2), (.long q3)] below meth c T613 _ _ _ := X613
          obtain ⟨a616, T616, h616, kn616, b616, kc616, X616, e616, E616, hS616, hk616, hZ616, hown616, xe616, xc616, xv616, V616, -, -, Cn616, lit616, nsf616, st616⟩ := ldcCH (s := s) (vm0 := T602.vm) Xb617 hx hZ602 hown602 (hw _ (List.mem_of_getElem? (i := 60) rfl)) wS0 e613 hS602 hk602 (EW.cons (hw _ (List.mem_of_getElem? (i := 60) rfl)) (by decide) (EW.cons (hw _ (List.mem_of_getElem? (i := 0) rfl)) (by decide) (EW.cons (hw _ (List.mem_of_getElem? (i := 50) rfl)) (by decide) EW.nil))) (List.mem_of_getElem? (i := 0) rfl) C602.1 (vs := [(.int (115 : Int32)), (.int (101 : Int32)), (.int (101 : Int32)), (.int (100 : Int32)), (.int (101 : Int32)), (.int (100 : Int32))]) (z := 6) ⟨by decide, by decide⟩ (by decide) rfl (g := (mkF m 281 #[.val (.int p1), .val (.int p2), .val (.long q3), .second, .val (.ref a442), .val (.int vl), .val (.int ch446), .val (.int ch448), .val (.int ch450), .val (.int ch452), .val (.int ch454), .val (.int ch456), .val (.int vc6), .val (.ref b536), .unset] [(.ref b536)])) rfl (hb hby at_281) (n := 24) (by decide) (by decide) (by decide) (by decide)
          have sf616_b536 := CHr.safe Cn616 f609.lt sf602_b536
          have sf616_b542 := CHr.safe Cn616 f608.lt sf602_b542
          have C616 := C602.trans Cn616
          have f618 := f604.ext E616
          have f619 := f605.ext E616
          have f620 := f606.ext E616
          have f621 := f607.ext E616
          have f622 := f608.ext E616
          have f623 := f609.ext E616
          have f624 := f610.ext E616
          have f625 := f611.ext E616
          have f626 := f612.ext E616
          have f627 := xe602.ext E616
          have f628 := xc602.ext E616
          have f629 := xv602.ext E616
          have f630 := V602.ext E616
          have K616 := (K602).ext E616
          have Zs616 : n0 ≤ h616.size := Nat.le_trans Zs602 E616.1
          have k616 : Go p e below (s₁.setTop (entryFrame m #[(.int p1), (.int p2), (.long q3)] maxLocals)) (T616.setTop (mkF m 283 #[.val (.int p1), .val (.int p2), .val (.long q3), .second, .val (.ref a442), .val (.int vl), .val (.int ch446), .val (.int ch448), .val (.int ch450), .val (.int ch452), .val (.int ch454), .val (.int ch456), .val (.int vc6), .val (.ref b536), .unset] [(.ref a616), (.ref b536)])) := fun t kk => k615 t (st616 t kk)
          obtain ⟨cq631, kq631, q631a, q631b, q631c⟩ := isOf hZ616 e616 f623
          obtain ⟨_, _, ⟨T631, L631, kx631, nx631⟩, -, X631, ⟨Lc631, hQ631, l631, y631, z631⟩, st631⟩ := X616.virtualBack hx (y := (⟨"java/lang/String", "equals", "(Ljava/lang/Object;)Z"⟩ : MethodName)) (z := (⟨"java/lang/String", "equals", "(Ljava/lang/Object;)Z"⟩ : MethodName)) hown616 (mvT hZ616 (hw _ (List.mem_of_getElem? (i := 51) rfl))) (mvT hZ616 (hw _ (List.mem_of_getElem? (i := 52) rfl))) (notFace_of_selects (args := #[]) (mvT hZ616 (hw _ (List.mem_of_getElem? (i := 54) rfl)))) (mvT hZ616 (hw _ (List.mem_of_getElem? (i := 54) rfl))) (mvT hZ616 (hw _ (List.mem_of_getElem? (i := 53) rfl))) (by decide) (StrChars.Road.eqW (W := 0) hZ616 heq (kI := 4) (hw _ (List.mem_of_getElem? (i := 2) rfl)) f623 f625 f624 f626 hcs595 (own_up _ hps595) (Nat.le_of_ble_eq_true rfl) xe616 xv616 xc616 V616 own_Sc (own_up _ own_Sb) (Nat.le_of_ble_eq_true rfl) (own_stakeep S1 K616) hs1 (by decide) (by decide)) q631a q631c (g := (mkF m 283 #[.val (.int p1), .val (.int p2), .val (.long q3), .second, .val (.ref a442), .val (.int vl), .val (.int ch446), .val (.int ch448), .val (.int ch450), .val (.int ch452), .val (.int ch454), .val (.int ch456), .val (.int vc6), .val (.ref b536), .unset] [(.ref a616), (.ref b536)])) rfl (by rw [hml]; rfl) (Steps.refl _) (argsL := [(.ref a616)]) (rest := []) (lenOf pd_3 rfl) rfl (by show 2 * 0 + _ ≤ _; exact Nat.le_of_eq rfl) (hb hby at_283) (fun _ _ => ⟨rfl, e616, (by decide : 9 + 0 ≤ _), (by decide : 98 + 0 ≤ _)⟩)
          dsimp only [Pt.U, Pt.locs, Pt.cells, Pt.slots] at X631 l631 y631 z631 st631 hQ631
          subst l631 y631 z631
          obtain ⟨hcase631, rfl, e631⟩ := hQ631
          try rw [List.append_nil] at X631
          obtain ⟨vq631, rfl, hvq631⟩ := own_case hcase631
          have k631 : Go p e below (s₁.setTop (entryFrame m #[(.int p1), (.int p2), (.long q3)] maxLocals)) (T631.setTop (mkF m 286 #[.val (.int p1), .val (.int p2), .val (.long q3), .second, .val (.ref a442), .val (.int vl), .val (.int ch446), .val (.int ch448), .val (.int ch450), .val (.int ch452), .val (.int ch454), .val (.int ch456), .val (.int vc6), .val (.ref b536), .unset] [(.int vq631)])) := fun t kk => k616 t (st631.trans kk)
          by_cases hc286_632 : vq631 = (0 : Int32)
          · have k633 : Go p e below (s₁.setTop (entryFrame m #[(.int p1), (.int p2), (.long q3)] maxLocals)) (T631.setTop (mkF m 302 #[.val (.int p1), .val (.int p2), .val (.long q3), .second, .val (.ref a442), .val (.int vl), .val (.int ch446), .val (.int ch448), .val (.int ch450), .val (.int ch452), .val (.int ch454), .val (.int ch456), .val (.int vc6), .val (.ref b536), .val .null] [(.ref b536)])) := fun t kk => k631 t (by
              show Steps p.tables e below (T631.setTop (mkF m 286 #[.val (.int p1), .val (.int p2), .val (.long q3), .second, .val (.ref a442), .val (.int vl), .val (.int ch446), .val (.int ch448), .val (.int ch450), .val (.int ch452), .val (.int ch454), .val (.int ch456), .val (.int vc6), .val (.ref b536), .unset] [(.int vq631)])) _
              refine XS.ifYes X631.here hx rfl (pc0 := 286) (pc' := 297) rfl (hb hby at_286) rfl ((if0 _ _).trans (teq hc286_632).1) (by decide) (by decide) ?_
              show Steps p.tables e below (T631.setTop (mkF m 297 #[.val (.int p1), .val (.int p2), .val (.long q3), .second, .val (.ref a442), .val (.int vl), .val (.int ch446), .val (.int ch448), .val (.int ch450), .val (.int ch452), .val (.int ch454), .val (.int ch456), .val (.int vc6), .val (.ref b536), .unset] [])) _
              refine XS.aconstNull X631.here hx rfl (hb hby at_297) ?_
              show Steps p.tables e below (T631.setTop (mkF m 298 #[.val (.int p1), .val (.int p2), .val (.long q3), .second, .val (.ref a442), .val (.int vl), .val (.int ch446), .val (.int ch448), .val (.int ch450), .val (.int ch452), .val (.int ch454), .val (.int ch456), .val (.int vc6), .val (.ref b536), .unset] [.null])) _
              refine XS.astore X631.here hx rfl (hb hby at_298) rfl rfl (l' := #[.val (.int p1), .val (.int p2), .val (.long q3), .second, .val (.ref a442), .val (.int vl), .val (.int ch446), .val (.int ch448), .val (.int ch450), .val (.int ch452), .val (.int ch454), .val (.int ch456), .val (.int vc6), .val (.ref b536), .val .null]) rfl ?_
              show Steps p.tables e below (T631.setTop (mkF m 300 #[.val (.int p1), .val (.int p2), .val (.long q3), .second, .val (.ref a442), .val (.int vl), .val (.int ch446), .val (.int ch448), .val (.int ch450), .val (.int ch452), .val (.int ch454), .val (.int ch456), .val (.int vc6), .val (.ref b536), .val .null] [])) _
              refine XS.aload X631.here hx rfl (hb hby at_300) rfl rfl ?_
              exact kk)
            obtain ⟨_, _, ⟨T634, L634, kx634, nx634⟩, -, X634, ⟨Lc634, hQ634, l634, y634, z634⟩, st634⟩ := Jvm.LawKit.callS X631 hx (y := (⟨"com/example/tabularium/tabularium/record/Deal", "named", "(Ljava/lang/String;)Lcom/example/tabularium/tabularium/record/Deal;"⟩ : MethodName)) hown616 (mvT hZ616 (hw _ (List.mem_of_getElem? (i := 61) rfl))) (mvT hZ616 (hw _ (List.mem_of_getElem? (i := 62) rfl))) (mvT hZ616 (hw _ (List.mem_of_getElem? (i := 63) rfl))) (mvT hZ616 (hw _ (List.mem_of_getElem? (i := 64) rfl))) (by decide) (backOf (W := 0) (rmD l Z a0 hw [] b536 a__VALUES kV a_LISTED a_SEEDED s_LISTED t_LISTED kL s_SEEDED t_SEEDED kS (([ch446, ch448, ch450, ch452, ch454] : List Int32).map (nar .char)) t595 kb595 (5 : Int32) _ cs h616 n0 Zs616 (own_stakeep SV K616) (PAV.keep K616 nin0) (PEV.keep K616) (f_LISTED.keep K616 nin0) (es_LISTED.keep K616) (cs_LISTED.keep K616 nin0) (vs_LISTED.keep K616 nin0) (as_LISTED.keep K616 nin0) (f_SEEDED.keep K616 nin0) (es_SEEDED.keep K616) (cs_SEEDED.keep K616 nin0) (vs_SEEDED.keep K616 nin0) (as_SEEDED.keep K616 nin0) f623 f625 f624 f626 hcs595 (own_up _ hps595) (Nat.le_of_ble_eq_true rfl) (own_stakeep S1 K616) hs1) hZ616 (hw _ (List.mem_of_getElem? (i := 64) rfl)) (hw _ (List.mem_of_getElem? (i := 63) rfl)) (by decide) (by decide)) (g := (mkF m 302 #[.val (.int p1), .val (.int p2), .val (.long q3), .second, .val (.ref a442), .val (.int vl), .val (.int ch446), .val (.int ch448), .val (.int ch450), .val (.int ch452), .val (.int ch454), .val (.int ch456), .val (.int vc6), .val (.ref b536), .val .null] [(.ref b536)])) rfl (by rw [hml]; rfl) (argsL := [(.ref b536)]) (rest := []) (lenOf pd_6 rfl) rfl (by show 2 * 0 + _ ≤ _; exact Nat.le_of_eq rfl) (hb hby at_302) (fun _ _ => ⟨rfl, e631, (by decide : 9 + 1 ≤ _), (by decide : 98 + 2 ≤ _)⟩)
            dsimp only [Pt.U, Pt.locs, Pt.cells, Pt.slots] at X634 l634 y634 z634 st634 hQ634
            subst l634 y634 z634
            obtain ⟨hv634, N634q, K634q⟩ := hQ634
            rw [show own_named (([ch446, ch448, ch450, ch452, ch454] : List Int32).map (nar .char)) a_LISTED a_SEEDED = .null from (by unfold own_named; rw [if_neg (fun q => own_no hvq613 hc268_614 q.symm), if_neg (fun q => own_no hvq631 hc286_632 q.symm)])] at hv634
            subst hv634
            have N634 := Fr.app N595 N634q
            have hku634 := Nat.le_trans hk616 K634q.1
            have K634 := (K616).trans K634q all0
            have Zs634 : n0 ≤ T634.heap.size := Nat.le_trans Zs616 K634q.1
            have k634 : Go p e below (s₁.setTop (entryFrame m #[(.int p1), (.int p2), (.long q3)] maxLocals)) (T634.setTop (mkF m 305 #[.val (.int p1), .val (.int p2), .val (.long q3), .second, .val (.ref a442), .val (.int vl), .val (.int ch446), .val (.int ch448), .val (.int ch450), .val (.int ch452), .val (.int ch454), .val (.int ch456), .val (.int vc6), .val (.ref b536), .val .null] [.null])) := fun t kk => k633 t (st634 t kk)
            have k635 : Go p e below (s₁.setTop (entryFrame m #[(.int p1), (.int p2), (.long q3)] maxLocals)) (T634.setTop (mkF m 315 #[.val (.int p1), .val (.int p2), .val (.long q3), .second, .val (.ref a442), .val (.int vl), .val (.int ch446), .val (.int ch448), .val (.int ch450), .val (.int ch452), .val (.int ch454), .val (.int ch456), .val (.int vc6), .val (.ref b536), .val .null] [(.int (1 : Int32))])) := fun t kk => k634 t (by
              show Steps p.tables e below (T634.setTop (mkF m 305 #[.val (.int p1), .val (.int p2), .val (.long q3), .second, .val (.ref a442), .val (.int vl), .val (.int ch446), .val (.int ch448), .val (.int ch450), .val (.int ch452), .val (.int ch454), .val (.int ch456), .val (.int vc6), .val (.ref b536), .val .null] [.null])) _
              refine XS.aload X634.here hx rfl (hb hby at_305) rfl rfl ?_
              show Steps p.tables e below (T634.setTop (mkF m 307 #[.val (.int p1), .val (.int p2), .val (.long q3), .second, .val (.ref a442), .val (.int vl), .val (.int ch446), .val (.int ch448), .val (.int ch450), .val (.int ch452), .val (.int ch454), .val (.int ch456), .val (.int vc6), .val (.ref b536), .val .null] [.null, .null])) _
              refine Jvm.RoadKit.acmp (g := (mkF m 307 #[.val (.int p1), .val (.int p2), .val (.long q3), .second, .val (.ref a442), .val (.int vl), .val (.int ch446), .val (.int ch448), .val (.int ch450), .val (.int ch452), .val (.int ch454), .val (.int ch456), .val (.int vc6), .val (.ref b536), .val .null] [.null, .null])) X634 hx rfl rfl rfl (pc0 := 307) (pc' := 310) (same := true) rfl (hb hby at_307) rfl (decide_eq_true (rfl : Value.null = Value.null)) (by decide) (by decide) ?_
              show Steps p.tables e below (T634.setTop (mkF m 310 #[.val (.int p1), .val (.int p2), .val (.long q3), .second, .val (.ref a442), .val (.int vl), .val (.int ch446), .val (.int ch448), .val (.int ch450), .val (.int ch452), .val (.int ch454), .val (.int ch456), .val (.int vc6), .val (.ref b536), .val .null] [])) _
              refine XS.iconst X634.here hx rfl (hb hby at_310) ?_
              show Steps p.tables e below (T634.setTop (mkF m 311 #[.val (.int p1), .val (.int p2), .val (.long q3), .second, .val (.ref a442), .val (.int vl), .val (.int ch446), .val (.int ch448), .val (.int ch450), .val (.int ch452), .val (.int ch454), .val (.int ch456), .val (.int vc6), .val (.ref b536), .val .null] [(.int (1 : Int32))])) _
              refine XS.goto X634.here hx rfl (pc0 := 311) (pc' := 315) rfl (hb hby at_311) (by decide) (by decide) ?_
              exact kk)
            have Xb637 : Stand p l e room_1 (s.setVm T616.vm) m #[(.int p1), (.int p2), (.long q3)] below meth c T634 _ _ _ := X634
            obtain ⟨fs, hr, hrun, hended, hW⟩ := leaveW Xb637 hS616 hku634 (v := some (.int (1 : Int32))) (fun h => by rw [Bd.returns] at h; cases h)
            refine ⟨_, _, k635 _ ?_, hrun, hended, _, _, rfl, ?_, hW.1, hW.2.1, hW.2.2.1, hW.2.2.2.mono (by decide) (by decide)⟩
            · show Steps p.tables e below (T634.setTop (mkF m 315 #[.val (.int p1), .val (.int p2), .val (.long q3), .second, .val (.ref a442), .val (.int vl), .val (.int ch446), .val (.int ch448), .val (.int ch450), .val (.int ch452), .val (.int ch454), .val (.int ch456), .val (.int vc6), .val (.ref b536), .val .null] [(.int (1 : Int32))])) _
              exact retN X634 hx (t := .boolean) Bd.returns (by simp) (hb hby at_315) hr
            · show Q0 Z p1 p2 q3 a__VALUES kV a_LISTED a_SEEDED s_LISTED t_LISTED kL s_SEEDED t_SEEDED kS cs fm h0 n0 _ T634.heap _
              exact ⟨rfl, N634⟩
          · have k638 : Go p e below (s₁.setTop (entryFrame m #[(.int p1), (.int p2), (.long q3)] maxLocals)) (T631.setTop (mkF m 289 #[.val (.int p1), .val (.int p2), .val (.long q3), .second, .val (.ref a442), .val (.int vl), .val (.int ch446), .val (.int ch448), .val (.int ch450), .val (.int ch452), .val (.int ch454), .val (.int ch456), .val (.int vc6), .val (.ref b536), .unset] [])) := fun t kk => k631 t (by
              show Steps p.tables e below (T631.setTop (mkF m 286 #[.val (.int p1), .val (.int p2), .val (.long q3), .second, .val (.ref a442), .val (.int vl), .val (.int ch446), .val (.int ch448), .val (.int ch450), .val (.int ch452), .val (.int ch454), .val (.int ch456), .val (.int vc6), .val (.ref b536), .unset] [(.int vq631)])) _
              refine XS.ifNo X631.here hx rfl (hb hby at_286) rfl ((if0 _ _).trans (feq hc286_632).1) ?_
              exact kk)
            obtain ⟨T639, X639, e639, st639⟩ := getS2 X631 hx hZ616 hown616 (host := "") (Or.inl (hw _ (List.mem_of_getElem? (i := 96) rfl))) Via.refl e631 (own_stakeep S_SEEDED K616) (g := (mkF m 289 #[.val (.int p1), .val (.int p2), .val (.long q3), .second, .val (.ref a442), .val (.int vl), .val (.int ch446), .val (.int ch448), .val (.int ch450), .val (.int ch452), .val (.int ch454), .val (.int ch456), .val (.int vc6), .val (.ref b536), .unset] [])) rfl (hb hby at_289)
            have k639 : Go p e below (s₁.setTop (entryFrame m #[(.int p1), (.int p2), (.long q3)] maxLocals)) (T639.setTop (mkF m 292 #[.val (.int p1), .val (.int p2), .val (.long q3), .second, .val (.ref a442), .val (.int vl), .val (.int ch446), .val (.int ch448), .val (.int ch450), .val (.int ch452), .val (.int ch454), .val (.int ch456), .val (.int vc6), .val (.ref b536), .unset] [(.ref a_SEEDED)])) := fun t kk => k638 t (st639 t kk)
            have k640 : Go p e below (s₁.setTop (entryFrame m #[(.int p1), (.int p2), (.long q3)] maxLocals)) (T639.setTop (mkF m 302 #[.val (.int p1), .val (.int p2), .val (.long q3), .second, .val (.ref a442), .val (.int vl), .val (.int ch446), .val (.int ch448), .val (.int ch450), .val (.int ch452), .val (.int ch454), .val (.int ch456), .val (.int vc6), .val (.ref b536), .val (.ref a_SEEDED)] [(.ref b536)])) := fun t kk => k639 t (by
              show Steps p.tables e below (T639.setTop (mkF m 292 #[.val (.int p1), .val (.int p2), .val (.long q3), .second, .val (.ref a442), .val (.int vl), .val (.int ch446), .val (.int ch448), .val (.int ch450), .val (.int ch452), .val (.int ch454), .val (.int ch456), .val (.int vc6), .val (.ref b536), .unset] [(.ref a_SEEDED)])) _
              refine XS.astore X639.here hx rfl (hb hby at_292) rfl rfl (l' := #[.val (.int p1), .val (.int p2), .val (.long q3), .second, .val (.ref a442), .val (.int vl), .val (.int ch446), .val (.int ch448), .val (.int ch450), .val (.int ch452), .val (.int ch454), .val (.int ch456), .val (.int vc6), .val (.ref b536), .val (.ref a_SEEDED)]) rfl ?_
              show Steps p.tables e below (T639.setTop (mkF m 294 #[.val (.int p1), .val (.int p2), .val (.long q3), .second, .val (.ref a442), .val (.int vl), .val (.int ch446), .val (.int ch448), .val (.int ch450), .val (.int ch452), .val (.int ch454), .val (.int ch456), .val (.int vc6), .val (.ref b536), .val (.ref a_SEEDED)] [])) _
              refine XS.goto X639.here hx rfl (pc0 := 294) (pc' := 300) rfl (hb hby at_294) (by decide) (by decide) ?_
              show Steps p.tables e below (T639.setTop (mkF m 300 #[.val (.int p1), .val (.int p2), .val (.long q3), .second, .val (.ref a442), .val (.int vl), .val (.int ch446), .val (.int ch448), .val (.int ch450), .val (.int ch452), .val (.int ch454), .val (.int ch456), .val (.int vc6), .val (.ref b536), .val (.ref a_SEEDED)] [])) _
              refine XS.aload X639.here hx rfl (hb hby at_300) rfl rfl ?_
              exact kk)
            obtain ⟨_, _, ⟨T641, L641, kx641, nx641⟩, -, X641, ⟨Lc641, hQ641, l641, y641, z641⟩, st641⟩ := Jvm.LawKit.callS X639 hx (y := (⟨"com/example/tabularium/tabularium/record/Deal", "named", "(Ljava/lang/String;)Lcom/example/tabularium/tabularium/record/Deal;"⟩ : MethodName)) hown616 (mvT hZ616 (hw _ (List.mem_of_getElem? (i := 61) rfl))) (mvT hZ616 (hw _ (List.mem_of_getElem? (i := 62) rfl))) (mvT hZ616 (hw _ (List.mem_of_getElem? (i := 63) rfl))) (mvT hZ616 (hw _ (List.mem_of_getElem? (i := 64) rfl))) (by decide) (backOf (W := 0) (rmD l Z a0 hw [] b536 a__VALUES kV a_LISTED a_SEEDED s_LISTED t_LISTED kL s_SEEDED t_SEEDED kS (([ch446, ch448, ch450, ch452, ch454] : List Int32).map (nar .char)) t595 kb595 (5 : Int32) _ cs h616 n0 Zs616 (own_stakeep SV K616) (PAV.keep K616 nin0) (PEV.keep K616) (f_LISTED.keep K616 nin0) (es_LISTED.keep K616) (cs_LISTED.keep K616 nin0) (vs_LISTED.keep K616 nin0) (as_LISTED.keep K616 nin0) (f_SEEDED.keep K616 nin0) (es_SEEDED.keep K616) (cs_SEEDED.keep K616 nin0) (vs_SEEDED.keep K616 nin0) (as_SEEDED.keep K616 nin0) f623 f625 f624 f626 hcs595 (own_up _ hps595) (Nat.le_of_ble_eq_true rfl) (own_stakeep S1 K616) hs1) hZ616 (hw _ (List.mem_of_getElem? (i := 64) rfl)) (hw _ (List.mem_of_getElem? (i := 63) rfl)) (by decide) (by decide)) (g := (mkF m 302 #[.val (.int p1), .val (.int p2), .val (.long q3), .second, .val (.ref a442), .val (.int vl), .val (.int ch446), .val (.int ch448), .val (.int ch450), .val (.int ch452), .val (.int ch454), .val (.int ch456), .val (.int vc6), .val (.ref b536), .val (.ref a_SEEDED)] [(.ref b536)])) rfl (by rw [hml]; rfl) (argsL := [(.ref b536)]) (rest := []) (lenOf pd_6 rfl) rfl (by show 2 * 0 + _ ≤ _; exact Nat.le_of_eq rfl) (hb hby at_302) (fun _ _ => ⟨rfl, e639, (by decide : 9 + 1 ≤ _), (by decide : 98 + 2 ≤ _)⟩)
            dsimp only [Pt.U, Pt.locs, Pt.cells, Pt.slots] at X641 l641 y641 z641 st641 hQ641
            subst l641 y641 z641
            obtain ⟨hv641, N641q, K641q⟩ := hQ641
            rw [show own_named (([ch446, ch448, ch450, ch452, ch454] : List Int32).map (nar .char)) a_LISTED a_SEEDED = .ref a_SEEDED from (by unfold own_named; rw [if_neg (fun q => own_no hvq613 hc268_614 q.symm), if_pos (own_yes hvq631 hc286_632).symm])] at hv641
            subst hv641
            have N641 := Fr.app N595 N641q
            have hku641 := Nat.le_trans hk616 K641q.1
            have K641 := (K616).trans K641q all0
            have Zs641 : n0 ≤ T641.heap.size := Nat.le_trans Zs616 K641q.1
            have k641 : Go p e below (s₁.setTop (entryFrame m #[(.int p1), (.int p2), (.long q3)] maxLocals)) (T641.setTop (mkF m 305 #[.val (.int p1), .val (.int p2), .val (.long q3), .second, .val (.ref a442), .val (.int vl), .val (.int ch446), .val (.int ch448), .val (.int ch450), .val (.int ch452), .val (.int ch454), .val (.int ch456), .val (.int vc6), .val (.ref b536), .val (.ref a_SEEDED)] [(.ref a_SEEDED)])) := fun t kk => k640 t (st641 t kk)
            have k642 : Go p e below (s₁.setTop (entryFrame m #[(.int p1), (.int p2), (.long q3)] maxLocals)) (T641.setTop (mkF m 315 #[.val (.int p1), .val (.int p2), .val (.long q3), .second, .val (.ref a442), .val (.int vl), .val (.int ch446), .val (.int ch448), .val (.int ch450), .val (.int ch452), .val (.int ch454), .val (.int ch456), .val (.int vc6), .val (.ref b536), .val (.ref a_SEEDED)] [(.int (1 : Int32))])) := fun t kk => k641 t (by
              show Steps p.tables e below (T641.setTop (mkF m 305 #[.val (.int p1), .val (.int p2), .val (.long q3), .second, .val (.ref a442), .val (.int vl), .val (.int ch446), .val (.int ch448), .val (.int ch450), .val (.int ch452), .val (.int ch454), .val (.int ch456), .val (.int vc6), .val (.ref b536), .val (.ref a_SEEDED)] [(.ref a_SEEDED)])) _
              refine XS.aload X641.here hx rfl (hb hby at_305) rfl rfl ?_
              show Steps p.tables e below (T641.setTop (mkF m 307 #[.val (.int p1), .val (.int p2), .val (.long q3), .second, .val (.ref a442), .val (.int vl), .val (.int ch446), .val (.int ch448), .val (.int ch450), .val (.int ch452), .val (.int ch454), .val (.int ch456), .val (.int vc6), .val (.ref b536), .val (.ref a_SEEDED)] [(.ref a_SEEDED), (.ref a_SEEDED)])) _
              refine Jvm.RoadKit.acmp (g := (mkF m 307 #[.val (.int p1), .val (.int p2), .val (.long q3), .second, .val (.ref a442), .val (.int vl), .val (.int ch446), .val (.int ch448), .val (.int ch450), .val (.int ch452), .val (.int ch454), .val (.int ch456), .val (.int vc6), .val (.ref b536), .val (.ref a_SEEDED)] [(.ref a_SEEDED), (.ref a_SEEDED)])) X641 hx rfl rfl rfl (pc0 := 307) (pc' := 310) (same := true) rfl (hb hby at_307) rfl (decide_eq_true (rfl : (Value.ref a_SEEDED) = (Value.ref a_SEEDED))) (by decide) (by decide) ?_
              show Steps p.tables e below (T641.setTop (mkF m 310 #[.val (.int p1), .val (.int p2), .val (.long q3), .second, .val (.ref a442), .val (.int vl), .val (.int ch446), .val (.int ch448), .val (.int ch450), .val (.int ch452), .val (.int ch454), .val (.int ch456), .val (.int vc6), .val (.ref b536), .val (.ref a_SEEDED)] [])) _
              refine XS.iconst X641.here hx rfl (hb hby at_310) ?_
              show Steps p.tables e below (T641.setTop (mkF m 311 #[.val (.int p1), .val (.int p2), .val (.long q3), .second, .val (.ref a442), .val (.int vl), .val (.int ch446), .val (.int ch448), .val (.int ch450), .val (.int ch452), .val (.int ch454), .val (.int ch456), .val (.int vc6), .val (.ref b536), .val (.ref a_SEEDED)] [(.int (1 : Int32))])) _
              refine XS.goto X641.here hx rfl (pc0 := 311) (pc' := 315) rfl (hb hby at_311) (by decide) (by decide) ?_
              exact kk)
            have Xb644 : Stand p l e room_1 (s.setVm T616.vm) m #[(.int p1), (.int p2), (.long q3)] below meth c T641 _ _ _ := X641
            obtain ⟨fs, hr, hrun, hended, hW⟩ := leaveW Xb644 hS616 hku641 (v := some (.int (1 : Int32))) (fun h => by rw [Bd.returns] at h; cases h)
            refine ⟨_, _, k642 _ ?_, hrun, hended, _, _, rfl, ?_, hW.1, hW.2.1, hW.2.2.1, hW.2.2.2.mono (by decide) (by decide)⟩
            · show Steps p.tables e below (T641.setTop (mkF m 315 #[.val (.int p1), .val (.int p2), .val (.long q3), .second, .val (.ref a442), .val (.int vl), .val (.int ch446), .val (.int ch448), .val (.int ch450), .val (.int ch452), .val (.int ch454), .val (.int ch456), .val (.int vc6), .val (.ref b536), .val (.ref a_SEEDED)] [(.int (1 : Int32))])) _
              exact retN X641 hx (t := .boolean) Bd.returns (by simp) (hb hby at_315) hr
            · show Q0 Z p1 p2 q3 a__VALUES kV a_LISTED a_SEEDED s_LISTED t_LISTED kL s_SEEDED t_SEEDED kS cs fm h0 n0 _ T641.heap _
              exact ⟨rfl, N641⟩
        · have k645 : Go p e below (s₁.setTop (entryFrame m #[(.int p1), (.int p2), (.long q3)] maxLocals)) (T613.setTop (mkF m 271 #[.val (.int p1), .val (.int p2), .val (.long q3), .second, .val (.ref a442), .val (.int vl), .val (.int ch446), .val (.int ch448), .val (.int ch450), .val (.int ch452), .val (.int ch454), .val (.int ch456), .val (.int vc6), .val (.ref b536), .unset] [])) := fun t kk => k613 t (by
            show Steps p.tables e below (T613.setTop (mkF m 268 #[.val (.int p1), .val (.int p2), .val (.long q3), .second, .val (.ref a442), .val (.int vl), .val (.int ch446), .val (.int ch448), .val (.int ch450), .val (.int ch452), .val (.int ch454), .val (.int ch456), .val (.int vc6), .val (.ref b536), .unset] [(.int vq613)])) _
            refine XS.ifNo X613.here hx rfl (hb hby at_268) rfl ((if0 _ _).trans (feq hc268_614).1) ?_
            exact kk)
          obtain ⟨T646, X646, e646, st646⟩ := getS2 X613 hx hZ602 hown602 (host := "") (Or.inl (hw _ (List.mem_of_getElem? (i := 95) rfl))) Via.refl e613 (own_stakeep S_LISTED K602) (g := (mkF m 271 #[.val (.int p1), .val (.int p2), .val (.long q3), .second, .val (.ref a442), .val (.int vl), .val (.int ch446), .val (.int ch448), .val (.int ch450), .val (.int ch452), .val (.int ch454), .val (.int ch456), .val (.int vc6), .val (.ref b536), .unset] [])) rfl (hb hby at_271)
          have k646 : Go p e below (s₁.setTop (entryFrame m #[(.int p1), (.int p2), (.long q3)] maxLocals)) (T646.setTop (mkF m 274 #[.val (.int p1), .val (.int p2), .val (.long q3), .second, .val (.ref a442), .val (.int vl), .val (.int ch446), .val (.int ch448), .val (.int ch450), .val (.int ch452), .val (.int ch454), .val (.int ch456), .val (.int vc6), .val (.ref b536), .unset] [(.ref a_LISTED)])) := fun t kk => k645 t (st646 t kk)
          have k647 : Go p e below (s₁.setTop (entryFrame m #[(.int p1), (.int p2), (.long q3)] maxLocals)) (T646.setTop (mkF m 302 #[.val (.int p1), .val (.int p2), .val (.long q3), .second, .val (.ref a442), .val (.int vl), .val (.int ch446), .val (.int ch448), .val (.int ch450), .val (.int ch452), .val (.int ch454), .val (.int ch456), .val (.int vc6), .val (.ref b536), .val (.ref a_LISTED)] [(.ref b536)])) := fun t kk => k646 t (by
            show Steps p.tables e below (T646.setTop (mkF m 274 #[.val (.int p1), .val (.int p2), .val (.long q3), .second, .val (.ref a442), .val (.int vl), .val (.int ch446), .val (.int ch448), .val (.int ch450), .val (.int ch452), .val (.int ch454), .val (.int ch456), .val (.int vc6), .val (.ref b536), .unset] [(.ref a_LISTED)])) _
            refine XS.astore X646.here hx rfl (hb hby at_274) rfl rfl (l' := #[.val (.int p1), .val (.int p2), .val (.long q3), .second, .val (.ref a442), .val (.int vl), .val (.int ch446), .val (.int ch448), .val (.int ch450), .val (.int ch452), .val (.int ch454), .val (.int ch456), .val (.int vc6), .val (.ref b536), .val (.ref a_LISTED)]) rfl ?_
            show Steps p.tables e below (T646.setTop (mkF m 276 #[.val (.int p1), .val (.int p2), .val (.long q3), .second, .val (.ref a442), .val (.int vl), .val (.int ch446), .val (.int ch448), .val (.int ch450), .val (.int ch452), .val (.int ch454), .val (.int ch456), .val (.int vc6), .val (.ref b536), .val (.ref a_LISTED)] [])) _
            refine XS.goto X646.here hx rfl (pc0 := 276) (pc' := 300) rfl (hb hby at_276) (by decide) (by decide) ?_
            show Steps p.tables e below (T646.setTop (mkF m 300 #[.val (.int p1), .val (.int p2), .val (.long q3), .second, .val (.ref a442), .val (.int vl), .val (.int ch446), .val (.int ch448), .val (.int ch450), .val (.int ch452), .val (.int ch454), .val (.int ch456), .val (.int vc6), .val (.ref b536), .val (.ref a_LISTED)] [])) _
            refine XS.aload X646.here hx rfl (hb hby at_300) rfl rfl ?_
            exact kk)
          obtain ⟨_, _, ⟨T648, L648, kx648, nx648⟩, -, X648, ⟨Lc648, hQ648, l648, y648, z648⟩, st648⟩ := Jvm.LawKit.callS X646 hx (y := (⟨"com/example/tabularium/tabularium/record/Deal", "named", "(Ljava/lang/String;)Lcom/example/tabularium/tabularium/record/Deal;"⟩ : MethodName)) hown602 (mvT hZ602 (hw _ (List.mem_of_getElem? (i := 61) rfl))) (mvT hZ602 (hw _ (List.mem_of_getElem? (i := 62) rfl))) (mvT hZ602 (hw _ (List.mem_of_getElem? (i := 63) rfl))) (mvT hZ602 (hw _ (List.mem_of_getElem? (i := 64) rfl))) (by decide) (backOf (W := 0) (rmD l Z a0 hw [] b536 a__VALUES kV a_LISTED a_SEEDED s_LISTED t_LISTED kL s_SEEDED t_SEEDED kS (([ch446, ch448, ch450, ch452, ch454] : List Int32).map (nar .char)) t595 kb595 (5 : Int32) _ cs h602 n0 Zs602 (own_stakeep SV K602) (PAV.keep K602 nin0) (PEV.keep K602) (f_LISTED.keep K602 nin0) (es_LISTED.keep K602) (cs_LISTED.keep K602 nin0) (vs_LISTED.keep K602 nin0) (as_LISTED.keep K602 nin0) (f_SEEDED.keep K602 nin0) (es_SEEDED.keep K602) (cs_SEEDED.keep K602 nin0) (vs_SEEDED.keep K602 nin0) (as_SEEDED.keep K602 nin0) f609 f611 f610 f612 hcs595 (own_up _ hps595) (Nat.le_of_ble_eq_true rfl) (own_stakeep S1 K602) hs1) hZ602 (hw _ (List.mem_of_getElem? (i := 64) rfl)) (hw _ (List.mem_of_getElem? (i := 63) rfl)) (by decide) (by decide)) (g := (mkF m 302 #[.val (.int p1), .val (.int p2), .val (.long q3), .second, .val (.ref a442), .val (.int vl), .val (.int ch446), .val (.int ch448), .val (.int ch450), .val (.int ch452), .val (.int ch454), .val (.int ch456), .val (.int vc6), .val (.ref b536), .val (.ref a_LISTED)] [(.ref b536)])) rfl (by rw [hml]; rfl) (argsL := [(.ref b536)]) (rest := []) (lenOf pd_6 rfl) rfl (by show 2 * 0 + _ ≤ _; exact Nat.le_of_eq rfl) (hb hby at_302) (fun _ _ => ⟨rfl, e646, (by decide : 7 + 1 ≤ _), (by decide : 70 + 2 ≤ _)⟩)
          dsimp only [Pt.U, Pt.locs, Pt.cells, Pt.slots] at X648 l648 y648 z648 st648 hQ648
          subst l648 y648 z648
          obtain ⟨hv648, N648q, K648q⟩ := hQ648
          rw [show own_named (([ch446, ch448, ch450, ch452, ch454] : List Int32).map (nar .char)) a_LISTED a_SEEDED = .ref a_LISTED from (by unfold own_named; rw [if_pos (own_yes hvq613 hc268_614).symm])] at hv648
          subst hv648
          have N648 := Fr.app N595 N648q
          have hku648 := Nat.le_trans hk602 K648q.1
          have K648 := (K602).trans K648q all0
          have Zs648 : n0 ≤ T648.heap.size := Nat.le_trans Zs602 K648q.1
          have k648 : Go p e below (s₁.setTop (entryFrame m #[(.int p1), (.int p2), (.long q3)] maxLocals)) (T648.setTop (mkF m 305 #[.val (.int p1), .val (.int p2), .val (.long q3), .second, .val (.ref a442), .val (.int vl), .val (.int ch446), .val (.int ch448), .val (.int ch450), .val (.int ch452), .val (.int ch454), .val (.int ch456), .val (.int vc6), .val (.ref b536), .val (.ref a_LISTED)] [(.ref a_LISTED)])) := fun t kk => k647 t (st648 t kk)
          have k649 : Go p e below (s₁.setTop (entryFrame m #[(.int p1), (.int p2), (.long q3)] maxLocals)) (T648.setTop (mkF m 315 #[.val (.int p1), .val (.int p2), .val (.long q3), .second, .val (.ref a442), .val (.int vl), .val (.int ch446), .val (.int ch448), .val (.int ch450), .val (.int ch452), .val (.int ch454), .val (.int ch456), .val (.int vc6), .val (.ref b536), .val (.ref a_LISTED)] [(.int (1 : Int32))])) := fun t kk => k648 t (by
            show Steps p.tables e below (T648.setTop (mkF m 305 #[.val (.int p1), .val (.int p2), .val (.long q3), .second, .val (.ref a442), .val (.int vl), .val (.int ch446), .val (.int ch448), .val (.int ch450), .val (.int ch452), .val (.int ch454), .val (.int ch456), .val (.int vc6), .val (.ref b536), .val (.ref a_LISTED)] [(.ref a_LISTED)])) _
            refine XS.aload X648.here hx rfl (hb hby at_305) rfl rfl ?_
            show Steps p.tables e below (T648.setTop (mkF m 307 #[.val (.int p1), .val (.int p2), .val (.long q3), .second, .val (.ref a442), .val (.int vl), .val (.int ch446), .val (.int ch448), .val (.int ch450), .val (.int ch452), .val (.int ch454), .val (.int ch456), .val (.int vc6), .val (.ref b536), .val (.ref a_LISTED)] [(.ref a_LISTED), (.ref a_LISTED)])) _
            refine Jvm.RoadKit.acmp (g := (mkF m 307 #[.val (.int p1), .val (.int p2), .val (.long q3), .second, .val (.ref a442), .val (.int vl), .val (.int ch446), .val (.int ch448), .val (.int ch450), .val (.int ch452), .val (.int ch454), .val (.int ch456), .val (.int vc6), .val (.ref b536), .val (.ref a_LISTED)] [(.ref a_LISTED), (.ref a_LISTED)])) X648 hx rfl rfl rfl (pc0 := 307) (pc' := 310) (same := true) rfl (hb hby at_307) rfl (decide_eq_true (rfl : (Value.ref a_LISTED) = (Value.ref a_LISTED))) (by decide) (by decide) ?_
            show Steps p.tables e below (T648.setTop (mkF m 310 #[.val (.int p1), .val (.int p2), .val (.long q3), .second, .val (.ref a442), .val (.int vl), .val (.int ch446), .val (.int ch448), .val (.int ch450), .val (.int ch452), .val (.int ch454), .val (.int ch456), .val (.int vc6), .val (.ref b536), .val (.ref a_LISTED)] [])) _
            refine XS.iconst X648.here hx rfl (hb hby at_310) ?_
            show Steps p.tables e below (T648.setTop (mkF m 311 #[.val (.int p1), .val (.int p2), .val (.long q3), .second, .val (.ref a442), .val (.int vl), .val (.int ch446), .val (.int ch448), .val (.int ch450), .val (.int ch452), .val (.int ch454), .val (.int ch456), .val (.int vc6), .val (.ref b536), .val (.ref a_LISTED)] [(.int (1 : Int32))])) _
            refine XS.goto X648.here hx rfl (pc0 := 311) (pc' := 315) rfl (hb hby at_311) (by decide) (by decide) ?_
            exact kk)
          have Xb651 : Stand p l e room_1 (s.setVm T602.vm) m #[(.int p1), (.int p2), (.long q3)] below meth c T648 _ _ _ := X648
          obtain ⟨fs, hr, hrun, hended, hW⟩ := leaveW Xb651 hS602 hku648 (v := some (.int (1 : Int32))) (fun h => by rw [Bd.returns] at h; cases h)
          refine ⟨_, _, k649 _ ?_, hrun, hended, _, _, rfl, ?_, hW.1, hW.2.1, hW.2.2.1, hW.2.2.2.mono (by decide) (by decide)⟩
          · show Steps p.tables e below (T648.setTop (mkF m 315 #[.val (.int p1), .val (.int p2), .val (.long q3), .second, .val (.ref a442), .val (.int vl), .val (.int ch446), .val (.int ch448), .val (.int ch450), .val (.int ch452), .val (.int ch454), .val (.int ch456), .val (.int vc6), .val (.ref b536), .val (.ref a_LISTED)] [(.int (1 : Int32))])) _
            exact retN X648 hx (t := .boolean) Bd.returns (by simp) (hb hby at_315) hr
          · show Q0 Z p1 p2 q3 a__VALUES kV a_LISTED a_SEEDED s_LISTED t_LISTED kL s_SEEDED t_SEEDED kS cs fm h0 n0 _ T648.heap _
            exact ⟨rfl, N648⟩
      · have k652 : Go p e below (s₁.setTop (entryFrame m #[(.int p1), (.int p2), (.long q3)] maxLocals)) (T456.setTop (mkF m 163 #[.val (.int p1), .val (.int p2), .val (.long q3), .second, .val (.ref a442), .val (.int vl), .val (.int ch446), .val (.int ch448), .val (.int ch450), .val (.int ch452), .val (.int ch454), .val (.int ch456), .val (.int vc6), .unset, .unset] [(.int (2 : Int32)), (.int vl)])) := fun t kk => k533 t (by
          show Steps p.tables e below (T456.setTop (mkF m 117 #[.val (.int p1), .val (.int p2), .val (.long q3), .second, .val (.ref a442), .val (.int vl), .val (.int ch446), .val (.int ch448), .val (.int ch450), .val (.int ch452), .val (.int ch454), .val (.int ch456), .val (.int vc6), .unset, .unset] [(.int (1 : Int32)), (.int vl)])) _
          refine XS.icmpYes X456.here hx rfl (pc0 := 117) (pc' := 160) rfl (hb hby at_117) rfl (feq hc117_534).2 (by decide) (by decide) ?_
          show Steps p.tables e below (T456.setTop (mkF m 160 #[.val (.int p1), .val (.int p2), .val (.long q3), .second, .val (.ref a442), .val (.int vl), .val (.int ch446), .val (.int ch448), .val (.int ch450), .val (.int ch452), .val (.int ch454), .val (.int ch456), .val (.int vc6), .unset, .unset] [])) _
          refine XS.iload X456.here hx rfl (hb hby at_160) rfl ?_
          show Steps p.tables e below (T456.setTop (mkF m 162 #[.val (.int p1), .val (.int p2), .val (.long q3), .second, .val (.ref a442), .val (.int vl), .val (.int ch446), .val (.int ch448), .val (.int ch450), .val (.int ch452), .val (.int ch454), .val (.int ch456), .val (.int vc6), .unset, .unset] [(.int vl)])) _
          refine XS.iconst X456.here hx rfl (hb hby at_162) ?_
          exact kk)
        by_cases hc163_653 : vl = (2 : Int32)
        · have k654 : Go p e below (s₁.setTop (entryFrame m #[(.int p1), (.int p2), (.long q3)] maxLocals)) (T456.setTop (mkF m 166 #[.val (.int p1), .val (.int p2), .val (.long q3), .second, .val (.ref a442), .val (.int vl), .val (.int ch446), .val (.int ch448), .val (.int ch450), .val (.int ch452), .val (.int ch454), .val (.int ch456), .val (.int vc6), .unset, .unset] [])) := fun t kk => k652 t (by
            show Steps p.tables e below (T456.setTop (mkF m 163 #[.val (.int p1), .val (.int p2), .val (.long q3), .second, .val (.ref a442), .val (.int vl), .val (.int ch446), .val (.int ch448), .val (.int ch450), .val (.int ch452), .val (.int ch454), .val (.int ch456), .val (.int vc6), .unset, .unset] [(.int (2 : Int32)), (.int vl)])) _
            refine XS.icmpNo X456.here hx rfl (hb hby at_163) rfl (teq hc163_653).2 ?_
            exact kk)
          obtain ⟨T655, h655, X655, e655, E655, A655, D655, -, st655⟩ := newO X456 hx hZ442 hown442 (hw _ (List.mem_of_getElem? (i := 38) rfl)) (hw _ (List.mem_of_getElem? (i := 2) rfl)) (hw _ (List.mem_of_getElem? (i := 1) rfl)) e456 (g := (mkF m 166 #[.val (.int p1), .val (.int p2), .val (.long q3), .second, .val (.ref a442), .val (.int vl), .val (.int ch446), .val (.int ch448), .val (.int ch450), .val (.int ch452), .val (.int ch454), .val (.int ch456), .val (.int vc6), .unset, .unset] [])) rfl (hb hby at_166) (by decide) (by decide)
          obtain ⟨b655, g655⟩ : ∃ z, z = (h442).size := ⟨_, rfl⟩
          rw [← g655] at A655 D655 st655
          have ne_a442_b655 : a442 ≠ b655 := Nat.ne_of_lt (Nat.lt_of_lt_of_le xe442.lt (Nat.le_of_eq g655.symm))
          have ne_b442_b655 : b442 ≠ b655 := Nat.ne_of_lt (Nat.lt_of_lt_of_le V442.lt (Nat.le_of_eq g655.symm))
          have sz_b655 : h0.size ≤ b655 := Nat.le_trans K442.1 (Nat.le_of_eq g655.symm)
          have ge_b655 : n0 ≤ b655 := Nat.le_trans Zs442 (Nat.le_of_eq g655.symm)
          have f656 := xe442.ext E655
          have f657 := xc442.ext E655
          have f658 := xv442.ext E655
          have f659 := V442.ext E655
          have sf655_b655 := Safe.ext E655 C442.1 (Safe.new (x := b655) (Nat.le_of_eq g655.symm))
          have C655 := C442.trans (CHr.ext E655 C442.1)
          have hku655 := Nat.le_trans hk442 E655.1
          have K655 := (K442).ext E655
          have Zs655 : n0 ≤ h655.size := Nat.le_trans Zs442 E655.1
          have F655_value : Fld Z h655 b655 "java/lang/String" "value" "[B" .null := D655 (Or.inr (hw _ (List.mem_of_getElem? (i := 4) rfl))) (ty := (.array .byte)) (by decide)
          have F655_coder : Fld Z h655 b655 "java/lang/String" "coder" "B" (.int (0 : Int32)) := D655 (Or.inr (hw _ (List.mem_of_getElem? (i := 5) rfl))) (ty := .byte) (by decide)
          have k655 : Go p e below (s₁.setTop (entryFrame m #[(.int p1), (.int p2), (.long q3)] maxLocals)) (T655.setTop (mkF m 169 #[.val (.int p1), .val (.int p2), .val (.long q3), .second, .val (.ref a442), .val (.int vl), .val (.int ch446), .val (.int ch448), .val (.int ch450), .val (.int ch452), .val (.int ch454), .val (.int ch456), .val (.int vc6), .unset, .unset] [(.ref b655)])) := fun t kk => k654 t (st655 t kk)
          have k660 : Go p e below (s₁.setTop (entryFrame m #[(.int p1), (.int p2), (.long q3)] maxLocals)) (T655.setTop (mkF m 172 #[.val (.int p1), .val (.int p2), .val (.long q3), .second, .val (.ref a442), .val (.int vl), .val (.int ch446), .val (.int ch448), .val (.int ch450), .val (.int ch452), .val (.int ch454), .val (.int ch456), .val (.int vc6), .unset, .unset] [(.int (6 : Int32)), (.ref b655), (.ref b655)])) := fun t kk => k655 t (by
            show Steps p.tables e below (T655.setTop (mkF m 169 #[.val (.int p1), .val (.int p2), .val (.long q3), .second, .val (.ref a442), .val (.int vl), .val (.int ch446), .val (.int ch448), .val (.int ch450), .val (.int ch452), .val (.int ch454), .val (.int ch456), .val (.int vc6), .unset, .unset] [(.ref b655)])) _
            refine XS.dup X655.here hx rfl (hb hby at_169) rfl rfl ?_
            show Steps p.tables e below (T655.setTop (mkF m 170 #[.val (.int p1), .val (.int p2), .val (.long q3), .second, .val (.ref a442), .val (.int vl), .val (.int ch446), .val (.int ch448), .val (.int ch450), .val (.int ch452), .val (.int ch454), .val (.int ch456), .val (.int vc6), .unset, .unset] [(.ref b655), (.ref b655)])) _
            refine XS.bipush X655.here hx rfl (hb hby at_170) ?_
            exact kk)
          obtain ⟨T661, h661, kc661, X661, e661, E661, A661, st661⟩ := newP X655 hx hZ442 (hw _ (List.mem_of_getElem? (i := 39) rfl)) e655 (g := (mkF m 172 #[.val (.int p1), .val (.int p2), .val (.long q3), .second, .val (.ref a442), .val (.int vl), .val (.int ch446), .val (.int ch448), .val (.int ch450), .val (.int ch452), .val (.int ch454), .val (.int ch456), .val (.int vc6), .unset, .unset] [(.int (6 : Int32)), (.ref b655), (.ref b655)])) rfl (hb hby at_172) rfl (by decide) (cap := 6) (by decide) (by decide) (by decide) (by decide)
          obtain ⟨b661, g661⟩ : ∃ z, z = (h655).size := ⟨_, rfl⟩
          rw [← g661] at A661 st661
          have ne_a442_b661 : a442 ≠ b661 := Nat.ne_of_lt (Nat.lt_of_lt_of_le f656.lt (Nat.le_of_eq g661.symm))
          have ne_b442_b661 : b442 ≠ b661 := Nat.ne_of_lt (Nat.lt_of_lt_of_le f659.lt (Nat.le_of_eq g661.symm))
          have ne_b655_b661 : b655 ≠ b661 := Nat.ne_of_lt (Nat.lt_of_lt_of_le F655_value.lt (Nat.le_of_eq g661.symm))
          have sz_b661 : h0.size ≤ b661 := Nat.le_trans K655.1 (Nat.le_of_eq g661.symm)
          have ge_b661 : n0 ≤ b661 := Nat.le_trans Zs655 (Nat.le_of_eq g661.symm)
          have f662 := f656.ext E661
          have f663 := f657.ext E661
          have f664 := f658.ext E661
          have f665 := f659.ext E661
          have f666 := F655_value.ext E661
          have f667 := F655_coder.ext E661
          have f668 := A655.ext E661
          have sf661_b655 := Safe.ext E661 C655.1 sf655_b655
          have sf661_b661 := Safe.ext E661 C655.1 (Safe.new (x := b661) (Nat.le_of_eq g661.symm))
          have C661 := C655.trans (CHr.ext E661 C655.1)
          have hku661 := Nat.le_trans hku655 E661.1
          have K661 := (K655).ext E661
          have Zs661 : n0 ≤ h661.size := Nat.le_trans Zs655 E661.1
          have V661 : Arv Z h661 b661 kc661 .char (6 : Int32) [(.int (0 : Int32)), (.int (0 : Int32)), (.int (0 : Int32)), (.int (0 : Int32)), (.int (0 : Int32)), (.int (0 : Int32))] (.int (0 : Int32)) := (Arv.new A661 (by decide)).pad (pad_rep [] (.int (0 : Int32)) 6)
          have k661 : Go p e below (s₁.setTop (entryFrame m #[(.int p1), (.int p2), (.long q3)] maxLocals)) (T661.setTop (mkF m 174 #[.val (.int p1), .val (.int p2), .val (.long q3), .second, .val (.ref a442), .val (.int vl), .val (.int ch446), .val (.int ch448), .val (.int ch450), .val (.int ch452), .val (.int ch454), .val (.int ch456), .val (.int vc6), .unset, .unset] [(.ref b661), (.ref b655), (.ref b655)])) := fun t kk => k660 t (st661 t kk)
          have k669 : Go p e below (s₁.setTop (entryFrame m #[(.int p1), (.int p2), (.long q3)] maxLocals)) (T661.setTop (mkF m 178 #[.val (.int p1), .val (.int p2), .val (.long q3), .second, .val (.ref a442), .val (.int vl), .val (.int ch446), .val (.int ch448), .val (.int ch450), .val (.int ch452), .val (.int ch454), .val (.int ch456), .val (.int vc6), .unset, .unset] [(.int ch446), (.int (0 : Int32)), (.ref b661), (.ref b661), (.ref b655), (.ref b655)])) := fun t kk => k661 t (by
            show Steps p.tables e below (T661.setTop (mkF m 174 #[.val (.int p1), .val (.int p2), .val (.long q3), .second, .val (.ref a442), .val (.int vl), .val (.int ch446), .val (.int ch448), .val (.int ch450), .val (.int ch452), .val (.int ch454), .val (.int ch456), .val (.int vc6), .unset, .unset] [(.ref b661), (.ref b655), (.ref b655)])) _
            refine XS.dup X661.here hx rfl (hb hby at_174) rfl rfl ?_
            show Steps p.tables e below (T661.setTop (mkF m 175 #[.val (.int p1), .val (.int p2), .val (.long q3), .second, .val (.ref a442), .val (.int vl), .val (.int ch446), .val (.int ch448), .val (.int ch450), .val (.int ch452), .val (.int ch454), .val (.int ch456), .val (.int vc6), .unset, .unset] [(.ref b661), (.ref b661), (.ref b655), (.ref b655)])) _
            refine XS.iconst X661.here hx rfl (hb hby at_175) ?_
            show Steps p.tables e below (T661.setTop (mkF m 176 #[.val (.int p1), .val (.int p2), .val (.long q3), .second, .val (.ref a442), .val (.int vl), .val (.int ch446), .val (.int ch448), .val (.int ch450), .val (.int ch452), .val (.int ch454), .val (.int ch456), .val (.int vc6), .unset, .unset] [(.int (0 : Int32)), (.ref b661), (.ref b661), (.ref b655), (.ref b655)])) _
            refine XS.iload X661.here hx rfl (hb hby at_176) rfl ?_
            exact kk)
          obtain ⟨cl670, Ar670, q670, S670, G670, H670, J670⟩ := V661
          have hin670 : ¬ ((0 : Int32) < 0 ∨ cl670.slots.size ≤ ((0 : Int32)).toNatClampNeg) := inb_of S670 ⟨by decide, by decide⟩
          obtain ⟨T670, h670, X670, e670, W670, st670⟩ := stC X661 hx hZ442 e661 Ar670 (j := (0 : Int32)) hin670 (g := (mkF m 178 #[.val (.int p1), .val (.int p2), .val (.long q3), .second, .val (.ref a442), .val (.int vl), .val (.int ch446), .val (.int ch448), .val (.int ch450), .val (.int ch452), .val (.int ch454), .val (.int ch456), .val (.int vc6), .unset, .unset] [(.int ch446), (.int (0 : Int32)), (.ref b661), (.ref b661), (.ref b655), (.ref b655)])) rfl rfl (hb hby at_178)
          have V670 := Arv.set Ar670 q670 S670 G670 H670 J670 (fits_nar_char _) W670 0 rfl (Nat.le_of_ble_eq_true rfl)
          have N670 := Fr.snoc X670 N0 ge_b661
          have hku670 := Nat.le_trans hku661 (Keep.of_wr W670).1
          have sf670_b655 := Safe.wr W670 sf661_b661 C661.1 sf661_b655
          have sf670_b661 := Safe.wr W670 sf661_b661 C661.1 sf661_b661
          have C670 := C661.trans (CHr.wr W670 sf661_b661 C661.1)
          have f671 := f662.wr W670
          have f672 := f663.other W670 (Or.inl ne_a442_b661)
          have f673 := f664.other W670 (Or.inl ne_a442_b661)
          have f674 := f665.other W670 ne_b442_b661
          have f675 := f666.other W670 (Or.inl ne_b655_b661)
          have f676 := f667.other W670 (Or.inl ne_b655_b661)
          have f677 := f668.wr W670
          have K670 := (K661).wr W670 (Or.inr sz_b661)
          have Zs670 : n0 ≤ h670.size := Nat.le_trans Zs661 (Keep.of_wr W670).1
          have k670 : Go p e below (s₁.setTop (entryFrame m #[(.int p1), (.int p2), (.long q3)] maxLocals)) (T670.setTop (mkF m 179 #[.val (.int p1), .val (.int p2), .val (.long q3), .second, .val (.ref a442), .val (.int vl), .val (.int ch446), .val (.int ch448), .val (.int ch450), .val (.int ch452), .val (.int ch454), .val (.int ch456), .val (.int vc6), .unset, .unset] [(.ref b661), (.ref b655), (.ref b655)])) := fun t kk => k669 t (st670 t kk)
          have k678 : Go p e below (s₁.setTop (entryFrame m #[(.int p1), (.int p2), (.long q3)] maxLocals)) (T670.setTop (mkF m 183 #[.val (.int p1), .val (.int p2), .val (.long q3), .second, .val (.ref a442), .val (.int vl), .val (.int ch446), .val (.int ch448), .val (.int ch450), .val (.int ch452), .val (.int ch454), .val (.int ch456), .val (.int vc6), .unset, .unset] [(.int ch448), (.int (1 : Int32)), (.ref b661), (.ref b661), (.ref b655), (.ref b655)])) := fun t kk => k670 t (by
            show Steps p.tables e below (T670.setTop (mkF m 179 #[.val (.int p1), .val (.int p2), .val (.long q3), .second, .val (.ref a442), .val (.int vl), .val (.int ch446), .val (.int ch448), .val (.int ch450), .val (.int ch452), .val (.int ch454), .val (.int ch456), .val (.int vc6), .unset, .unset] [(.ref b661), (.ref b655), (.ref b655)])) _
            refine XS.dup X670.here hx rfl (hb hby at_179) rfl rfl ?_
            show Steps p.tables e below (T670.setTop (mkF m 180 #[.val (.int p1), .val (.int p2), .val (.long q3), .second, .val (.ref a442), .val (.int vl), .val (.int ch446), .val (.int ch448), .val (.int ch450), .val (.int ch452), .val (.int ch454), .val (.int ch456), .val (.int vc6), .unset, .unset] [(.ref b661), (.ref b661), (.ref b655), (.ref b655)])) _
            refine XS.iconst X670.here hx rfl (hb hby at_180) ?_
            show Steps p.tables e below (T670.setTop (mkF m 181 #[.val (.int p1), .val (.int p2), .val (.long q3), .second, .val (.ref a442), .val (.int vl), .val (.int ch446), .val (.int ch448), .val (.int ch450), .val (.int ch452), .val (.int ch454), .val (.int ch456), .val (.int vc6), .unset, .unset] [(.int (1 : Int32)), (.ref b661), (.ref b661), (.ref b655), (.ref b655)])) _
            refine XS.iload X670.here hx rfl (hb hby at_181) rfl ?_
            exact kk)
          obtain ⟨cl679, Ar679, q679, S679, G679, H679, J679⟩ := V670
          have hin679 : ¬ ((1 : Int32) < 0 ∨ cl679.slots.size ≤ ((1 : Int32)).toNatClampNeg) := inb_of S679 ⟨by decide, by decide⟩
          obtain ⟨T679, h679, X679, e679, W679, st679⟩ := stC X670 hx hZ442 e670 Ar679 (j := (1 : Int32)) hin679 (g := (mkF m 183 #[.val (.int p1), .val (.int p2), .val (.long q3), .second, .val (.ref a442), .val (.int vl), .val (.int ch446), .val (.int ch448), .val (.int ch450), .val (.int ch452), .val (.int ch454), .val (.int ch456), .val (.int vc6), .unset, .unset] [(.int ch448), (.int (1 : Int32)), (.ref b661), (.ref b661), (.ref b655), (.ref b655)])) rfl rfl (hb hby at_183)
          have V679 := Arv.set Ar679 q679 S679 G679 H679 J679 (fits_nar_char _) W679 1 rfl (Nat.le_of_ble_eq_true rfl)
          have N679 := Fr.snoc X679 N670 ge_b661
          have hku679 := Nat.le_trans hku670 (Keep.of_wr W679).1
          have sf679_b655 := Safe.wr W679 sf670_b661 C670.1 sf670_b655
          have sf679_b661 := Safe.wr W679 sf670_b661 C670.1 sf670_b661
          have C679 := C670.trans (CHr.wr W679 sf670_b661 C670.1)
          have f680 := f671.wr W679
          have f681 := f672.other W679 (Or.inl ne_a442_b661)
          have f682 := f673.other W679 (Or.inl ne_a442_b661)
          have f683 := f674.other W679 ne_b442_b661
          have f684 := f675.other W679 (Or.inl ne_b655_b661)
          have f685 := f676.other W679 (Or.inl ne_b655_b661)
          have f686 := f677.wr W679
          have K679 := (K670).wr W679 (Or.inr sz_b661)
          have Zs679 : n0 ≤ h679.size := Nat.le_trans Zs670 (Keep.of_wr W679).1
          have k679 : Go p e below (s₁.setTop (entryFrame m #[(.int p1), (.int p2), (.long q3)] maxLocals)) (T679.setTop (mkF m 184 #[.val (.int p1), .val (.int p2), .val (.long q3), .second, .val (.ref a442), .val (.int vl), .val (.int ch446), .val (.int ch448), .val (.int ch450), .val (.int ch452), .val (.int ch454), .val (.int ch456), .val (.int vc6), .unset, .unset] [(.ref b661), (.ref b655), (.ref b655)])) := fun t kk => k678 t (st679 t kk)
          have k687 : Go p e below (s₁.setTop (entryFrame m #[(.int p1), (.int p2), (.long q3)] maxLocals)) (T679.setTop (mkF m 188 #[.val (.int p1), .val (.int p2), .val (.long q3), .second, .val (.ref a442), .val (.int vl), .val (.int ch446), .val (.int ch448), .val (.int ch450), .val (.int ch452), .val (.int ch454), .val (.int ch456), .val (.int vc6), .unset, .unset] [(.int ch450), (.int (2 : Int32)), (.ref b661), (.ref b661), (.ref b655), (.ref b655)])) := fun t kk => k679 t (by
            show Steps p.tables e below (T679.setTop (mkF m 184 #[.val (.int p1), .val (.int p2), .val (.long q3), .second, .val (.ref a442), .val (.int vl), .val (.int ch446), .val (.int ch448), .val (.int ch450), .val (.int ch452), .val (.int ch454), .val (.int ch456), .val (.int vc6), .unset, .unset] [(.ref b661), (.ref b655), (.ref b655)])) _
            refine XS.dup X679.here hx rfl (hb hby at_184) rfl rfl ?_
            show Steps p.tables e below (T679.setTop (mkF m 185 #[.val (.int p1), .val (.int p2), .val (.long q3), .second, .val (.ref a442), .val (.int vl), .val (.int ch446), .val (.int ch448), .val (.int ch450), .val (.int ch452), .val (.int ch454), .val (.int ch456), .val (.int vc6), .unset, .unset] [(.ref b661), (.ref b661), (.ref b655), (.ref b655)])) _
            refine XS.iconst X679.here hx rfl (hb hby at_185) ?_
            show Steps p.tables e below (T679.setTop (mkF m 186 #[.val (.int p1), .val (.int p2), .val (.long q3), .second, .val (.ref a442), .val (.int vl), .val (.int ch446), .val (.int ch448), .val (.int ch450), .val (.int ch452), .val (.int ch454), .val (.int ch456), .val (.int vc6), .unset, .unset] [(.int (2 : Int32)), (.ref b661), (.ref b661), (.ref b655), (.ref b655)])) _
            refine XS.iload X679.here hx rfl (hb hby at_186) rfl ?_
            exact kk)
          obtain ⟨cl688, Ar688, q688, S688, G688, H688, J688⟩ := V679
          have hin688 : ¬ ((2 : Int32) < 0 ∨ cl688.slots.size ≤ ((2 : Int32)).toNatClampNeg) := inb_of S688 ⟨by decide, by decide⟩
          obtain ⟨T688, h688, X688, e688, W688, st688⟩ := stC X679 hx hZ442 e679 Ar688 (j := (2 : Int32)) hin688 (g := (mkF m 188 #[.val (.int p1), .val (.int p2), .val (.long q3), .second, .val (.ref a442), .val (.int vl), .val (.int ch446), .val (.int ch448), .val (.int ch450), .val (.int ch452), .val (.int ch454), .val (.int ch456), .val (.int vc6), .unset, .unset] [(.int ch450), (.int (2 : Int32)), (.ref b661), (.ref b661), (.ref b655), (.ref b655)])) rfl rfl (hb hby at_188)
          have V688 := Arv.set Ar688 q688 S688 G688 H688 J688 (fits_nar_char _) W688 2 rfl (Nat.le_of_ble_eq_true rfl)
          have N688 := Fr.snoc X688 N679 ge_b661
          have hku688 := Nat.le_trans hku679 (Keep.of_wr W688).1
          have sf688_b655 := Safe.wr W688 sf679_b661 C679.1 sf679_b655
          have sf688_b661 := Safe.wr W688 sf679_b661 C679.1 sf679_b661
          have C688 := C679.trans (CHr.wr W688 sf679_b661 C679.1)
          have f689 := f680.wr W688
          have f690 := f681.other W688 (Or.inl ne_a442_b661)
          have f691 := f682.other W688 (Or.inl ne_a442_b661)
          have f692 := f683.other W688 ne_b442_b661
          have f693 := f684.other W688 (Or.inl ne_b655_b661)
          have f694 := f685.other W688 (Or.inl ne_b655_b661)
          have f695 := f686.wr W688
          have K688 := (K679).wr W688 (Or.inr sz_b661)
          have Zs688 : n0 ≤ h688.size := Nat.le_trans Zs679 (Keep.of_wr W688).1
          have k688 : Go p e below (s₁.setTop (entryFrame m #[(.int p1), (.int p2), (.long q3)] maxLocals)) (T688.setTop (mkF m 189 #[.val (.int p1), .val (.int p2), .val (.long q3), .second, .val (.ref a442), .val (.int vl), .val (.int ch446), .val (.int ch448), .val (.int ch450), .val (.int ch452), .val (.int ch454), .val (.int ch456), .val (.int vc6), .unset, .unset] [(.ref b661), (.ref b655), (.ref b655)])) := fun t kk => k687 t (st688 t kk)
          have k696 : Go p e below (s₁.setTop (entryFrame m #[(.int p1), (.int p2), (.long q3)] maxLocals)) (T688.setTop (mkF m 193 #[.val (.int p1), .val (.int p2), .val (.long q3), .second, .val (.ref a442), .val (.int vl), .val (.int ch446), .val (.int ch448), .val (.int ch450), .val (.int ch452), .val (.int ch454), .val (.int ch456), .val (.int vc6), .unset, .unset] [(.int ch452), (.int (3 : Int32)), (.ref b661), (.ref b661), (.ref b655), (.ref b655)])) := fun t kk => k688 t (by
            show Steps p.tables e below (T688.setTop (mkF m 189 #[.val (.int p1), .val (.int p2), .val (.long q3), .second, .val (.ref a442), .val (.int vl), .val (.int ch446), .val (.int ch448), .val (.int ch450), .val (.int ch452), .val (.int ch454), .val (.int ch456), .val (.int vc6), .unset, .unset] [(.ref b661), (.ref b655), (.ref b655)])) _
            refine XS.dup X688.here hx rfl (hb hby at_189) rfl rfl ?_
            show Steps p.tables e below (T688.setTop (mkF m 190 #[.val (.int p1), .val (.int p2), .val (.long q3), .second, .val (.ref a442), .val (.int vl), .val (.int ch446), .val (.int ch448), .val (.int ch450), .val (.int ch452), .val (.int ch454), .val (.int ch456), .val (.int vc6), .unset, .unset] [(.ref b661), (.ref b661), (.ref b655), (.ref b655)])) _
            refine XS.iconst X688.here hx rfl (hb hby at_190) ?_
            show Steps p.tables e below (T688.setTop (mkF m 191 #[.val (.int p1), .val (.int p2), .val (.long q3), .second, .val (.ref a442), .val (.int vl), .val (.int ch446), .val (.int ch448), .val (.int ch450), .val (.int ch452), .val (.int ch454), .val (.int ch456), .val (.int vc6), .unset, .unset] [(.int (3 : Int32)), (.ref b661), (.ref b661), (.ref b655), (.ref b655)])) _
            refine XS.iload X688.here hx rfl (hb hby at_191) rfl ?_
            exact kk)
          obtain ⟨cl697, Ar697, q697, S697, G697, H697, J697⟩ := V688
          have hin697 : ¬ ((3 : Int32) < 0 ∨ cl697.slots.size ≤ ((3 : Int32)).toNatClampNeg) := inb_of S697 ⟨by decide, by decide⟩
          obtain ⟨T697, h697, X697, e697, W697, st697⟩ := stC X688 hx hZ442 e688 Ar697 (j := (3 : Int32)) hin697 (g := (mkF m 193 #[.val (.int p1), .val (.int p2), .val (.long q3), .second, .val (.ref a442), .val (.int vl), .val (.int ch446), .val (.int ch448), .val (.int ch450), .val (.int ch452), .val (.int ch454), .val (.int ch456), .val (.int vc6), .unset, .unset] [(.int ch452), (.int (3 : Int32)), (.ref b661), (.ref b661), (.ref b655), (.ref b655)])) rfl rfl (hb hby at_193)
          have V697 := Arv.set Ar697 q697 S697 G697 H697 J697 (fits_nar_char _) W697 3 rfl (Nat.le_of_ble_eq_true rfl)
          have N697 := Fr.snoc X697 N688 ge_b661
          have hku697 := Nat.le_trans hku688 (Keep.of_wr W697).1
          have sf697_b655 := Safe.wr W697 sf688_b661 C688.1 sf688_b655
          have sf697_b661 := Safe.wr W697 sf688_b661 C688.1 sf688_b661
          have C697 := C688.trans (CHr.wr W697 sf688_b661 C688.1)
          have f698 := f689.wr W697
          have f699 := f690.other W697 (Or.inl ne_a442_b661)
          have f700 := f691.other W697 (Or.inl ne_a442_b661)
          have f701 := f692.other W697 ne_b442_b661
          have f702 := f693.other W697 (Or.inl ne_b655_b661)
          have f703 := f694.other W697 (Or.inl ne_b655_b661)
          have f704 := f695.wr W697
          have K697 := (K688).wr W697 (Or.inr sz_b661)
          have Zs697 : n0 ≤ h697.size := Nat.le_trans Zs688 (Keep.of_wr W697).1
          have k697 : Go p e below (s₁.setTop (entryFrame m #[(.int p1), (.int p2), (.long q3)] maxLocals)) (T697.setTop (mkF m 194 #[.val (.int p1), .val (.int p2), .val (.long q3), .second, .val (.ref a442), .val (.int vl), .val (.int ch446), .val (.int ch448), .val (.int ch450), .val (.int ch452), .val (.int ch454), .val (.int ch456), .val (.int vc6), .unset, .unset] [(.ref b661), (.ref b655), (.ref b655)])) := fun t kk => k696 t (st697 t kk)
          have k705 : Go p e below (s₁.setTop (entryFrame m #[(.int p1), (.int p2), (.long q3)] maxLocals)) (T697.setTop (mkF m 198 #[.val (.int p1), .val (.int p2), .val (.long q3), .second, .val (.ref a442), .val (.int vl), .val (.int ch446), .val (.int ch448), .val (.int ch450), .val (.int ch452), .val (.int ch454), .val (.int ch456), .val (.int vc6), .unset, .unset] [(.int ch454), (.int (4 : Int32)), (.ref b661), (.ref b661), (.ref b655), (.ref b655)])) := fun t kk => k697 t (by
            show Steps p.tables e below (T697.setTop (mkF m 194 #[.val (.int p1), .val (.int p2), .val (.long q3), .second, .val (.ref a442), .val (.int vl), .val (.int ch446), .val (.int ch448), .val (.int ch450), .val (.int ch452), .val (.int ch454), .val (.int ch456), .val (.int vc6), .unset, .unset] [(.ref b661), (.ref b655), (.ref b655)])) _
            refine XS.dup X697.here hx rfl (hb hby at_194) rfl rfl ?_
            show Steps p.tables e below (T697.setTop (mkF m 195 #[.val (.int p1), .val (.int p2), .val (.long q3), .second, .val (.ref a442), .val (.int vl), .val (.int ch446), .val (.int ch448), .val (.int ch450), .val (.int ch452), .val (.int ch454), .val (.int ch456), .val (.int vc6), .unset, .unset] [(.ref b661), (.ref b661), (.ref b655), (.ref b655)])) _
            refine XS.iconst X697.here hx rfl (hb hby at_195) ?_
            show Steps p.tables e below (T697.setTop (mkF m 196 #[.val (.int p1), .val (.int p2), .val (.long q3), .second, .val (.ref a442), .val (.int vl), .val (.int ch446), .val (.int ch448), .val (.int ch450), .val (.int ch452), .val (.int ch454), .val (.int ch456), .val (.int vc6), .unset, .unset] [(.int (4 : Int32)), (.ref b661), (.ref b661), (.ref b655), (.ref b655)])) _
            refine XS.iload X697.here hx rfl (hb hby at_196) rfl ?_
            exact kk)
          obtain ⟨cl706, Ar706, q706, S706, G706, H706, J706⟩ := V697
          have hin706 : ¬ ((4 : Int32) < 0 ∨ cl706.slots.size ≤ ((4 : Int32)).toNatClampNeg) := inb_of S706 ⟨by decide, by decide⟩
          obtain ⟨T706, h706, X706, e706, W706, st706⟩ := stC X697 hx hZ442 e697 Ar706 (j := (4 : Int32)) hin706 (g := (mkF m 198 #[.val (.int p1), .val (.int p2), .val (.long q3), .second, .val (.ref a442), .val (.int vl), .val (.int ch446), .val (.int ch448), .val (.int ch450), .val (.int ch452), .val (.int ch454), .val (.int ch456), .val (.int vc6), .unset, .unset] [(.int ch454), (.int (4 : Int32)), (.ref b661), (.ref b661), (.ref b655), (.ref b655)])) rfl rfl (hb hby at_198)
          have V706 := Arv.set Ar706 q706 S706 G706 H706 J706 (fits_nar_char _) W706 4 rfl (Nat.le_of_ble_eq_true rfl)
          have N706 := Fr.snoc X706 N697 ge_b661
          have hku706 := Nat.le_trans hku697 (Keep.of_wr W706).1
          have sf706_b655 := Safe.wr W706 sf697_b661 C697.1 sf697_b655
          have sf706_b661 := Safe.wr W706 sf697_b661 C697.1 sf697_b661
          have C706 := C697.trans (CHr.wr W706 sf697_b661 C697.1)
          have f707 := f698.wr W706
          have f708 := f699.other W706 (Or.inl ne_a442_b661)
          have f709 := f700.other W706 (Or.inl ne_a442_b661)
          have f710 := f701.other W706 ne_b442_b661
          have f711 := f702.other W706 (Or.inl ne_b655_b661)
          have f712 := f703.other W706 (Or.inl ne_b655_b661)
          have f713 := f704.wr W706
          have K706 := (K697).wr W706 (Or.inr sz_b661)
          have Zs706 : n0 ≤ h706.size := Nat.le_trans Zs697 (Keep.of_wr W706).1
          have k706 : Go p e below (s₁.setTop (entryFrame m #[(.int p1), (.int p2), (.long q3)] maxLocals)) (T706.setTop (mkF m 199 #[.val (.int p1), .val (.int p2), .val (.long q3), .second, .val (.ref a442), .val (.int vl), .val (.int ch446), .val (.int ch448), .val (.int ch450), .val (.int ch452), .val (.int ch454), .val (.int ch456), .val (.int vc6), .unset, .unset] [(.ref b661), (.ref b655), (.ref b655)])) := fun t kk => k705 t (st706 t kk)
          have k714 : Go p e below (s₁.setTop (entryFrame m #[(.int p1), (.int p2), (.long q3)] maxLocals)) (T706.setTop (mkF m 203 #[.val (.int p1), .val (.int p2), .val (.long q3), .second, .val (.ref a442), .val (.int vl), .val (.int ch446), .val (.int ch448), .val (.int ch450), .val (.int ch452), .val (.int ch454), .val (.int ch456), .val (.int vc6), .unset, .unset] [(.int ch456), (.int (5 : Int32)), (.ref b661), (.ref b661), (.ref b655), (.ref b655)])) := fun t kk => k706 t (by
            show Steps p.tables e below (T706.setTop (mkF m 199 #[.val (.int p1), .val (.int p2), .val (.long q3), .second, .val (.ref a442), .val (.int vl), .val (.int ch446), .val (.int ch448), .val (.int ch450), .val (.int ch452), .val (.int ch454), .val (.int ch456), .val (.int vc6), .unset, .unset] [(.ref b661), (.ref b655), (.ref b655)])) _
            refine XS.dup X706.here hx rfl (hb hby at_199) rfl rfl ?_
            show Steps p.tables e below (T706.setTop (mkF m 200 #[.val (.int p1), .val (.int p2), .val (.long q3), .second, .val (.ref a442), .val (.int vl), .val (.int ch446), .val (.int ch448), .val (.int ch450), .val (.int ch452), .val (.int ch454), .val (.int ch456), .val (.int vc6), .unset, .unset] [(.ref b661), (.ref b661), (.ref b655), (.ref b655)])) _
            refine XS.iconst X706.here hx rfl (hb hby at_200) ?_
            show Steps p.tables e below (T706.setTop (mkF m 201 #[.val (.int p1), .val (.int p2), .val (.long q3), .second, .val (.ref a442), .val (.int vl), .val (.int ch446), .val (.int ch448), .val (.int ch450), .val (.int ch452), .val (.int ch454), .val (.int ch456), .val (.int vc6), .unset, .unset] [(.int (5 : Int32)), (.ref b661), (.ref b661), (.ref b655), (.ref b655)])) _
            refine XS.iload X706.here hx rfl (hb hby at_201) rfl ?_
            exact kk)
          obtain ⟨cl715, Ar715, q715, S715, G715, H715, J715⟩ := V706
          have hin715 : ¬ ((5 : Int32) < 0 ∨ cl715.slots.size ≤ ((5 : Int32)).toNatClampNeg) := inb_of S715 ⟨by decide, by decide⟩
          obtain ⟨T715, h715, X715, e715, W715, st715⟩ := stC X706 hx hZ442 e706 Ar715 (j := (5 : Int32)) hin715 (g := (mkF m 203 #[.val (.int p1), .val (.int p2), .val (.long q3), .second, .val (.ref a442), .val (.int vl), .val (.int ch446), .val (.int ch448), .val (.int ch450), .val (.int ch452), .val (.int ch454), .val (.int ch456), .val (.int vc6), .unset, .unset] [(.int ch456), (.int (5 : Int32)), (.ref b661), (.ref b661), (.ref b655), (.ref b655)])) rfl rfl (hb hby at_203)
          have V715 := Arv.set Ar715 q715 S715 G715 H715 J715 (fits_nar_char _) W715 5 rfl (Nat.le_of_ble_eq_true rfl)
          have N715 := Fr.snoc X715 N706 ge_b661
          have hku715 := Nat.le_trans hku706 (Keep.of_wr W715).1
          have sf715_b655 := Safe.wr W715 sf706_b661 C706.1 sf706_b655
          have sf715_b661 := Safe.wr W715 sf706_b661 C706.1 sf706_b661
          have C715 := C706.trans (CHr.wr W715 sf706_b661 C706.1)
          have f716 := f707.wr W715
          have f717 := f708.other W715 (Or.inl ne_a442_b661)
          have f718 := f709.other W715 (Or.inl ne_a442_b661)
          have f719 := f710.other W715 ne_b442_b661
          have f720 := f711.other W715 (Or.inl ne_b655_b661)
          have f721 := f712.other W715 (Or.inl ne_b655_b661)
          have f722 := f713.wr W715
          have K715 := (K706).wr W715 (Or.inr sz_b661)
          have Zs715 : n0 ≤ h715.size := Nat.le_trans Zs706 (Keep.of_wr W715).1
          have k715 : Go p e below (s₁.setTop (entryFrame m #[(.int p1), (.int p2), (.long q3)] maxLocals)) (T715.setTop (mkF m 204 #[.val (.int p1), .val (.int p2), .val (.long q3), .second, .val (.ref a442), .val (.int vl), .val (.int ch446), .val (.int ch448), .val (.int ch450), .val (.int ch452), .val (.int ch454), .val (.int ch456), .val (.int vc6), .unset, .unset] [(.ref b661), (.ref b655), (.ref b655)])) := fun t kk => k714 t (st715 t kk)
          have hps723 : ∀ c ∈ (([ch446, ch448, ch450, ch452, ch454, ch456] : List Int32).map (nar .char)), ¬ c < 0 ∧ ¬ (255 : Int32) < c := own_nars _ (by
            intro x hx
            simp only [List.mem_cons, List.not_mem_nil, or_false] at hx
            rcases hx with rfl | rfl | rfl | rfl | rfl | rfl
            · exact hb446
            · exact hb448
            · exact hb450
            · exact hb452
            · exact hb454
            · exact hb456)
          have hcs723 : StrChars.Road.CodA (([ch446, ch448, ch450, ch452, ch454, ch456] : List Int32).map (nar .char)) 0 (6 : Int32) ((((([ch446, ch448, ch450, ch452, ch454, ch456] : List Int32).map (nar .char))).map (fun c => c.toInt8.toInt32)).map Value.int) := StrChars.Road.codOf (n := 6) rfl (fun c hc => (hps723 c hc).2)
          obtain ⟨_, _, ⟨T723, L723, kx723, nx723⟩, -, X723, ⟨Lc723, hQ723, l723, y723, z723⟩, st723⟩ := X715.specialBack hx (y := (⟨"java/lang/String", "<init>", "([C)V"⟩ : MethodName)) rfl hown442 (mvT hZ442 (hw _ (List.mem_of_getElem? (i := 40) rfl))) (mvT hZ442 (hw _ (List.mem_of_getElem? (i := 41) rfl))) (mvT hZ442 (hw _ (List.mem_of_getElem? (i := 42) rfl))) (by decide) (StrChars.Road.backV (W := 1) hZ442 hws (kI := 4) (hw _ (List.mem_of_getElem? (i := 2) rfl)) (cs := (([ch446, ch448, ch450, ch452, ch454, ch456] : List Int32).map (nar .char))) (bs := ((([ch446, ch448, ch450, ch452, ch454, ch456] : List Int32).map (nar .char))).map (fun c => c.toInt8.toInt32)) (n := 6) ge_b655 Zs715 f722 f720 f721 V715 (own_stakeep S1 K715) hs1 rfl rfl (by decide) (by decide) hps723 rfl (by decide) (by decide)) (g := (mkF m 204 #[.val (.int p1), .val (.int p2), .val (.long q3), .second, .val (.ref a442), .val (.int vl), .val (.int ch446), .val (.int ch448), .val (.int ch450), .val (.int ch452), .val (.int ch454), .val (.int ch456), .val (.int vc6), .unset, .unset] [(.ref b661), (.ref b655), (.ref b655)])) rfl (by rw [hml]; rfl) (Steps.refl _) (a := b655) (argsL := [(.ref b661)]) (rest := [(.ref b655)]) (lenOf pd_5 rfl) rfl (by show 2 * 0 + _ ≤ _; exact Nat.le_of_eq rfl) (hb hby at_204) (fun _ _ => ⟨rfl, e715, (by decide : 4 + 1 ≤ _), (by decide : 38 + 6 ≤ _)⟩)
          dsimp only [Pt.U, Pt.locs, Pt.cells, Pt.slots] at X723 l723 y723 z723 st723 hQ723
          subst l723 y723 z723
          obtain ⟨rfl, N723q, K723q, x723_e, x723_c, t723, kb723, -, zt723, -, x723_v, x723_a⟩ := hQ723
          have N723 := Fr.app N715 N723q
          have sf723_b655 := Safe.keep K723q (sfS sf715_b655 sf0) C715.1 sf715_b655
          have sf723_b661 := Safe.keep K723q (sfS sf715_b655 sf0) C715.1 sf715_b661
          have C723 := C715.trans (CHr.keep K723q (sfS sf715_b655 sf0) C715.1)
          have hku723 := Nat.le_trans hku715 K723q.1
          have ne_a442_t723 : a442 ≠ t723 := Nat.ne_of_lt (Nat.lt_of_lt_of_le f716.lt zt723)
          have ne_b442_t723 : b442 ≠ t723 := Nat.ne_of_lt (Nat.lt_of_lt_of_le f719.lt zt723)
          have ne_b661_t723 : b661 ≠ t723 := Nat.ne_of_lt (Nat.lt_of_lt_of_le V715.lt zt723)
          have f724 := f716.keep K723q
          have f725 := f717.keep K723q (ninS ne_a442_b655 nin0)
          have f726 := f718.keep K723q (ninS ne_a442_b655 nin0)
          have f727 := f719.keep K723q (ninS ne_b442_b655 nin0)
          have f728 := V715.keep K723q (ninS (Ne.symm ne_b655_b661) nin0)
          have K723 := (K715).trans K723q (allS (Or.inr sz_b655) all0)
          have sz_t723 : h0.size ≤ t723 := Nat.le_trans K715.1 zt723
          have Zs723 : n0 ≤ T723.heap.size := Nat.le_trans Zs715 K723q.1
          have k723 : Go p e below (s₁.setTop (entryFrame m #[(.int p1), (.int p2), (.long q3)] maxLocals)) (T723.setTop (mkF m 207 #[.val (.int p1), .val (.int p2), .val (.long q3), .second, .val (.ref a442), .val (.int vl), .val (.int ch446), .val (.int ch448), .val (.int ch450), .val (.int ch452), .val (.int ch454), .val (.int ch456), .val (.int vc6), .unset, .unset] [(.ref b655)])) := fun t kk => k715 t (st723.trans kk)
          have k729 : Go p e below (s₁.setTop (entryFrame m #[(.int p1), (.int p2), (.long q3)] maxLocals)) (T723.setTop (mkF m 263 #[.val (.int p1), .val (.int p2), .val (.long q3), .second, .val (.ref a442), .val (.int vl), .val (.int ch446), .val (.int ch448), .val (.int ch450), .val (.int ch452), .val (.int ch454), .val (.int ch456), .val (.int vc6), .val (.ref b655), .unset] [(.ref b655)])) := fun t kk => k723 t (by
            show Steps p.tables e below (T723.setTop (mkF m 207 #[.val (.int p1), .val (.int p2), .val (.long q3), .second, .val (.ref a442), .val (.int vl), .val (.int ch446), .val (.int ch448), .val (.int ch450), .val (.int ch452), .val (.int ch454), .val (.int ch456), .val (.int vc6), .unset, .unset] [(.ref b655)])) _
            refine XS.astore X723.here hx rfl (hb hby at_207) rfl rfl (l' := #[.val (.int p1), .val (.int p2), .val (.long q3), .second, .val (.ref a442), .val (.int vl), .val (.int ch446), .val (.int ch448), .val (.int ch450), .val (.int ch452), .val (.int ch454), .val (.int ch456), .val (.int vc6), .val (.ref b655), .unset]) rfl ?_
            show Steps p.tables e below (T723.setTop (mkF m 209 #[.val (.int p1), .val (.int p2), .val (.long q3), .second, .val (.ref a442), .val (.int vl), .val (.int ch446), .val (.int ch448), .val (.int ch450), .val (.int ch452), .val (.int ch454), .val (.int ch456), .val (.int vc6), .val (.ref b655), .unset] [])) _
            refine XS.goto X723.here hx rfl (pc0 := 209) (pc' := 261) rfl (hb hby at_209) (by decide) (by decide) ?_
            show Steps p.tables e below (T723.setTop (mkF m 261 #[.val (.int p1), .val (.int p2), .val (.long q3), .second, .val (.ref a442), .val (.int vl), .val (.int ch446), .val (.int ch448), .val (.int ch450), .val (.int ch452), .val (.int ch454), .val (.int ch456), .val (.int vc6), .val (.ref b655), .unset] [])) _
            refine XS.aload X723.here hx rfl (hb hby at_261) rfl rfl ?_
            exact kk)
          have Xb731 : Stand p l e room_1 (s.setVm T442.vm) m #[(.int p1), (.int p2), (.long q3)] below meth c T723 _ _ _ := X723
          obtain ⟨a730, T730, h730, kn730, b730, kc730, X730, e730, E730, hS730, hk730, hZ730, hown730, xe730, xc730, xv730, V730, -, -, Cn730, lit730, nsf730, st730⟩ := ldcCH (s := s) (vm0 := T442.vm) Xb731 hx hZ442 hown442 (hw _ (List.mem_of_getElem? (i := 0) rfl)) wS0 rfl hS442 hku723 (EW.cons (hw _ (List.mem_of_getElem? (i := 60) rfl)) (by decide) (EW.cons (hw _ (List.mem_of_getElem? (i := 0) rfl)) (by decide) (EW.cons (hw _ (List.mem_of_getElem? (i := 50) rfl)) (by decide) EW.nil))) (List.mem_of_getElem? (i := 1) rfl) C723.1 (vs := [(.int (108 : Int32)), (.int (105 : Int32)), (.int (115 : Int32)), (.int (116 : Int32)), (.int (101 : Int32)), (.int (100 : Int32))]) (z := 6) ⟨by decide, by decide⟩ (by decide) rfl (g := (mkF m 263 #[.val (.int p1), .val (.int p2), .val (.long q3), .second, .val (.ref a442), .val (.int vl), .val (.int ch446), .val (.int ch448), .val (.int ch450), .val (.int ch452), .val (.int ch454), .val (.int ch456), .val (.int vc6), .val (.ref b655), .unset] [(.ref b655)])) rfl (hb hby at_263) (n := 24) (by decide) (by decide) (by decide) (by decide)
          have sf730_b655 := CHr.safe Cn730 x723_e.lt sf723_b655
          have sf730_b661 := CHr.safe Cn730 f728.lt sf723_b661
          have C730 := C723.trans Cn730
          have f732 := f724.ext E730
          have f733 := f725.ext E730
          have f734 := f726.ext E730
          have f735 := f727.ext E730
          have f736 := f728.ext E730
          have f737 := x723_e.ext E730
          have f738 := x723_c.ext E730
          have f739 := x723_v.ext E730
          have f740 := x723_a.ext E730
          have K730 := (K723).ext E730
          have Zs730 : n0 ≤ h730.size := Nat.le_trans Zs723 E730.1
          have k730 : Go p e below (s₁.setTop (entryFrame m #[(.int p1), (.int p2), (.long q3)] maxLocals)) (T730.setTop (mkF m 265 #[.val (.int p1), .val (.int p2), .val (.long q3), .second, .val (.ref a442), .val (.int vl), .val (.int ch446), .val (.int ch448), .val (.int ch450), .val (.int ch452), .val (.int ch454), .val (.int ch456), .val (.int vc6), .val (.ref b655), .unset] [(.ref a730), (.ref b655)])) := fun t kk => k729 t (st730 t kk)
          obtain ⟨cq741, kq741, q741a, q741b, q741c⟩ := isOf hZ730 e730 f737
          obtain ⟨_, _, ⟨T741, L741, kx741, nx741⟩, -, X741, ⟨Lc741, hQ741, l741, y741, z741⟩, st741⟩ := X730.virtualBack hx (y := (⟨"java/lang/String", "equals", "(Ljava/lang/Object;)Z"⟩ : MethodName)) (z := (⟨"java/lang/String", "equals", "(Ljava/lang/Object;)Z"⟩ : MethodName)) hown730 (mvT hZ730 (hw _ (List.mem_of_getElem? (i := 51) rfl))) (mvT hZ730 (hw _ (List.mem_of_getElem? (i := 52) rfl))) (notFace_of_selects (args := #[]) (mvT hZ730 (hw _ (List.mem_of_getElem? (i := 54) rfl)))) (mvT hZ730 (hw _ (List.mem_of_getElem? (i := 54) rfl))) (mvT hZ730 (hw _ (List.mem_of_getElem? (i := 53) rfl))) (by decide) (StrChars.Road.eqW (W := 0) hZ730 heq (kI := 4) (hw _ (List.mem_of_getElem? (i := 2) rfl)) f737 f739 f738 f740 hcs723 (own_up _ hps723) (Nat.le_of_ble_eq_true rfl) xe730 xv730 xc730 V730 own_Lc (own_up _ own_Lb) (Nat.le_of_ble_eq_true rfl) (own_stakeep S1 K730) hs1 (by decide) (by decide)) q741a q741c (g := (mkF m 265 #[.val (.int p1), .val (.int p2), .val (.long q3), .second, .val (.ref a442), .val (.int vl), .val (.int ch446), .val (.int ch448), .val (.int ch450), .val (.int ch452), .val (.int ch454), .val (.int ch456), .val (.int vc6), .val (.ref b655), .unset] [(.ref a730), (.ref b655)])) rfl (by rw [hml]; rfl) (Steps.refl _) (argsL := [(.ref a730)]) (rest := []) (lenOf pd_3 rfl) rfl (by show 2 * 0 + _ ≤ _; exact Nat.le_of_eq rfl) (hb hby at_265) (fun _ _ => ⟨rfl, e730, (by decide : 7 + 0 ≤ _), (by decide : 72 + 0 ≤ _)⟩)
          dsimp only [Pt.U, Pt.locs, Pt.cells, Pt.slots] at X741 l741 y741 z741 st741 hQ741
          subst l741 y741 z741
          obtain ⟨hcase741, rfl, e741⟩ := hQ741
          try rw [List.append_nil] at X741
          obtain ⟨vq741, rfl, hvq741⟩ := own_case hcase741
          have k741 : Go p e below (s₁.setTop (entryFrame m #[(.int p1), (.int p2), (.long q3)] maxLocals)) (T741.setTop (mkF m 268 #[.val (.int p1), .val (.int p2), .val (.long q3), .second, .val (.ref a442), .val (.int vl), .val (.int ch446), .val (.int ch448), .val (.int ch450), .val (.int ch452), .val (.int ch454), .val (.int ch456), .val (.int vc6), .val (.ref b655), .unset] [(.int vq741)])) := fun t kk => k730 t (st741.trans kk)
          by_cases hc268_742 : vq741 = (0 : Int32)
          · have k743 : Go p e below (s₁.setTop (entryFrame m #[(.int p1), (.int p2), (.long q3)] maxLocals)) (T741.setTop (mkF m 281 #[.val (.int p1), .val (.int p2), .val (.long q3), .second, .val (.ref a442), .val (.int vl), .val (.int ch446), .val (.int ch448), .val (.int ch450), .val (.int ch452), .val (.int ch454), .val (.int ch456), .val (.int vc6), .val (.ref b655), .unset] [(.ref b655)])) := fun t kk => k741 t (by
              show Steps p.tables e below (T741.setTop (mkF m 268 #[.val (.int p1), .val (.int p2), .val (.long q3), .second, .val (.ref a442), .val (.int vl), .val (.int ch446), .val (.int ch448), .val (.int ch450), .val (.int ch452), .val (.int ch454), .val (.int ch456), .val (.int vc6), .val (.ref b655), .unset] [(.int vq741)])) _
              refine XS.ifYes X741.here hx rfl (pc0 := 268) (pc' := 279) rfl (hb hby at_268) rfl ((if0 _ _).trans (teq hc268_742).1) (by decide) (by decide) ?_
              show Steps p.tables e below (T741.setTop (mkF m 279 #[.val (.int p1), .val (.int p2), .val (.long q3), .second, .val (.ref a442), .val (.int vl), .val (.int ch446), .val (.int ch448), .val (.int ch450), .val (.int ch452), .val (.int ch454), .val (.int ch456), .val (.int vc6), .val (.ref b655), .unset] [])) _
              refine XS.aload X741.here hx rfl (hb hby at_279) rfl rfl ?_
              exact kk)
            have Xb745 : Stand p l e room_1 (s.setVm T730.vm) m #[(.int p1), (.int p2), (.long q3)] below meth c T741 _ _ _ := X741
            obtain ⟨a744, T744, h744, kn744, b744, kc744, X744, e744, E744, hS744, hk744, hZ744, hown744, xe744, xc744, xv744, V744, -, -, Cn744, lit744, nsf744, st744⟩ := ldcCH (s := s) (vm0 := T730.vm) Xb745 hx hZ730 hown730 (hw _ (List.mem_of_getElem? (i := 60) rfl)) wS0 e741 hS730 hk730 (EW.cons (hw _ (List.mem_of_getElem? (i := 60) rfl)) (by decide) (EW.cons (hw _ (List.mem_of_getElem? (i := 0) rfl)) (by decide) (EW.cons (hw _ (List.mem_of_getElem? (i := 50) rfl)) (by decide) EW.nil))) (List.mem_of_getElem? (i := 0) rfl) C730.1 (vs := [(.int (115 : Int32)), (.int (101 : Int32)), (.int (101 : Int32)), (.int (100 : Int32)), (.int (101 : Int32)), (.int (100 : Int32))]) (z := 6) ⟨by decide, by decide⟩ (by decide) rfl (g := (mkF m 281 #[.val (.int p1), .val (.int p2), .val (.long q3), .second, .val (.ref a442), .val (.int vl), .val (.int ch446), .val (.int ch448), .val (.int ch450), .val (.int ch452), .val (.int ch454), .val (.int ch456), .val (.int vc6), .val (.ref b655), .unset] [(.ref b655)])) rfl (hb hby at_281) (n := 24) (by decide) (by decide) (by decide) (by decide)
            have sf744_b655 := CHr.safe Cn744 f737.lt sf730_b655
            have sf744_b661 := CHr.safe Cn744 f736.lt sf730_b661
            have C744 := C730.trans Cn744
            have f746 := f732.ext E744
            have f747 := f733.ext E744
            have f748 := f734.ext E744
            have f749 := f735.ext E744
            have f750 := f736.ext E744
            have f751 := f737.ext E744
            have f752 := f738.ext E744
            have f753 := f739.ext E744
            have f754 := f740.ext E744
            have f755 := xe730.ext E744
            have f756 := xc730.ext E744
            have f757 := xv730.ext E744
            have f758 := V730.ext E744
            have K744 := (K730).ext E744
            have Zs744 : n0 ≤ h744.size := Nat.le_trans Zs730 E744.1
            have k744 : Go p e below (s₁.setTop (entryFrame m #[(.int p1), (.int p2), (.long q3)] maxLocals)) (T744.setTop (mkF m 283 #[.val (.int p1), .val (.int p2), .val (.long q3), .second, .val (.ref a442), .val (.int vl), .val (.int ch446), .val (.int ch448), .val (.int ch450), .val (.int ch452), .val (.int ch454), .val (.int ch456), .val (.int vc6), .val (.ref b655), .unset] [(.ref a744), (.ref b655)])) := fun t kk => k743 t (st744 t kk)
            obtain ⟨cq759, kq759, q759a, q759b, q759c⟩ := isOf hZ744 e744 f751
            obtain ⟨_, _, ⟨T759, L759, kx759, nx759⟩, -, X759, ⟨Lc759, hQ759, l759, y759, z759⟩, st759⟩ := X744.virtualBack hx (y := (⟨"java/lang/String", "equals", "(Ljava/lang/Object;)Z"⟩ : MethodName)) (z := (⟨"java/lang/String", "equals", "(Ljava/lang/Object;)Z"⟩ : MethodName)) hown744 (mvT hZ744 (hw _ (List.mem_of_getElem? (i := 51) rfl))) (mvT hZ744 (hw _ (List.mem_of_getElem? (i := 52) rfl))) (notFace_of_selects (args := #[]) (mvT hZ744 (hw _ (List.mem_of_getElem? (i := 54) rfl)))) (mvT hZ744 (hw _ (List.mem_of_getElem? (i := 54) rfl))) (mvT hZ744 (hw _ (List.mem_of_getElem? (i := 53) rfl))) (by decide) (StrChars.Road.eqW (W := 0) hZ744 heq (kI := 4) (hw _ (List.mem_of_getElem? (i := 2) rfl)) f751 f753 f752 f754 hcs723 (own_up _ hps723) (Nat.le_of_ble_eq_true rfl) xe744 xv744 xc744 V744 own_Sc (own_up _ own_Sb) (Nat.le_of_ble_eq_true rfl) (own_stakeep S1 K744) hs1 (by decide) (by decide)) q759a q759c (g := (mkF m 283 #[.val (.int p1), .val (.int p2), .val (.long q3), .second, .val (.ref a442), .val (.int vl), .val (.int ch446), .val (.int ch448), .val (.int ch450), .val (.int ch452), .val (.int ch454), .val (.int ch456), .val (.int vc6), .val (.ref b655), .unset] [(.ref a744), (.ref b655)])) rfl (by rw [hml]; rfl) (Steps.refl _) (argsL := [(.ref a744)]) (rest := []) (lenOf pd_3 rfl) rfl (by show 2 * 0 + _ ≤ _; exact Nat.le_of_eq rfl) (hb hby at_283) (fun _ _ => ⟨rfl, e744, (by decide : 9 + 0 ≤ _), (by decide : 100 + 0 ≤ _)⟩)
            dsimp only [Pt.U, Pt.locs, Pt.cells, Pt.slots] at X759 l759 y759 z759 st759 hQ759
            subst l759 y759 z759
            obtain ⟨hcase759, rfl, e759⟩ := hQ759
            try rw [List.append_nil] at X759
            obtain ⟨vq759, rfl, hvq759⟩ := own_case hcase759
            have k759 : Go p e below (s₁.setTop (entryFrame m #[(.int p1), (.int p2), (.long q3)] maxLocals)) (T759.setTop (mkF m 286 #[.val (.int p1), .val (.int p2), .val (.long q3), .second, .val (.ref a442), .val (.int vl), .val (.int ch446), .val (.int ch448), .val (.int ch450), .val (.int ch452), .val (.int ch454), .val (.int ch456), .val (.int vc6), .val (.ref b655), .unset] [(.int vq759)])) := fun t kk => k744 t (st759.trans kk)
            by_cases hc286_760 : vq759 = (0 : Int32)
            · have k761 : Go p e below (s₁.setTop (entryFrame m #[(.int p1), (.int p2), (.long q3)] maxLocals)) (T759.setTop (mkF m 302 #[.val (.int p1), .val (.int p2), .val (.long q3), .second, .val (.ref a442), .val (.int vl), .val (.int ch446), .val (.int ch448), .val (.int ch450), .val (.int ch452), .val (.int ch454), .val (.int ch456), .val (.int vc6), .val (.ref b655), .val .null] [(.ref b655)])) := fun t kk => k759 t (by
                show Steps p.tables e below (T759.setTop (mkF m 286 #[.val (.int p1), .val (.int p2), .val (.long q3), .second, .val (.ref a442), .val (.int vl), .val (.int ch446), .val (.int ch448), .val (.int ch450), .val (.int ch452), .val (.int ch454), .val (.int ch456), .val (.int vc6), .val (.ref b655), .unset] [(.int vq759)])) _
                refine XS.ifYes X759.here hx rfl (pc0 := 286) (pc' := 297) rfl (hb hby at_286) rfl ((if0 _ _).trans (teq hc286_760).1) (by decide) (by decide) ?_
                show Steps p.tables e below (T759.setTop (mkF m 297 #[.val (.int p1), .val (.int p2), .val (.long q3), .second, .val (.ref a442), .val (.int vl), .val (.int ch446), .val (.int ch448), .val (.int ch450), .val (.int ch452), .val (.int ch454), .val (.int ch456), .val (.int vc6), .val (.ref b655), .unset] [])) _
                refine XS.aconstNull X759.here hx rfl (hb hby at_297) ?_
                show Steps p.tables e below (T759.setTop (mkF m 298 #[.val (.int p1), .val (.int p2), .val (.long q3), .second, .val (.ref a442), .val (.int vl), .val (.int ch446), .val (.int ch448), .val (.int ch450), .val (.int ch452), .val (.int ch454), .val (.int ch456), .val (.int vc6), .val (.ref b655), .unset] [.null])) _
                refine XS.astore X759.here hx rfl (hb hby at_298) rfl rfl (l' := #[.val (.int p1), .val (.int p2), .val (.long q3), .second, .val (.ref a442), .val (.int vl), .val (.int ch446), .val (.int ch448), .val (.int ch450), .val (.int ch452), .val (.int ch454), .val (.int ch456), .val (.int vc6), .val (.ref b655), .val .null]) rfl ?_
                show Steps p.tables e below (T759.setTop (mkF m 300 #[.val (.int p1), .val (.int p2), .val (.long q3), .second, .val (.ref a442), .val (.int vl), .val (.int ch446), .val (.int ch448), .val (.int ch450), .val (.int ch452), .val (.int ch454), .val (.int ch456), .val (.int vc6), .val (.ref b655), .val .null] [])) _
                refine XS.aload X759.here hx rfl (hb hby at_300) rfl rfl ?_
                exact kk)
              obtain ⟨_, _, ⟨T762, L762, kx762, nx762⟩, -, X762, ⟨Lc762, hQ762, l762, y762, z762⟩, st762⟩ := Jvm.LawKit.callS X759 hx (y := (⟨"com/example/tabularium/tabularium/record/Deal", "named", "(Ljava/lang/String;)Lcom/example/tabularium/tabularium/record/Deal;"⟩ : MethodName)) hown744 (mvT hZ744 (hw _ (List.mem_of_getElem? (i := 61) rfl))) (mvT hZ744 (hw _ (List.mem_of_getElem? (i := 62) rfl))) (mvT hZ744 (hw _ (List.mem_of_getElem? (i := 63) rfl))) (mvT hZ744 (hw _ (List.mem_of_getElem? (i := 64) rfl))) (by decide) (backOf (W := 0) (rmD l Z a0 hw [] b655 a__VALUES kV a_LISTED a_SEEDED s_LISTED t_LISTED kL s_SEEDED t_SEEDED kS (([ch446, ch448, ch450, ch452, ch454, ch456] : List Int32).map (nar .char)) t723 kb723 (6 : Int32) _ cs h744 n0 Zs744 (own_stakeep SV K744) (PAV.keep K744 nin0) (PEV.keep K744) (f_LISTED.keep K744 nin0) (es_LISTED.keep K744) (cs_LISTED.keep K744 nin0) (vs_LISTED.keep K744 nin0) (as_LISTED.keep K744 nin0) (f_SEEDED.keep K744 nin0) (es_SEEDED.keep K744) (cs_SEEDED.keep K744 nin0) (vs_SEEDED.keep K744 nin0) (as_SEEDED.keep K744 nin0) f751 f753 f752 f754 hcs723 (own_up _ hps723) (Nat.le_of_ble_eq_true rfl) (own_stakeep S1 K744) hs1) hZ744 (hw _ (List.mem_of_getElem? (i := 64) rfl)) (hw _ (List.mem_of_getElem? (i := 63) rfl)) (by decide) (by decide)) (g := (mkF m 302 #[.val (.int p1), .val (.int p2), .val (.long q3), .second, .val (.ref a442), .val (.int vl), .val (.int ch446), .val (.int ch448), .val (.int ch450), .val (.int ch452), .val (.int ch454), .val (.int ch456), .val (.int vc6), .val (.ref b655), .val .null] [(.ref b655)])) rfl (by rw [hml]; rfl) (argsL := [(.ref b655)]) (rest := []) (lenOf pd_6 rfl) rfl (by show 2 * 0 + _ ≤ _; exact Nat.le_of_eq rfl) (hb hby at_302) (fun _ _ => ⟨rfl, e759, (by decide : 9 + 1 ≤ _), (by decide : 100 + 2 ≤ _)⟩)
              dsimp only [Pt.U, Pt.locs, Pt.cells, Pt.slots] at X762 l762 y762 z762 st762 hQ762
              subst l762 y762 z762
              obtain ⟨hv762, N762q, K762q⟩ := hQ762
              rw [show own_named (([ch446, ch448, ch450, ch452, ch454, ch456] : List Int32).map (nar .char)) a_LISTED a_SEEDED = .null from (by unfold own_named; rw [if_neg (fun q => own_no hvq741 hc268_742 q.symm), if_neg (fun q => own_no hvq759 hc286_760 q.symm)])] at hv762
              subst hv762
              have N762 := Fr.app N723 N762q
              have hku762 := Nat.le_trans hk744 K762q.1
              have K762 := (K744).trans K762q all0
              have Zs762 : n0 ≤ T762.heap.size := Nat.le_trans Zs744 K762q.1
              have k762 : Go p e below (s₁.setTop (entryFrame m #[(.int p1), (.int p2), (.long q3)] maxLocals)) (T762.setTop (mkF m 305 #[.val (.int p1), .val (.int p2), .val (.long q3), .second, .val (.ref a442), .val (.int vl), .val (.int ch446), .val (.int ch448), .val (.int ch450), .val (.int ch452), .val (.int ch454), .val (.int ch456), .val (.int vc6), .val (.ref b655), .val .null] [.null])) := fun t kk => k761 t (st762 t kk)
              have k763 : Go p e below (s₁.setTop (entryFrame m #[(.int p1), (.int p2), (.long q3)] maxLocals)) (T762.setTop (mkF m 315 #[.val (.int p1), .val (.int p2), .val (.long q3), .second, .val (.ref a442), .val (.int vl), .val (.int ch446), .val (.int ch448), .val (.int ch450), .val (.int ch452), .val (.int ch454), .val (.int ch456), .val (.int vc6), .val (.ref b655), .val .null] [(.int (1 : Int32))])) := fun t kk => k762 t (by
                show Steps p.tables e below (T762.setTop (mkF m 305 #[.val (.int p1), .val (.int p2), .val (.long q3), .second, .val (.ref a442), .val (.int vl), .val (.int ch446), .val (.int ch448), .val (.int ch450), .val (.int ch452), .val (.int ch454), .val (.int ch456), .val (.int vc6), .val (.ref b655), .val .null] [.null])) _
                refine XS.aload X762.here hx rfl (hb hby at_305) rfl rfl ?_
                show Steps p.tables e below (T762.setTop (mkF m 307 #[.val (.int p1), .val (.int p2), .val (.long q3), .second, .val (.ref a442), .val (.int vl), .val (.int ch446), .val (.int ch448), .val (.int ch450), .val (.int ch452), .val (.int ch454), .val (.int ch456), .val (.int vc6), .val (.ref b655), .val .null] [.null, .null])) _
                refine Jvm.RoadKit.acmp (g := (mkF m 307 #[.val (.int p1), .val (.int p2), .val (.long q3), .second, .val (.ref a442), .val (.int vl), .val (.int ch446), .val (.int ch448), .val (.int ch450), .val (.int ch452), .val (.int ch454), .val (.int ch456), .val (.int vc6), .val (.ref b655), .val .null] [.null, .null])) X762 hx rfl rfl rfl (pc0 := 307) (pc' := 310) (same := true) rfl (hb hby at_307) rfl (decide_eq_true (rfl : Value.null = Value.null)) (by decide) (by decide) ?_
                show Steps p.tables e below (T762.setTop (mkF m 310 #[.val (.int p1), .val (.int p2), .val (.long q3), .second, .val (.ref a442), .val (.int vl), .val (.int ch446), .val (.int ch448), .val (.int ch450), .val (.int ch452), .val (.int ch454), .val (.int ch456), .val (.int vc6), .val (.ref b655), .val .null] [])) _
                refine XS.iconst X762.here hx rfl (hb hby at_310) ?_
                show Steps p.tables e below (T762.setTop (mkF m 311 #[.val (.int p1), .val (.int p2), .val (.long q3), .second, .val (.ref a442), .val (.int vl), .val (.int ch446), .val (.int ch448), .val (.int ch450), .val (.int ch452), .val (.int ch454), .val (.int ch456), .val (.int vc6), .val (.ref b655), .val .null] [(.int (1 : Int32))])) _
                refine XS.goto X762.here hx rfl (pc0 := 311) (pc' := 315) rfl (hb hby at_311) (by decide) (by decide) ?_
                exact kk)
              have Xb765 : Stand p l e room_1 (s.setVm T744.vm) m #[(.int p1), (.int p2), (.long q3)] below meth c T762 _ _ _ := X762
              obtain ⟨fs, hr, hrun, hended, hW⟩ := leaveW Xb765 hS744 hku762 (v := some (.int (1 : Int32))) (fun h => by rw [Bd.returns] at h; cases h)
              refine ⟨_, _, k763 _ ?_, hrun, hended, _, _, rfl, ?_, hW.1, hW.2.1, hW.2.2.1, hW.2.2.2.mono (by decide) (by decide)⟩
              · show Steps p.tables e below (T762.setTop (mkF m 315 #[.val (.int p1), .val (.int p2), .val (.long q3), .second, .val (.ref a442), .val (.int vl), .val (.int ch446), .val (.int ch448), .val (.int ch450), .val (.int ch452), .val (.int ch454), .val (.int ch456), .val (.int vc6), .val (.ref b655), .val .null] [(.int (1 : Int32))])) _
                exact retN X762 hx (t := .boolean) Bd.returns (by simp) (hb hby at_315) hr
              · show Q0 Z p1 p2 q3 a__VALUES kV a_LISTED a_SEEDED s_LISTED t_LISTED kL s_SEEDED t_SEEDED kS cs fm h0 n0 _ T762.heap _
                exact ⟨rfl, N762⟩
            · have k766 : Go p e below (s₁.setTop (entryFrame m #[(.int p1), (.int p2), (.long q3)] maxLocals)) (T759.setTop (mkF m 289 #[.val (.int p1), .val (.int p2), .val (.long q3), .second, .val (.ref a442), .val (.int vl), .val (.int ch446), .val (.int ch448), .val (.int ch450), .val (.int ch452), .val (.int ch454), .val (.int ch456), .val (.int vc6), .val (.ref b655), .unset] [])) := fun t kk => k759 t (by
                show Steps p.tables e below (T759.setTop (mkF m 286 #[.val (.int p1), .val (.int p2), .val (.long q3), .second, .val (.ref a442), .val (.int vl), .val (.int ch446), .val (.int ch448), .val (.int ch450), .val (.int ch452), .val (.int ch454), .val (.int ch456), .val (.int vc6), .val (.ref b655), .unset] [(.int vq759)])) _
                refine XS.ifNo X759.here hx rfl (hb hby at_286) rfl ((if0 _ _).trans (feq hc286_760).1) ?_
                exact kk)
              obtain ⟨T767, X767, e767, st767⟩ := getS2 X759 hx hZ744 hown744 (host := "") (Or.inl (hw _ (List.mem_of_getElem? (i := 96) rfl))) Via.refl e759 (own_stakeep S_SEEDED K744) (g := (mkF m 289 #[.val (.int p1), .val (.int p2), .val (.long q3), .second, .val (.ref a442), .val (.int vl), .val (.int ch446), .val (.int ch448), .val (.int ch450), .val (.int ch452), .val (.int ch454), .val (.int ch456), .val (.int vc6), .val (.ref b655), .unset] [])) rfl (hb hby at_289)
              have k767 : Go p e below (s₁.setTop (entryFrame m #[(.int p1), (.int p2), (.long q3)] maxLocals)) (T767.setTop (mkF m 292 #[.val (.int p1), .val (.int p2), .val (.long q3), .second, .val (.ref a442), .val (.int vl), .val (.int ch446), .val (.int ch448), .val (.int ch450), .val (.int ch452), .val (.int ch454), .val (.int ch456), .val (.int vc6), .val (.ref b655), .unset] [(.ref a_SEEDED)])) := fun t kk => k766 t (st767 t kk)
              have k768 : Go p e below (s₁.setTop (entryFrame m #[(.int p1), (.int p2), (.long q3)] maxLocals)) (T767.setTop (mkF m 302 #[.val (.int p1), .val (.int p2), .val (.long q3), .second, .val (.ref a442), .val (.int vl), .val (.int ch446), .val (.int ch448), .val (.int ch450), .val (.int ch452), .val (.int ch454), .val (.int ch456), .val (.int vc6), .val (.ref b655), .val (.ref a_SEEDED)] [(.ref b655)])) := fun t kk => k767 t (by
                show Steps p.tables e below (T767.setTop (mkF m 292 #[.val (.int p1), .val (.int p2), .val (.long q3), .second, .val (.ref a442), .val (.int vl), .val (.int ch446), .val (.int ch448), .val (.int ch450), .val (.int ch452), .val (.int ch454), .val (.int ch456), .val (.int vc6), .val (.ref b655), .unset] [(.ref a_SEEDED)])) _
                refine XS.astore X767.here hx rfl (hb hby at_292) rfl rfl (l' := #[.val (.int p1), .val (.int p2), .val (.long q3), .second, .val (.ref a442), .val (.int vl), .val (.int ch446), .val (.int ch448), .val (.int ch450), .val (.int ch452), .val (.int ch454), .val (.int ch456), .val (.int vc6), .val (.ref b655), .val (.ref a_SEEDED)]) rfl ?_
                show Steps p.tables e below (T767.setTop (mkF m 294 #[.val (.int p1), .val (.int p2), .val (.long q3), .second, .val (.ref a442), .val (.int vl), .val (.int ch446), .val (.int ch448), .val (.int ch450), .val (.int ch452), .val (.int ch454), .val (.int ch456), .val (.int vc6), .val (.ref b655), .val (.ref a_SEEDED)] [])) _
                refine XS.goto X767.here hx rfl (pc0 := 294) (pc' := 300) rfl (hb hby at_294) (by decide) (by decide) ?_
                show Steps p.tables e below (T767.setTop (mkF m 300 #[.val (.int p1), .val (.int p2), .val (.long q3), .second, .val (.ref a442), .val (.int vl), .val (.int ch446), .val (.int ch448), .val (.int ch450), .val (.int ch452), .val (.int ch454), .val (.int ch456), .val (.int vc6), .val (.ref b655), .val (.ref a_SEEDED)] [])) _
                refine XS.aload X767.here hx rfl (hb hby at_300) rfl rfl ?_
                exact kk)
              obtain ⟨_, _, ⟨T769, L769, kx769, nx769⟩, -, X769, ⟨Lc769, hQ769, l769, y769, z769⟩, st769⟩ := Jvm.LawKit.callS X767 hx (y := (⟨"com/example/tabularium/tabularium/record/Deal", "named", "(Ljava/lang/String;)Lcom/example/tabularium/tabularium/record/Deal;"⟩ : MethodName)) hown744 (mvT hZ744 (hw _ (List.mem_of_getElem? (i := 61) rfl))) (mvT hZ744 (hw _ (List.mem_of_getElem? (i := 62) rfl))) (mvT hZ744 (hw _ (List.mem_of_getElem? (i := 63) rfl))) (mvT hZ744 (hw _ (List.mem_of_getElem? (i := 64) rfl))) (by decide) (backOf (W := 0) (rmD l Z a0 hw [] b655 a__VALUES kV a_LISTED a_SEEDED s_LISTED t_LISTED kL s_SEEDED t_SEEDED kS (([ch446, ch448, ch450, ch452, ch454, ch456] : List Int32).map (nar .char)) t723 kb723 (6 : Int32) _ cs h744 n0 Zs744 (own_stakeep SV K744) (PAV.keep K744 nin0) (PEV.keep K744) (f_LISTED.keep K744 nin0) (es_LISTED.keep K744) (cs_LISTED.keep K744 nin0) (vs_LISTED.keep K744 nin0) (as_LISTED.keep K744 nin0) (f_SEEDED.keep K744 nin0) (es_SEEDED.keep K744) (cs_SEEDED.keep K744 nin0) (vs_SEEDED.keep K744 nin0) (as_SEEDED.keep K744 nin0) f751 f753 f752 f754 hcs723 (own_up _ hps723) (Nat.le_of_ble_eq_true rfl) (own_stakeep S1 K744) hs1) hZ744 (hw _ (List.mem_of_getElem? (i := 64) rfl)) (hw _ (List.mem_of_getElem? (i := 63) rfl)) (by decide) (by decide)) (g := (mkF m 302 #[.val (.int p1), .val (.int p2), .val (.long q3), .second, .val (.ref a442), .val (.int vl), .val (.int ch446), .val (.int ch448), .val (.int ch450), .val (.int ch452), .val (.int ch454), .val (.int ch456), .val (.int vc6), .val (.ref b655), .val (.ref a_SEEDED)] [(.ref b655)])) rfl (by rw [hml]; rfl) (argsL := [(.ref b655)]) (rest := []) (lenOf pd_6 rfl) rfl (by show 2 * 0 + _ ≤ _; exact Nat.le_of_eq rfl) (hb hby at_302) (fun _ _ => ⟨rfl, e767, (by decide : 9 + 1 ≤ _), (by decide : 100 + 2 ≤ _)⟩)
              dsimp only [Pt.U, Pt.locs, Pt.cells, Pt.slots] at X769 l769 y769 z769 st769 hQ769
              subst l769 y769 z769
              obtain ⟨hv769, N769q, K769q⟩ := hQ769
              rw [show own_named (([ch446, ch448, ch450, ch452, ch454, ch456] : List Int32).map (nar .char)) a_LISTED a_SEEDED = .ref a_SEEDED from (by unfold own_named; rw [if_neg (fun q => own_no hvq741 hc268_742 q.symm), if_pos (own_yes hvq759 hc286_760).symm])] at hv769
              subst hv769
              have N769 := Fr.app N723 N769q
              have hku769 := Nat.le_trans hk744 K769q.1
              have K769 := (K744).trans K769q all0
              have Zs769 : n0 ≤ T769.heap.size := Nat.le_trans Zs744 K769q.1
              have k769 : Go p e below (s₁.setTop (entryFrame m #[(.int p1), (.int p2), (.long q3)] maxLocals)) (T769.setTop (mkF m 305 #[.val (.int p1), .val (.int p2), .val (.long q3), .second, .val (.ref a442), .val (.int vl), .val (.int ch446), .val (.int ch448), .val (.int ch450), .val (.int ch452), .val (.int ch454), .val (.int ch456), .val (.int vc6), .val (.ref b655), .val (.ref a_SEEDED)] [(.ref a_SEEDED)])) := fun t kk => k768 t (st769 t kk)
              have k770 : Go p e below (s₁.setTop (entryFrame m #[(.int p1), (.int p2), (.long q3)] maxLocals)) (T769.setTop (mkF m 315 #[.val (.int p1), .val (.int p2), .val (.long q3), .second, .val (.ref a442), .val (.int vl), .val (.int ch446), .val (.int ch448), .val (.int ch450), .val (.int ch452), .val (.int ch454), .val (.int ch456), .val (.int vc6), .val (.ref b655), .val (.ref a_SEEDED)] [(.int (1 : Int32))])) := fun t kk => k769 t (by
                show Steps p.tables e below (T769.setTop (mkF m 305 #[.val (.int p1), .val (.int p2), .val (.long q3), .second, .val (.ref a442), .val (.int vl), .val (.int ch446), .val (.int ch448), .val (.int ch450), .val (.int ch452), .val (.int ch454), .val (.int ch456), .val (.int vc6), .val (.ref b655), .val (.ref a_SEEDED)] [(.ref a_SEEDED)])) _
                refine XS.aload X769.here hx rfl (hb hby at_305) rfl rfl ?_
                show Steps p.tables e below (T769.setTop (mkF m 307 #[.val (.int p1), .val (.int p2), .val (.long q3), .second, .val (.ref a442), .val (.int vl), .val (.int ch446), .val (.int ch448), .val (.int ch450), .val (.int ch452), .val (.int ch454), .val (.int ch456), .val (.int vc6), .val (.ref b655), .val (.ref a_SEEDED)] [(.ref a_SEEDED), (.ref a_SEEDED)])) _
                refine Jvm.RoadKit.acmp (g := (mkF m 307 #[.val (.int p1), .val (.int p2), .val (.long q3), .second, .val (.ref a442), .val (.int vl), .val (.int ch446), .val (.int ch448), .val (.int ch450), .val (.int ch452), .val (.int ch454), .val (.int ch456), .val (.int vc6), .val (.ref b655), .val (.ref a_SEEDED)] [(.ref a_SEEDED), (.ref a_SEEDED)])) X769 hx rfl rfl rfl (pc0 := 307) (pc' := 310) (same := true) rfl (hb hby at_307) rfl (decide_eq_true (rfl : (Value.ref a_SEEDED) = (Value.ref a_SEEDED))) (by decide) (by decide) ?_
                show Steps p.tables e below (T769.setTop (mkF m 310 #[.val (.int p1), .val (.int p2), .val (.long q3), .second, .val (.ref a442), .val (.int vl), .val (.int ch446), .val (.int ch448), .val (.int ch450), .val (.int ch452), .val (.int ch454), .val (.int ch456), .val (.int vc6), .val (.ref b655), .val (.ref a_SEEDED)] [])) _
                refine XS.iconst X769.here hx rfl (hb hby at_310) ?_
                show Steps p.tables e below (T769.setTop (mkF m 311 #[.val (.int p1), .val (.int p2), .val (.long q3), .second, .val (.ref a442), .val (.int vl), .val (.int ch446), .val (.int ch448), .val (.int ch450), .val (.int ch452), .val (.int ch454), .val (.int ch456), .val (.int vc6), .val (.ref b655), .val (.ref a_SEEDED)] [(.int (1 : Int32))])) _
                refine XS.goto X769.here hx rfl (pc0 := 311) (pc' := 315) rfl (hb hby at_311) (by decide) (by decide) ?_
                exact kk)
              have Xb772 : Stand p l e room_1 (s.setVm T744.vm) m #[(.int p1), (.int p2), (.long q3)] below meth c T769 _ _ _ := X769
              obtain ⟨fs, hr, hrun, hended, hW⟩ := leaveW Xb772 hS744 hku769 (v := some (.int (1 : Int32))) (fun h => by rw [Bd.returns] at h; cases h)
              refine ⟨_, _, k770 _ ?_, hrun, hended, _, _, rfl, ?_, hW.1, hW.2.1, hW.2.2.1, hW.2.2.2.mono (by decide) (by decide)⟩
              · show Steps p.tables e below (T769.setTop (mkF m 315 #[.val (.int p1), .val (.int p2), .val (.long q3), .second, .val (.ref a442), .val (.int vl), .val (.int ch446), .val (.int ch448), .val (.int ch450), .val (.int ch452), .val (.int ch454), .val (.int ch456), .val (.int vc6), .val (.ref b655), .val (.ref a_SEEDED)] [(.int (1 : Int32))])) _
                exact retN X769 hx (t := .boolean) Bd.returns (by simp) (hb hby at_315) hr
              · show Q0 Z p1 p2 q3 a__VALUES kV a_LISTED a_SEEDED s_LISTED t_LISTED kL s_SEEDED t_SEEDED kS cs fm h0 n0 _ T769.heap _
                exact ⟨rfl, N769⟩
          · have k773 : Go p e below (s₁.setTop (entryFrame m #[(.int p1), (.int p2), (.long q3)] maxLocals)) (T741.setTop (mkF m 271 #[.val (.int p1), .val (.int p2), .val (.long q3), .second, .val (.ref a442), .val (.int vl), .val (.int ch446), .val (.int ch448), .val (.int ch450), .val (.int ch452), .val (.int ch454), .val (.int ch456), .val (.int vc6), .val (.ref b655), .unset] [])) := fun t kk => k741 t (by
              show Steps p.tables e below (T741.setTop (mkF m 268 #[.val (.int p1), .val (.int p2), .val (.long q3), .second, .val (.ref a442), .val (.int vl), .val (.int ch446), .val (.int ch448), .val (.int ch450), .val (.int ch452), .val (.int ch454), .val (.int ch456), .val (.int vc6), .val (.ref b655), .unset] [(.int vq741)])) _
              refine XS.ifNo X741.here hx rfl (hb hby at_268) rfl ((if0 _ _).trans (feq hc268_742).1) ?_
              exact kk)
            obtain ⟨T774, X774, e774, st774⟩ := getS2 X741 hx hZ730 hown730 (host := "") (Or.inl (hw _ (List.mem_of_getElem? (i := 95) rfl))) Via.refl e741 (own_stakeep S_LISTED K730) (g := (mkF m 271 #[.val (.int p1), .val (.int p2), .val (.long q3), .second, .val (.ref a442), .val (.int vl), .val (.int ch446), .val (.int ch448), .val (.int ch450), .val (.int ch452), .val (.int ch454), .val (.int ch456), .val (.int vc6), .val (.ref b655), .unset] [])) rfl (hb hby at_271)
            have k774 : Go p e below (s₁.setTop (entryFrame m #[(.int p1), (.int p2), (.long q3)] maxLocals)) (T774.setTop (mkF m 274 #[.val (.int p1), .val (.int p2), .val (.long q3), .second, .val (.ref a442), .val (.int vl), .val (.int ch446), .val (.int ch448), .val (.int ch450), .val (.int ch452), .val (.int ch454), .val (.int ch456), .val (.int vc6), .val (.ref b655), .unset] [(.ref a_LISTED)])) := fun t kk => k773 t (st774 t kk)
            have k775 : Go p e below (s₁.setTop (entryFrame m #[(.int p1), (.int p2), (.long q3)] maxLocals)) (T774.setTop (mkF m 302 #[.val (.int p1), .val (.int p2), .val (.long q3), .second, .val (.ref a442), .val (.int vl), .val (.int ch446), .val (.int ch448), .val (.int ch450), .val (.int ch452), .val (.int ch454), .val (.int ch456), .val (.int vc6), .val (.ref b655), .val (.ref a_LISTED)] [(.ref b655)])) := fun t kk => k774 t (by
              show Steps p.tables e below (T774.setTop (mkF m 274 #[.val (.int p1), .val (.int p2), .val (.long q3), .second, .val (.ref a442), .val (.int vl), .val (.int ch446), .val (.int ch448), .val (.int ch450), .val (.int ch452), .val (.int ch454), .val (.int ch456), .val (.int vc6), .val (.ref b655), .unset] [(.ref a_LISTED)])) _
              refine XS.astore X774.here hx rfl (hb hby at_274) rfl rfl (l' := #[.val (.int p1), .val (.int p2), .val (.long q3), .second, .val (.ref a442), .val (.int vl), .val (.int ch446), .val (.int ch448), .val (.int ch450), .val (.int ch452), .val (.int ch454), .val (.int ch456), .val (.int vc6), .val (.ref b655), .val (.ref a_LISTED)]) rfl ?_
              show Steps p.tables e below (T774.setTop (mkF m 276 #[.val (.int p1), .val (.int p2), .val (.long q3), .second, .val (.ref a442), .val (.int vl), .val (.int ch446), .val (.int ch448), .val (.int ch450), .val (.int ch452), .val (.int ch454), .val (.int ch456), .val (.int vc6), .val (.ref b655), .val (.ref a_LISTED)] [])) _
              refine XS.goto X774.here hx rfl (pc0 := 276) (pc' := 300) rfl (hb hby at_276) (by decide) (by decide) ?_
              show Steps p.tables e below (T774.setTop (mkF m 300 #[.val (.int p1), .val (.int p2), .val (.long q3), .second, .val (.ref a442), .val (.int vl), .val (.int ch446), .val (.int ch448), .val (.int ch450), .val (.int ch452), .val (.int ch454), .val (.int ch456), .val (.int vc6), .val (.ref b655), .val (.ref a_LISTED)] [])) _
              refine XS.aload X774.here hx rfl (hb hby at_300) rfl rfl ?_
              exact kk)
            obtain ⟨_, _, ⟨T776, L776, kx776, nx776⟩, -, X776, ⟨Lc776, hQ776, l776, y776, z776⟩, st776⟩ := Jvm.LawKit.callS X774 hx (y := (⟨"com/example/tabularium/tabularium/record/Deal", "named", "(Ljava/lang/String;)Lcom/example/tabularium/tabularium/record/Deal;"⟩ : MethodName)) hown730 (mvT hZ730 (hw _ (List.mem_of_getElem? (i := 61) rfl))) (mvT hZ730 (hw _ (List.mem_of_getElem? (i := 62) rfl))) (mvT hZ730 (hw _ (List.mem_of_getElem? (i := 63) rfl))) (mvT hZ730 (hw _ (List.mem_of_getElem? (i := 64) rfl))) (by decide) (backOf (W := 0) (rmD l Z a0 hw [] b655 a__VALUES kV a_LISTED a_SEEDED s_LISTED t_LISTED kL s_SEEDED t_SEEDED kS (([ch446, ch448, ch450, ch452, ch454, ch456] : List Int32).map (nar .char)) t723 kb723 (6 : Int32) _ cs h730 n0 Zs730 (own_stakeep SV K730) (PAV.keep K730 nin0) (PEV.keep K730) (f_LISTED.keep K730 nin0) (es_LISTED.keep K730) (cs_LISTED.keep K730 nin0) (vs_LISTED.keep K730 nin0) (as_LISTED.keep K730 nin0) (f_SEEDED.keep K730 nin0) (es_SEEDED.keep K730) (cs_SEEDED.keep K730 nin0) (vs_SEEDED.keep K730 nin0) (as_SEEDED.keep K730 nin0) f737 f739 f738 f740 hcs723 (own_up _ hps723) (Nat.le_of_ble_eq_true rfl) (own_stakeep S1 K730) hs1) hZ730 (hw _ (List.mem_of_getElem? (i := 64) rfl)) (hw _ (List.mem_of_getElem? (i := 63) rfl)) (by decide) (by decide)) (g := (mkF m 302 #[.val (.int p1), .val (.int p2), .val (.long q3), .second, .val (.ref a442), .val (.int vl), .val (.int ch446), .val (.int ch448), .val (.int ch450), .val (.int ch452), .val (.int ch454), .val (.int ch456), .val (.int vc6), .val (.ref b655), .val (.ref a_LISTED)] [(.ref b655)])) rfl (by rw [hml]; rfl) (argsL := [(.ref b655)]) (rest := []) (lenOf pd_6 rfl) rfl (by show 2 * 0 + _ ≤ _; exact Nat.le_of_eq rfl) (hb hby at_302) (fun _ _ => ⟨rfl, e774, (by decide : 7 + 1 ≤ _), (by decide : 72 + 2 ≤ _)⟩)
            dsimp only [Pt.U, Pt.locs, Pt.cells, Pt.slots] at X776 l776 y776 z776 st776 hQ776
            subst l776 y776 z776
            obtain ⟨hv776, N776q, K776q⟩ := hQ776
            rw [show own_named (([ch446, ch448, ch450, ch452, ch454, ch456] : List Int32).map (nar .char)) a_LISTED a_SEEDED = .ref a_LISTED from (by unfold own_named; rw [if_pos (own_yes hvq741 hc268_742).symm])] at hv776
            subst hv776
            have N776 := Fr.app N723 N776q
            have hku776 := Nat.le_trans hk730 K776q.1
            have K776 := (K730).trans K776q all0
            have Zs776 : n0 ≤ T776.heap.size := Nat.le_trans Zs730 K776q.1
            have k776 : Go p e below (s₁.setTop (entryFrame m #[(.int p1), (.int p2), (.long q3)] maxLocals)) (T776.setTop (mkF m 305 #[.val (.int p1), .val (.int p2), .val (.long q3), .second, .val (.ref a442), .val (.int vl), .val (.int ch446), .val (.int ch448), .val (.int ch450), .val (.int ch452), .val (.int ch454), .val (.int ch456), .val (.int vc6), .val (.ref b655), .val (.ref a_LISTED)] [(.ref a_LISTED)])) := fun t kk => k775 t (st776 t kk)
            have k777 : Go p e below (s₁.setTop (entryFrame m #[(.int p1), (.int p2), (.long q3)] maxLocals)) (T776.setTop (mkF m 315 #[.val (.int p1), .val (.int p2), .val (.long q3), .second, .val (.ref a442), .val (.int vl), .val (.int ch446), .val (.int ch448), .val (.int ch450), .val (.int ch452), .val (.int ch454), .val (.int ch456), .val (.int vc6), .val (.ref b655), .val (.ref a_LISTED)] [(.int (1 : Int32))])) := fun t kk => k776 t (by
              show Steps p.tables e below (T776.setTop (mkF m 305 #[.val (.int p1), .val (.int p2), .val (.long q3), .second, .val (.ref a442), .val (.int vl), .val (.int ch446), .val (.int ch448), .val (.int ch450), .val (.int ch452), .val (.int ch454), .val (.int ch456), .val (.int vc6), .val (.ref b655), .val (.ref a_LISTED)] [(.ref a_LISTED)])) _
              refine XS.aload X776.here hx rfl (hb hby at_305) rfl rfl ?_
              show Steps p.tables e below (T776.setTop (mkF m 307 #[.val (.int p1), .val (.int p2), .val (.long q3), .second, .val (.ref a442), .val (.int vl), .val (.int ch446), .val (.int ch448), .val (.int ch450), .val (.int ch452), .val (.int ch454), .val (.int ch456), .val (.int vc6), .val (.ref b655), .val (.ref a_LISTED)] [(.ref a_LISTED), (.ref a_LISTED)])) _
              refine Jvm.RoadKit.acmp (g := (mkF m 307 #[.val (.int p1), .val (.int p2), .val (.long q3), .second, .val (.ref a442), .val (.int vl), .val (.int ch446), .val (.int ch448), .val (.int ch450), .val (.int ch452), .val (.int ch454), .val (.int ch456), .val (.int vc6), .val (.ref b655), .val (.ref a_LISTED)] [(.ref a_LISTED), (.ref a_LISTED)])) X776 hx rfl rfl rfl (pc0 := 307) (pc' := 310) (same := true) rfl (hb hby at_307) rfl (decide_eq_true (rfl : (Value.ref a_LISTED) = (Value.ref a_LISTED))) (by decide) (by decide) ?_
              show Steps p.tables e below (T776.setTop (mkF m 310 #[.val (.int p1), .val (.int p2), .val (.long q3), .second, .val (.ref a442), .val (.int vl), .val (.int ch446), .val (.int ch448), .val (.int ch450), .val (.int ch452), .val (.int ch454), .val (.int ch456), .val (.int vc6), .val (.ref b655), .val (.ref a_LISTED)] [])) _
              refine XS.iconst X776.here hx rfl (hb hby at_310) ?_
              show Steps p.tables e below (T776.setTop (mkF m 311 #[.val (.int p1), .val (.int p2), .val (.long q3), .second, .val (.ref a442), .val (.int vl), .val (.int ch446), .val (.int ch448), .val (.int ch450), .val (.int ch452), .val (.int ch454), .val (.int ch456), .val (.int vc6), .val (.ref b655), .val (.ref a_LISTED)] [(.int (1 : Int32))])) _
              refine XS.goto X776.here hx rfl (pc0 := 311) (pc' := 315) rfl (hb hby at_311) (by decide) (by decide) ?_
              exact kk)
            have Xb779 : Stand p l e room_1 (s.setVm T730.vm) m #[(.int p1), (.int p2), (.long q3)] below meth c T776 _ _ _ := X776
            obtain ⟨fs, hr, hrun, hended, hW⟩ := leaveW Xb779 hS730 hku776 (v := some (.int (1 : Int32))) (fun h => by rw [Bd.returns] at h; cases h)
            refine ⟨_, _, k777 _ ?_, hrun, hended, _, _, rfl, ?_, hW.1, hW.2.1, hW.2.2.1, hW.2.2.2.mono (by decide) (by decide)⟩
            · show Steps p.tables e below (T776.setTop (mkF m 315 #[.val (.int p1), .val (.int p2), .val (.long q3), .second, .val (.ref a442), .val (.int vl), .val (.int ch446), .val (.int ch448), .val (.int ch450), .val (.int ch452), .val (.int ch454), .val (.int ch456), .val (.int vc6), .val (.ref b655), .val (.ref a_LISTED)] [(.int (1 : Int32))])) _
              exact retN X776 hx (t := .boolean) Bd.returns (by simp) (hb hby at_315) hr
            · show Q0 Z p1 p2 q3 a__VALUES kV a_LISTED a_SEEDED s_LISTED t_LISTED kL s_SEEDED t_SEEDED kS cs fm h0 n0 _ T776.heap _
              exact ⟨rfl, N776⟩
        · have k780 : Go p e below (s₁.setTop (entryFrame m #[(.int p1), (.int p2), (.long q3)] maxLocals)) (T456.setTop (mkF m 212 #[.val (.int p1), .val (.int p2), .val (.long q3), .second, .val (.ref a442), .val (.int vl), .val (.int ch446), .val (.int ch448), .val (.int ch450), .val (.int ch452), .val (.int ch454), .val (.int ch456), .val (.int vc6), .unset, .unset] [])) := fun t kk => k652 t (by
            show Steps p.tables e below (T456.setTop (mkF m 163 #[.val (.int p1), .val (.int p2), .val (.long q3), .second, .val (.ref a442), .val (.int vl), .val (.int ch446), .val (.int ch448), .val (.int ch450), .val (.int ch452), .val (.int ch454), .val (.int ch456), .val (.int vc6), .unset, .unset] [(.int (2 : Int32)), (.int vl)])) _
            refine XS.icmpYes X456.here hx rfl (pc0 := 163) (pc' := 212) rfl (hb hby at_163) rfl (feq hc163_653).2 (by decide) (by decide) ?_
            exact kk)
          obtain ⟨T781, h781, X781, e781, E781, A781, D781, -, st781⟩ := newO X456 hx hZ442 hown442 (hw _ (List.mem_of_getElem? (i := 38) rfl)) (hw _ (List.mem_of_getElem? (i := 2) rfl)) (hw _ (List.mem_of_getElem? (i := 1) rfl)) e456 (g := (mkF m 212 #[.val (.int p1), .val (.int p2), .val (.long q3), .second, .val (.ref a442), .val (.int vl), .val (.int ch446), .val (.int ch448), .val (.int ch450), .val (.int ch452), .val (.int ch454), .val (.int ch456), .val (.int vc6), .unset, .unset] [])) rfl (hb hby at_212) (by decide) (by decide)
          obtain ⟨b781, g781⟩ : ∃ z, z = (h442).size := ⟨_, rfl⟩
          rw [← g781] at A781 D781 st781
          have ne_a442_b781 : a442 ≠ b781 := Nat.ne_of_lt (Nat.lt_of_lt_of_le xe442.lt (Nat.le_of_eq g781.symm))
          have ne_b442_b781 : b442 ≠ b781 := Nat.ne_of_lt (Nat.lt_of_lt_of_le V442.lt (Nat.le_of_eq g781.symm))
          have sz_b781 : h0.size ≤ b781 := Nat.le_trans K442.1 (Nat.le_of_eq g781.symm)
          have ge_b781 : n0 ≤ b781 := Nat.le_trans Zs442 (Nat.le_of_eq g781.symm)
          have f782 := xe442.ext E781
          have f783 := xc442.ext E781
          have f784 := xv442.ext E781
          have f785 := V442.ext E781
          have sf781_b781 := Safe.ext E781 C442.1 (Safe.new (x := b781) (Nat.le_of_eq g781.symm))
          have C781 := C442.trans (CHr.ext E781 C442.1)
          have hku781 := Nat.le_trans hk442 E781.1
          have K781 := (K442).ext E781
          have Zs781 : n0 ≤ h781.size := Nat.le_trans Zs442 E781.1
          have F781_value : Fld Z h781 b781 "java/lang/String" "value" "[B" .null := D781 (Or.inr (hw _ (List.mem_of_getElem? (i := 4) rfl))) (ty := (.array .byte)) (by decide)
          have F781_coder : Fld Z h781 b781 "java/lang/String" "coder" "B" (.int (0 : Int32)) := D781 (Or.inr (hw _ (List.mem_of_getElem? (i := 5) rfl))) (ty := .byte) (by decide)
          have k781 : Go p e below (s₁.setTop (entryFrame m #[(.int p1), (.int p2), (.long q3)] maxLocals)) (T781.setTop (mkF m 215 #[.val (.int p1), .val (.int p2), .val (.long q3), .second, .val (.ref a442), .val (.int vl), .val (.int ch446), .val (.int ch448), .val (.int ch450), .val (.int ch452), .val (.int ch454), .val (.int ch456), .val (.int vc6), .unset, .unset] [(.ref b781)])) := fun t kk => k780 t (st781 t kk)
          have k786 : Go p e below (s₁.setTop (entryFrame m #[(.int p1), (.int p2), (.long q3)] maxLocals)) (T781.setTop (mkF m 218 #[.val (.int p1), .val (.int p2), .val (.long q3), .second, .val (.ref a442), .val (.int vl), .val (.int ch446), .val (.int ch448), .val (.int ch450), .val (.int ch452), .val (.int ch454), .val (.int ch456), .val (.int vc6), .unset, .unset] [(.int (7 : Int32)), (.ref b781), (.ref b781)])) := fun t kk => k781 t (by
            show Steps p.tables e below (T781.setTop (mkF m 215 #[.val (.int p1), .val (.int p2), .val (.long q3), .second, .val (.ref a442), .val (.int vl), .val (.int ch446), .val (.int ch448), .val (.int ch450), .val (.int ch452), .val (.int ch454), .val (.int ch456), .val (.int vc6), .unset, .unset] [(.ref b781)])) _
            refine XS.dup X781.here hx rfl (hb hby at_215) rfl rfl ?_
            show Steps p.tables e below (T781.setTop (mkF m 216 #[.val (.int p1), .val (.int p2), .val (.long q3), .second, .val (.ref a442), .val (.int vl), .val (.int ch446), .val (.int ch448), .val (.int ch450), .val (.int ch452), .val (.int ch454), .val (.int ch456), .val (.int vc6), .unset, .unset] [(.ref b781), (.ref b781)])) _
            refine XS.bipush X781.here hx rfl (hb hby at_216) ?_
            exact kk)
          obtain ⟨T787, h787, kc787, X787, e787, E787, A787, st787⟩ := newP X781 hx hZ442 (hw _ (List.mem_of_getElem? (i := 39) rfl)) e781 (g := (mkF m 218 #[.val (.int p1), .val (.int p2), .val (.long q3), .second, .val (.ref a442), .val (.int vl), .val (.int ch446), .val (.int ch448), .val (.int ch450), .val (.int ch452), .val (.int ch454), .val (.int ch456), .val (.int vc6), .unset, .unset] [(.int (7 : Int32)), (.ref b781), (.ref b781)])) rfl (hb hby at_218) rfl (by decide) (cap := 7) (by decide) (by decide) (by decide) (by decide)
          obtain ⟨b787, g787⟩ : ∃ z, z = (h781).size := ⟨_, rfl⟩
          rw [← g787] at A787 st787
          have ne_a442_b787 : a442 ≠ b787 := Nat.ne_of_lt (Nat.lt_of_lt_of_le f782.lt (Nat.le_of_eq g787.symm))
          have ne_b442_b787 : b442 ≠ b787 := Nat.ne_of_lt (Nat.lt_of_lt_of_le f785.lt (Nat.le_of_eq g787.symm))
          have ne_b781_b787 : b781 ≠ b787 := Nat.ne_of_lt (Nat.lt_of_lt_of_le F781_value.lt (Nat.le_of_eq g787.symm))
          have sz_b787 : h0.size ≤ b787 := Nat.le_trans K781.1 (Nat.le_of_eq g787.symm)
          have ge_b787 : n0 ≤ b787 := Nat.le_trans Zs781 (Nat.le_of_eq g787.symm)
          have f788 := f782.ext E787
          have f789 := f783.ext E787
          have f790 := f784.ext E787
          have f791 := f785.ext E787
          have f792 := F781_value.ext E787
          have f793 := F781_coder.ext E787
          have f794 := A781.ext E787
          have sf787_b781 := Safe.ext E787 C781.1 sf781_b781
          have sf787_b787 := Safe.ext E787 C781.1 (Safe.new (x := b787) (Nat.le_of_eq g787.symm))
          have C787 := C781.trans (CHr.ext E787 C781.1)
          have hku787 := Nat.le_trans hku781 E787.1
          have K787 := (K781).ext E787
          have Zs787 : n0 ≤ h787.size := Nat.le_trans Zs781 E787.1
          have V787 : Arv Z h787 b787 kc787 .char (7 : Int32) [(.int (0 : Int32)), (.int (0 : Int32)), (.int (0 : Int32)), (.int (0 : Int32)), (.int (0 : Int32)), (.int (0 : Int32)), (.int (0 : Int32))] (.int (0 : Int32)) := (Arv.new A787 (by decide)).pad (pad_rep [] (.int (0 : Int32)) 7)
          have k787 : Go p e below (s₁.setTop (entryFrame m #[(.int p1), (.int p2), (.long q3)] maxLocals)) (T787.setTop (mkF m 220 #[.val (.int p1), .val (.int p2), .val (.long q3), .second, .val (.ref a442), .val (.int vl), .val (.int ch446), .val (.int ch448), .val (.int ch450), .val (.int ch452), .val (.int ch454), .val (.int ch456), .val (.int vc6), .unset, .unset] [(.ref b787), (.ref b781), (.ref b781)])) := fun t kk => k786 t (st787 t kk)
          have k795 : Go p e below (s₁.setTop (entryFrame m #[(.int p1), (.int p2), (.long q3)] maxLocals)) (T787.setTop (mkF m 224 #[.val (.int p1), .val (.int p2), .val (.long q3), .second, .val (.ref a442), .val (.int vl), .val (.int ch446), .val (.int ch448), .val (.int ch450), .val (.int ch452), .val (.int ch454), .val (.int ch456), .val (.int vc6), .unset, .unset] [(.int ch446), (.int (0 : Int32)), (.ref b787), (.ref b787), (.ref b781), (.ref b781)])) := fun t kk => k787 t (by
            show Steps p.tables e below (T787.setTop (mkF m 220 #[.val (.int p1), .val (.int p2), .val (.long q3), .second, .val (.ref a442), .val (.int vl), .val (.int ch446), .val (.int ch448), .val (.int ch450), .val (.int ch452), .val (.int ch454), .val (.int ch456), .val (.int vc6), .unset, .unset] [(.ref b787), (.ref b781), (.ref b781)])) _
            refine XS.dup X787.here hx rfl (hb hby at_220) rfl rfl ?_
            show Steps p.tables e below (T787.setTop (mkF m 221 #[.val (.int p1), .val (.int p2), .val (.long q3), .second, .val (.ref a442), .val (.int vl), .val (.int ch446), .val (.int ch448), .val (.int ch450), .val (.int ch452), .val (.int ch454), .val (.int ch456), .val (.int vc6), .unset, .unset] [(.ref b787), (.ref b787), (.ref b781), (.ref b781)])) _
            refine XS.iconst X787.here hx rfl (hb hby at_221) ?_
            show Steps p.tables e below (T787.setTop (mkF m 222 #[.val (.int p1), .val (.int p2), .val (.long q3), .second, .val (.ref a442), .val (.int vl), .val (.int ch446), .val (.int ch448), .val (.int ch450), .val (.int ch452), .val (.int ch454), .val (.int ch456), .val (.int vc6), .unset, .unset] [(.int (0 : Int32)), (.ref b787), (.ref b787), (.ref b781), (.ref b781)])) _
            refine XS.iload X787.here hx rfl (hb hby at_222) rfl ?_
            exact kk)
          obtain ⟨cl796, Ar796, q796, S796, G796, H796, J796⟩ := V787
          have hin796 : ¬ ((0 : Int32) < 0 ∨ cl796.slots.size ≤ ((0 : Int32)).toNatClampNeg) := inb_of S796 ⟨by decide, by decide⟩
          obtain ⟨T796, h796, X796, e796, W796, st796⟩ := stC X787 hx hZ442 e787 Ar796 (j := (0 : Int32)) hin796 (g := (mkF m 224 #[.val (.int p1), .val (.int p2), .val (.long q3), .second, .val (.ref a442), .val (.int vl), .val (.int ch446), .val (.int ch448), .val (.int ch450), .val (.int ch452), .val (.int ch454), .val (.int ch456), .val (.int vc6), .unset, .unset] [(.int ch446), (.int (0 : Int32)), (.ref b787), (.ref b787), (.ref b781), (.ref b781)])) rfl rfl (hb hby at_224)
          have V796 := Arv.set Ar796 q796 S796 G796 H796 J796 (fits_nar_char _) W796 0 rfl (Nat.le_of_ble_eq_true rfl)
          have N796 := Fr.snoc X796 N0 ge_b787
          have hku796 := Nat.le_trans hku787 (Keep.of_wr W796).1
          have sf796_b781 := Safe.wr W796 sf787_b787 C787.1 sf787_b781
          have sf796_b787 := Safe.wr W796 sf787_b787 C787.1 sf787_b787
          have C796 := C787.trans (CHr.wr W796 sf787_b787 C787.1)
          have f797 := f788.wr W796
          have f798 := f789.other W796 (Or.inl ne_a442_b787)
          have f799 := f790.other W796 (Or.inl ne_a442_b787)
          have f800 := f791.other W796 ne_b442_b787
          have f801 := f792.other W796 (Or.inl ne_b781_b787)
          have f802 := f793.other W796 (Or.inl ne_b781_b787)
          have f803 := f794.wr W796
          have K796 := (K787).wr W796 (Or.inr sz_b787)
          have Zs796 : n0 ≤ h796.size := Nat.le_trans Zs787 (Keep.of_wr W796).1
          have k796 : Go p e below (s₁.setTop (entryFrame m #[(.int p1), (.int p2), (.long q3)] maxLocals)) (T796.setTop (mkF m 225 #[.val (.int p1), .val (.int p2), .val (.long q3), .second, .val (.ref a442), .val (.int vl), .val (.int ch446), .val (.int ch448), .val (.int ch450), .val (.int ch452), .val (.int ch454), .val (.int ch456), .val (.int vc6), .unset, .unset] [(.ref b787), (.ref b781), (.ref b781)])) := fun t kk => k795 t (st796 t kk)
          have k804 : Go p e below (s₁.setTop (entryFrame m #[(.int p1), (.int p2), (.long q3)] maxLocals)) (T796.setTop (mkF m 229 #[.val (.int p1), .val (.int p2), .val (.long q3), .second, .val (.ref a442), .val (.int vl), .val (.int ch446), .val (.int ch448), .val (.int ch450), .val (.int ch452), .val (.int ch454), .val (.int ch456), .val (.int vc6), .unset, .unset] [(.int ch448), (.int (1 : Int32)), (.ref b787), (.ref b787), (.ref b781), (.ref b781)])) := fun t kk => k796 t (by
            show Steps p.tables e below (T796.setTop (mkF m 225 #[.val (.int p1), .val (.int p2), .val (.long q3), .second, .val (.ref a442), .val (.int vl), .val (.int ch446), .val (.int ch448), .val (.int ch450), .val (.int ch452), .val (.int ch454), .val (.int ch456), .val (.int vc6), .unset, .unset] [(.ref b787), (.ref b781), (.ref b781)])) _
            refine XS.dup X796.here hx rfl (hb hby at_225) rfl rfl ?_
            show Steps p.tables e below (T796.setTop (mkF m 226 #[.val (.int p1), .val (.int p2), .val (.long q3), .second, .val (.ref a442), .val (.int vl), .val (.int ch446), .val (.int ch448), .val (.int ch450), .val (.int ch452), .val (.int ch454), .val (.int ch456), .val (.int vc6), .unset, .unset] [(.ref b787), (.ref b787), (.ref b781), (.ref b781)])) _
            refine XS.iconst X796.here hx rfl (hb hby at_226) ?_
            show Steps p.tables e below (T796.setTop (mkF m 227 #[.val (.int p1), .val (.int p2), .val (.long q3), .second, .val (.ref a442), .val (.int vl), .val (.int ch446), .val (.int ch448), .val (.int ch450), .val (.int ch452), .val (.int ch454), .val (.int ch456), .val (.int vc6), .unset, .unset] [(.int (1 : Int32)), (.ref b787), (.ref b787), (.ref b781), (.ref b781)])) _
            refine XS.iload X796.here hx rfl (hb hby at_227) rfl ?_
            exact kk)
          obtain ⟨cl805, Ar805, q805, S805, G805, H805, J805⟩ := V796
          have hin805 : ¬ ((1 : Int32) < 0 ∨ cl805.slots.size ≤ ((1 : Int32)).toNatClampNeg) := inb_of S805 ⟨by decide, by decide⟩
          obtain ⟨T805, h805, X805, e805, W805, st805⟩ := stC X796 hx hZ442 e796 Ar805 (j := (1 : Int32)) hin805 (g := (mkF m 229 #[.val (.int p1), .val (.int p2), .val (.long q3), .second, .val (.ref a442), .val (.int vl), .val (.int ch446), .val (.int ch448), .val (.int ch450), .val (.int ch452), .val (.int ch454), .val (.int ch456), .val (.int vc6), .unset, .unset] [(.int ch448), (.int (1 : Int32)), (.ref b787), (.ref b787), (.ref b781), (.ref b781)])) rfl rfl (hb hby at_229)
          have V805 := Arv.set Ar805 q805 S805 G805 H805 J805 (fits_nar_char _) W805 1 rfl (Nat.le_of_ble_eq_true rfl)
          have N805 := Fr.snoc X805 N796 ge_b787
          have hku805 := Nat.le_trans hku796 (Keep.of_wr W805).1
          have sf805_b781 := Safe.wr W805 sf796_b787 C796.1 sf796_b781
          have sf805_b787 := Safe.wr W805 sf796_b787 C796.1 sf796_b787
          have C805 := C796.trans (CHr.wr W805 sf796_b787 C796.1)
          have f806 := f797.wr W805
          have f807 := f798.other W805 (Or.inl ne_a442_b787)
          have f808 := f799.other W805 (Or.inl ne_a442_b787)
          have f809 := f800.other W805 ne_b442_b787
          have f810 := f801.other W805 (Or.inl ne_b781_b787)
          have f811 := f802.other W805 (Or.inl ne_b781_b787)
          have f812 := f803.wr W805
          have K805 := (K796).wr W805 (Or.inr sz_b787)
          have Zs805 : n0 ≤ h805.size := Nat.le_trans Zs796 (Keep.of_wr W805).1
          have k805 : Go p e below (s₁.setTop (entryFrame m #[(.int p1), (.int p2), (.long q3)] maxLocals)) (T805.setTop (mkF m 230 #[.val (.int p1), .val (.int p2), .val (.long q3), .second, .val (.ref a442), .val (.int vl), .val (.int ch446), .val (.int ch448), .val (.int ch450), .val (.int ch452), .val (.int ch454), .val (.int ch456), .val (.int vc6), .unset, .unset] [(.ref b787), (.ref b781), (.ref b781)])) := fun t kk => k804 t (st805 t kk)
          have k813 : Go p e below (s₁.setTop (entryFrame m #[(.int p1), (.int p2), (.long q3)] maxLocals)) (T805.setTop (mkF m 234 #[.val (.int p1), .val (.int p2), .val (.long q3), .second, .val (.ref a442), .val (.int vl), .val (.int ch446), .val (.int ch448), .val (.int ch450), .val (.int ch452), .val (.int ch454), .val (.int ch456), .val (.int vc6), .unset, .unset] [(.int ch450), (.int (2 : Int32)), (.ref b787), (.ref b787), (.ref b781), (.ref b781)])) := fun t kk => k805 t (by
            show Steps p.tables e below (T805.setTop (mkF m 230 #[.val (.int p1), .val (.int p2), .val (.long q3), .second, .val (.ref a442), .val (.int vl), .val (.int ch446), .val (.int ch448), .val (.int ch450), .val (.int ch452), .val (.int ch454), .val (.int ch456), .val (.int vc6), .unset, .unset] [(.ref b787), (.ref b781), (.ref b781)])) _
            refine XS.dup X805.here hx rfl (hb hby at_230) rfl rfl ?_
            show Steps p.tables e below (T805.setTop (mkF m 231 #[.val (.int p1), .val (.int p2), .val (.long q3), .second, .val (.ref a442), .val (.int vl), .val (.int ch446), .val (.int ch448), .val (.int ch450), .val (.int ch452), .val (.int ch454), .val (.int ch456), .val (.int vc6), .unset, .unset] [(.ref b787), (.ref b787), (.ref b781), (.ref b781)])) _
            refine XS.iconst X805.here hx rfl (hb hby at_231) ?_
            show Steps p.tables e below (T805.setTop (mkF m 232 #[.val (.int p1), .val (.int p2), .val (.long q3), .second, .val (.ref a442), .val (.int vl), .val (.int ch446), .val (.int ch448), .val (.int ch450), .val (.int ch452), .val (.int ch454), .val (.int ch456), .val (.int vc6), .unset, .unset] [(.int (2 : Int32)), (.ref b787), (.ref b787), (.ref b781), (.ref b781)])) _
            refine XS.iload X805.here hx rfl (hb hby at_232) rfl ?_
            exact kk)
          obtain ⟨cl814, Ar814, q814, S814, G814, H814, J814⟩ := V805
          have hin814 : ¬ ((2 : Int32) < 0 ∨ cl814.slots.size ≤ ((2 : Int32)).toNatClampNeg) := inb_of S814 ⟨by decide, by decide⟩
          obtain ⟨T814, h814, X814, e814, W814, st814⟩ := stC X805 hx hZ442 e805 Ar814 (j := (2 : Int32)) hin814 (g := (mkF m 234 #[.val (.int p1), .val (.int p2), .val (.long q3), .second, .val (.ref a442), .val (.int vl), .val (.int ch446), .val (.int ch448), .val (.int ch450), .val (.int ch452), .val (.int ch454), .val (.int ch456), .val (.int vc6), .unset, .unset] [(.int ch450), (.int (2 : Int32)), (.ref b787), (.ref b787), (.ref b781), (.ref b781)])) rfl rfl (hb hby at_234)
          have V814 := Arv.set Ar814 q814 S814 G814 H814 J814 (fits_nar_char _) W814 2 rfl (Nat.le_of_ble_eq_true rfl)
          have N814 := Fr.snoc X814 N805 ge_b787
          have hku814 := Nat.le_trans hku805 (Keep.of_wr W814).1
          have sf814_b781 := Safe.wr W814 sf805_b787 C805.1 sf805_b781
          have sf814_b787 := Safe.wr W814 sf805_b787 C805.1 sf805_b787
          have C814 := C805.trans (CHr.wr W814 sf805_b787 C805.1)
          have f815 := f806.wr W814
          have f816 := f807.other W814 (Or.inl ne_a442_b787)
          have f817 := f808.other W814 (Or.inl ne_a442_b787)
          have f818 := f809.other W814 ne_b442_b787
          have f819 := f810.other W814 (Or.inl ne_b781_b787)
          have f820 := f811.other W814 (Or.inl ne_b781_b787)
          have f821 := f812.wr W814
          have K814 := (K805).wr W814 (Or.inr sz_b787)
          have Zs814 : n0 ≤ h814.size := Nat.le_trans Zs805 (Keep.of_wr W814).1
          have k814 : Go p e below (s₁.setTop (entryFrame m #[(.int p1), (.int p2), (.long q3)] maxLocals)) (T814.setTop (mkF m 235 #[.val (.int p1), .val (.int p2), .val (.long q3), .second, .val (.ref a442), .val (.int vl), .val (.int ch446), .val (.int ch448), .val (.int ch450), .val (.int ch452), .val (.int ch454), .val (.int ch456), .val (.int vc6), .unset, .unset] [(.ref b787), (.ref b781), (.ref b781)])) := fun t kk => k813 t (st814 t kk)
          have k822 : Go p e below (s₁.setTop (entryFrame m #[(.int p1), (.int p2), (.long q3)] maxLocals)) (T814.setTop (mkF m 239 #[.val (.int p1), .val (.int p2), .val (.long q3), .second, .val (.ref a442), .val (.int vl), .val (.int ch446), .val (.int ch448), .val (.int ch450), .val (.int ch452), .val (.int ch454), .val (.int ch456), .val (.int vc6), .unset, .unset] [(.int ch452), (.int (3 : Int32)), (.ref b787), (.ref b787), (.ref b781), (.ref b781)])) := fun t kk => k814 t (by
            show Steps p.tables e below (T814.setTop (mkF m 235 #[.val (.int p1), .val (.int p2), .val (.long q3), .second, .val (.ref a442), .val (.int vl), .val (.int ch446), .val (.int ch448), .val (.int ch450), .val (.int ch452), .val (.int ch454), .val (.int ch456), .val (.int vc6), .unset, .unset] [(.ref b787), (.ref b781), (.ref b781)])) _
            refine XS.dup X814.here hx rfl (hb hby at_235) rfl rfl ?_
            show Steps p.tables e below (T814.setTop (mkF m 236 #[.val (.int p1), .val (.int p2), .val (.long q3), .second, .val (.ref a442), .val (.int vl), .val (.int ch446), .val (.int ch448), .val (.int ch450), .val (.int ch452), .val (.int ch454), .val (.int ch456), .val (.int vc6), .unset, .unset] [(.ref b787), (.ref b787), (.ref b781), (.ref b781)])) _
            refine XS.iconst X814.here hx rfl (hb hby at_236) ?_
            show Steps p.tables e below (T814.setTop (mkF m 237 #[.val (.int p1), .val (.int p2), .val (.long q3), .second, .val (.ref a442), .val (.int vl), .val (.int ch446), .val (.int ch448), .val (.int ch450), .val (.int ch452), .val (.int ch454), .val (.int ch456), .val (.int vc6), .unset, .unset] [(.int (3 : Int32)), (.ref b787), (.ref b787), (.ref b781), (.ref b781)])) _
            refine XS.iload X814.here hx rfl (hb hby at_237) rfl ?_
            exact kk)
          obtain ⟨cl823, Ar823, q823, S823, G823, H823, J823⟩ := V814
          have hin823 : ¬ ((3 : Int32) < 0 ∨ cl823.slots.size ≤ ((3 : Int32)).toNatClampNeg) := inb_of S823 ⟨by decide, by decide⟩
          obtain ⟨T823, h823, X823, e823, W823, st823⟩ := stC X814 hx hZ442 e814 Ar823 (j := (3 : Int32)) hin823 (g := (mkF m 239 #[.val (.int p1), .val (.int p2), .val (.long q3), .second, .val (.ref a442), .val (.int vl), .val (.int ch446), .val (.int ch448), .val (.int ch450), .val (.int ch452), .val (.int ch454), .val (.int ch456), .val (.int vc6), .unset, .unset] [(.int ch452), (.int (3 : Int32)), (.ref b787), (.ref b787), (.ref b781), (.ref b781)])) rfl rfl (hb hby at_239)
          have V823 := Arv.set Ar823 q823 S823 G823 H823 J823 (fits_nar_char _) W823 3 rfl (Nat.le_of_ble_eq_true rfl)
          have N823 := Fr.snoc X823 N814 ge_b787
          have hku823 := Nat.le_trans hku814 (Keep.of_wr W823).1
          have sf823_b781 := Safe.wr W823 sf814_b787 C814.1 sf814_b781
          have sf823_b787 := Safe.wr W823 sf814_b787 C814.1 sf814_b787
          have C823 := C814.trans (CHr.wr W823 sf814_b787 C814.1)
          have f824 := f815.wr W823
          have f825 := f816.other W823 (Or.inl ne_a442_b787)
          have f826 := f817.other W823 (Or.inl ne_a442_b787)
          have f827 := f818.other W823 ne_b442_b787
          have f828 := f819.other W823 (Or.inl ne_b781_b787)
          have f829 := f820.other W823 (Or.inl ne_b781_b787)
          have f830 := f821.wr W823
          have K823 := (K814).wr W823 (Or.inr sz_b787)
          have Zs823 : n0 ≤ h823.size := Nat.le_trans Zs814 (Keep.of_wr W823).1
          have k823 : Go p e below (s₁.setTop (entryFrame m #[(.int p1), (.int p2), (.long q3)] maxLocals)) (T823.setTop (mkF m 240 #[.val (.int p1), .val (.int p2), .val (.long q3), .second, .val (.ref a442), .val (.int vl), .val (.int ch446), .val (.int ch448), .val (.int ch450), .val (.int ch452), .val (.int ch454), .val (.int ch456), .val (.int vc6), .unset, .unset] [(.ref b787), (.ref b781), (.ref b781)])) := fun t kk => k822 t (st823 t kk)
          have k831 : Go p e below (s₁.setTop (entryFrame m #[(.int p1), (.int p2), (.long q3)] maxLocals)) (T823.setTop (mkF m 244 #[.val (.int p1), .val (.int p2), .val (.long q3), .second, .val (.ref a442), .val (.int vl), .val (.int ch446), .val (.int ch448), .val (.int ch450), .val (.int ch452), .val (.int ch454), .val (.int ch456), .val (.int vc6), .unset, .unset] [(.int ch454), (.int (4 : Int32)), (.ref b787), (.ref b787), (.ref b781), (.ref b781)])) := fun t kk => k823 t (by
            show Steps p.tables e below (T823.setTop (mkF m 240 #[.val (.int p1), .val (.int p2), .val (.long q3), .second, .val (.ref a442), .val (.int vl), .val (.int ch446), .val (.int ch448), .val (.int ch450), .val (.int ch452), .val (.int ch454), .val (.int ch456), .val (.int vc6), .unset, .unset] [(.ref b787), (.ref b781), (.ref b781)])) _
            refine XS.dup X823.here hx rfl (hb hby at_240) rfl rfl ?_
            show Steps p.tables e below (T823.setTop (mkF m 241 #[.val (.int p1), .val (.int p2), .val (.long q3), .second, .val (.ref a442), .val (.int vl), .val (.int ch446), .val (.int ch448), .val (.int ch450), .val (.int ch452), .val (.int ch454), .val (.int ch456), .val (.int vc6), .unset, .unset] [(.ref b787), (.ref b787), (.ref b781), (.ref b781)])) _
            refine XS.iconst X823.here hx rfl (hb hby at_241) ?_
            show Steps p.tables e below (T823.setTop (mkF m 242 #[.val (.int p1), .val (.int p2), .val (.long q3), .second, .val (.ref a442), .val (.int vl), .val (.int ch446), .val (.int ch448), .val (.int ch450), .val (.int ch452), .val (.int ch454), .val (.int ch456), .val (.int vc6), .unset, .unset] [(.int (4 : Int32)), (.ref b787), (.ref b787), (.ref b781), (.ref b781)])) _
            refine XS.iload X823.here hx rfl (hb hby at_242) rfl ?_
            exact kk)
          obtain ⟨cl832, Ar832, q832, S832, G832, H832, J832⟩ := V823
          have hin832 : ¬ ((4 : Int32) < 0 ∨ cl832.slots.size ≤ ((4 : Int32)).toNatClampNeg) := inb_of S832 ⟨by decide, by decide⟩
          obtain ⟨T832, h832, X832, e832, W832, st832⟩ := stC X823 hx hZ442 e823 Ar832 (j := (4 : Int32)) hin832 (g := (mkF m 244 #[.val (.int p1), .val (.int p2), .val (.long q3), .second, .val (.ref a442), .val (.int vl), .val (.int ch446), .val (.int ch448), .val (.int ch450), .val (.int ch452), .val (.int ch454), .val (.int ch456), .val (.int vc6), .unset, .unset] [(.int ch454), (.int (4 : Int32)), (.ref b787), (.ref b787), (.ref b781), (.ref b781)])) rfl rfl (hb hby at_244)
          have V832 := Arv.set Ar832 q832 S832 G832 H832 J832 (fits_nar_char _) W832 4 rfl (Nat.le_of_ble_eq_true rfl)
          have N832 := Fr.snoc X832 N823 ge_b787
          have hku832 := Nat.le_trans hku823 (Keep.of_wr W832).1
          have sf832_b781 := Safe.wr W832 sf823_b787 C823.1 sf823_b781
          have sf832_b787 := Safe.wr W832 sf823_b787 C823.1 sf823_b787
          have C832 := C823.trans (CHr.wr W832 sf823_b787 C823.1)
          have f833 := f824.wr W832
          have f834 := f825.other W832 (Or.inl ne_a442_b787)
          have f835 := f826.other W832 (Or.inl ne_a442_b787)
          have f836 := f827.other W832 ne_b442_b787
          have f837 := f828.other W832 (Or.inl ne_b781_b787)
          have f838 := f829.other W832 (Or.inl ne_b781_b787)
          have f839 := f830.wr W832
          have K832 := (K823).wr W832 (Or.inr sz_b787)
          have Zs832 : n0 ≤ h832.size := Nat.le_trans Zs823 (Keep.of_wr W832).1
          have k832 : Go p e below (s₁.setTop (entryFrame m #[(.int p1), (.int p2), (.long q3)] maxLocals)) (T832.setTop (mkF m 245 #[.val (.int p1), .val (.int p2), .val (.long q3), .second, .val (.ref a442), .val (.int vl), .val (.int ch446), .val (.int ch448), .val (.int ch450), .val (.int ch452), .val (.int ch454), .val (.int ch456), .val (.int vc6), .unset, .unset] [(.ref b787), (.ref b781), (.ref b781)])) := fun t kk => k831 t (st832 t kk)
          have k840 : Go p e below (s₁.setTop (entryFrame m #[(.int p1), (.int p2), (.long q3)] maxLocals)) (T832.setTop (mkF m 249 #[.val (.int p1), .val (.int p2), .val (.long q3), .second, .val (.ref a442), .val (.int vl), .val (.int ch446), .val (.int ch448), .val (.int ch450), .val (.int ch452), .val (.int ch454), .val (.int ch456), .val (.int vc6), .unset, .unset] [(.int ch456), (.int (5 : Int32)), (.ref b787), (.ref b787), (.ref b781), (.ref b781)])) := fun t kk => k832 t (by
            show Steps p.tables e below (T832.setTop (mkF m 245 #[.val (.int p1), .val (.int p2), .val (.long q3), .second, .val (.ref a442), .val (.int vl), .val (.int ch446), .val (.int ch448), .val (.int ch450), .val (.int ch452), .val (.int ch454), .val (.int ch456), .val (.int vc6), .unset, .unset] [(.ref b787), (.ref b781), (.ref b781)])) _
            refine XS.dup X832.here hx rfl (hb hby at_245) rfl rfl ?_
            show Steps p.tables e below (T832.setTop (mkF m 246 #[.val (.int p1), .val (.int p2), .val (.long q3), .second, .val (.ref a442), .val (.int vl), .val (.int ch446), .val (.int ch448), .val (.int ch450), .val (.int ch452), .val (.int ch454), .val (.int ch456), .val (.int vc6), .unset, .unset] [(.ref b787), (.ref b787), (.ref b781), (.ref b781)])) _
            refine XS.iconst X832.here hx rfl (hb hby at_246) ?_
            show Steps p.tables e below (T832.setTop (mkF m 247 #[.val (.int p1), .val (.int p2), .val (.long q3), .second, .val (.ref a442), .val (.int vl), .val (.int ch446), .val (.int ch448), .val (.int ch450), .val (.int ch452), .val (.int ch454), .val (.int ch456), .val (.int vc6), .unset, .unset] [(.int (5 : Int32)), (.ref b787), (.ref b787), (.ref b781), (.ref b781)])) _
            refine XS.iload X832.here hx rfl (hb hby at_247) rfl ?_
            exact kk)
          obtain ⟨cl841, Ar841, q841, S841, G841, H841, J841⟩ := V832
          have hin841 : ¬ ((5 : Int32) < 0 ∨ cl841.slots.size ≤ ((5 : Int32)).toNatClampNeg) := inb_of S841 ⟨by decide, by decide⟩
          obtain ⟨T841, h841, X841, e841, W841, st841⟩ := stC X832 hx hZ442 e832 Ar841 (j := (5 : Int32)) hin841 (g := (mkF m 249 #[.val (.int p1), .val (.int p2), .val (.long q3), .second, .val (.ref a442), .val (.int vl), .val (.int ch446), .val (.int ch448), .val (.int ch450), .val (.int ch452), .val (.int ch454), .val (.int ch456), .val (.int vc6), .unset, .unset] [(.int ch456), (.int (5 : Int32)), (.ref b787), (.ref b787), (.ref b781), (.ref b781)])) rfl rfl (hb hby at_249)
          have V841 := Arv.set Ar841 q841 S841 G841 H841 J841 (fits_nar_char _) W841 5 rfl (Nat.le_of_ble_eq_true rfl)
          have N841 := Fr.snoc X841 N832 ge_b787
          have hku841 := Nat.le_trans hku832 (Keep.of_wr W841).1
          have sf841_b781 := Safe.wr W841 sf832_b787 C832.1 sf832_b781
          have sf841_b787 := Safe.wr W841 sf832_b787 C832.1 sf832_b787
          have C841 := C832.trans (CHr.wr W841 sf832_b787 C832.1)
          have f842 := f833.wr W841
          have f843 := f834.other W841 (Or.inl ne_a442_b787)
          have f844 := f835.other W841 (Or.inl ne_a442_b787)
          have f845 := f836.other W841 ne_b442_b787
          have f846 := f837.other W841 (Or.inl ne_b781_b787)
          have f847 := f838.other W841 (Or.inl ne_b781_b787)
          have f848 := f839.wr W841
          have K841 := (K832).wr W841 (Or.inr sz_b787)
          have Zs841 : n0 ≤ h841.size := Nat.le_trans Zs832 (Keep.of_wr W841).1
          have k841 : Go p e below (s₁.setTop (entryFrame m #[(.int p1), (.int p2), (.long q3)] maxLocals)) (T841.setTop (mkF m 250 #[.val (.int p1), .val (.int p2), .val (.long q3), .second, .val (.ref a442), .val (.int vl), .val (.int ch446), .val (.int ch448), .val (.int ch450), .val (.int ch452), .val (.int ch454), .val (.int ch456), .val (.int vc6), .unset, .unset] [(.ref b787), (.ref b781), (.ref b781)])) := fun t kk => k840 t (st841 t kk)
          have k849 : Go p e below (s₁.setTop (entryFrame m #[(.int p1), (.int p2), (.long q3)] maxLocals)) (T841.setTop (mkF m 255 #[.val (.int p1), .val (.int p2), .val (.long q3), .second, .val (.ref a442), .val (.int vl), .val (.int ch446), .val (.int ch448), .val (.int ch450), .val (.int ch452), .val (.int ch454), .val (.int ch456), .val (.int vc6), .unset, .unset] [(.int vc6), (.int (6 : Int32)), (.ref b787), (.ref b787), (.ref b781), (.ref b781)])) := fun t kk => k841 t (by
            show Steps p.tables e below (T841.setTop (mkF m 250 #[.val (.int p1), .val (.int p2), .val (.long q3), .second, .val (.ref a442), .val (.int vl), .val (.int ch446), .val (.int ch448), .val (.int ch450), .val (.int ch452), .val (.int ch454), .val (.int ch456), .val (.int vc6), .unset, .unset] [(.ref b787), (.ref b781), (.ref b781)])) _
            refine XS.dup X841.here hx rfl (hb hby at_250) rfl rfl ?_
            show Steps p.tables e below (T841.setTop (mkF m 251 #[.val (.int p1), .val (.int p2), .val (.long q3), .second, .val (.ref a442), .val (.int vl), .val (.int ch446), .val (.int ch448), .val (.int ch450), .val (.int ch452), .val (.int ch454), .val (.int ch456), .val (.int vc6), .unset, .unset] [(.ref b787), (.ref b787), (.ref b781), (.ref b781)])) _
            refine XS.bipush X841.here hx rfl (hb hby at_251) ?_
            show Steps p.tables e below (T841.setTop (mkF m 253 #[.val (.int p1), .val (.int p2), .val (.long q3), .second, .val (.ref a442), .val (.int vl), .val (.int ch446), .val (.int ch448), .val (.int ch450), .val (.int ch452), .val (.int ch454), .val (.int ch456), .val (.int vc6), .unset, .unset] [(.int (6 : Int32)), (.ref b787), (.ref b787), (.ref b781), (.ref b781)])) _
            refine XS.iload X841.here hx rfl (hb hby at_253) rfl ?_
            exact kk)
          obtain ⟨cl850, Ar850, q850, S850, G850, H850, J850⟩ := V841
          have hin850 : ¬ ((6 : Int32) < 0 ∨ cl850.slots.size ≤ ((6 : Int32)).toNatClampNeg) := inb_of S850 ⟨by decide, by decide⟩
          obtain ⟨T850, h850, X850, e850, W850, st850⟩ := stC X841 hx hZ442 e841 Ar850 (j := (6 : Int32)) hin850 (g := (mkF m 255 #[.val (.int p1), .val (.int p2), .val (.long q3), .second, .val (.ref a442), .val (.int vl), .val (.int ch446), .val (.int ch448), .val (.int ch450), .val (.int ch452), .val (.int ch454), .val (.int ch456), .val (.int vc6), .unset, .unset] [(.int vc6), (.int (6 : Int32)), (.ref b787), (.ref b787), (.ref b781), (.ref b781)])) rfl rfl (hb hby at_255)
          have V850 := Arv.set Ar850 q850 S850 G850 H850 J850 (fits_nar_char _) W850 6 rfl (Nat.le_of_ble_eq_true rfl)
          have N850 := Fr.snoc X850 N841 ge_b787
          have hku850 := Nat.le_trans hku841 (Keep.of_wr W850).1
          have sf850_b781 := Safe.wr W850 sf841_b787 C841.1 sf841_b781
          have sf850_b787 := Safe.wr W850 sf841_b787 C841.1 sf841_b787
          have C850 := C841.trans (CHr.wr W850 sf841_b787 C841.1)
          have f851 := f842.wr W850
          have f852 := f843.other W850 (Or.inl ne_a442_b787)
          have f853 := f844.other W850 (Or.inl ne_a442_b787)
          have f854 := f845.other W850 ne_b442_b787
          have f855 := f846.other W850 (Or.inl ne_b781_b787)
          have f856 := f847.other W850 (Or.inl ne_b781_b787)
          have f857 := f848.wr W850
          have K850 := (K841).wr W850 (Or.inr sz_b787)
          have Zs850 : n0 ≤ h850.size := Nat.le_trans Zs841 (Keep.of_wr W850).1
          have k850 : Go p e below (s₁.setTop (entryFrame m #[(.int p1), (.int p2), (.long q3)] maxLocals)) (T850.setTop (mkF m 256 #[.val (.int p1), .val (.int p2), .val (.long q3), .second, .val (.ref a442), .val (.int vl), .val (.int ch446), .val (.int ch448), .val (.int ch450), .val (.int ch452), .val (.int ch454), .val (.int ch456), .val (.int vc6), .unset, .unset] [(.ref b787), (.ref b781), (.ref b781)])) := fun t kk => k849 t (st850 t kk)
          have hps858 : ∀ c ∈ (([ch446, ch448, ch450, ch452, ch454, ch456, vc6] : List Int32).map (nar .char)), ¬ c < 0 ∧ ¬ (255 : Int32) < c := own_nars _ (by
            intro x hx
            simp only [List.mem_cons, List.not_mem_nil, or_false] at hx
            rcases hx with rfl | rfl | rfl | rfl | rfl | rfl | rfl
            · exact hb446
            · exact hb448
            · exact hb450
            · exact hb452
            · exact hb454
            · exact hb456
            · exact hbc6)
          have hcs858 : StrChars.Road.CodA (([ch446, ch448, ch450, ch452, ch454, ch456, vc6] : List Int32).map (nar .char)) 0 (7 : Int32) ((((([ch446, ch448, ch450, ch452, ch454, ch456, vc6] : List Int32).map (nar .char))).map (fun c => c.toInt8.toInt32)).map Value.int) := StrChars.Road.codOf (n := 7) rfl (fun c hc => (hps858 c hc).2)
          obtain ⟨_, _, ⟨T858, L858, kx858, nx858⟩, -, X858, ⟨Lc858, hQ858, l858, y858, z858⟩, st858⟩ := X850.specialBack hx (y := (⟨"java/lang/String", "<init>", "([C)V"⟩ : MethodName)) rfl hown442 (mvT hZ442 (hw _ (List.mem_of_getElem? (i := 40) rfl))) (mvT hZ442 (hw _ (List.mem_of_getElem? (i := 41) rfl))) (mvT hZ442 (hw _ (List.mem_of_getElem? (i := 42) rfl))) (by decide) (StrChars.Road.backV (W := 1) hZ442 hws (kI := 4) (hw _ (List.mem_of_getElem? (i := 2) rfl)) (cs := (([ch446, ch448, ch450, ch452, ch454, ch456, vc6] : List Int32).map (nar .char))) (bs := ((([ch446, ch448, ch450, ch452, ch454, ch456, vc6] : List Int32).map (nar .char))).map (fun c => c.toInt8.toInt32)) (n := 7) ge_b781 Zs850 f857 f855 f856 V850 (own_stakeep S1 K850) hs1 rfl rfl (by decide) (by decide) hps858 rfl (by decide) (by decide)) (g := (mkF m 256 #[.val (.int p1), .val (.int p2), .val (.long q3), .second, .val (.ref a442), .val (.int vl), .val (.int ch446), .val (.int ch448), .val (.int ch450), .val (.int ch452), .val (.int ch454), .val (.int ch456), .val (.int vc6), .unset, .unset] [(.ref b787), (.ref b781), (.ref b781)])) rfl (by rw [hml]; rfl) (Steps.refl _) (a := b781) (argsL := [(.ref b787)]) (rest := [(.ref b781)]) (lenOf pd_5 rfl) rfl (by show 2 * 0 + _ ≤ _; exact Nat.le_of_eq rfl) (hb hby at_256) (fun _ _ => ⟨rfl, e850, (by decide : 4 + 1 ≤ _), (by decide : 39 + 7 ≤ _)⟩)
          dsimp only [Pt.U, Pt.locs, Pt.cells, Pt.slots] at X858 l858 y858 z858 st858 hQ858
          subst l858 y858 z858
          obtain ⟨rfl, N858q, K858q, x858_e, x858_c, t858, kb858, -, zt858, -, x858_v, x858_a⟩ := hQ858
          have N858 := Fr.app N850 N858q
          have sf858_b781 := Safe.keep K858q (sfS sf850_b781 sf0) C850.1 sf850_b781
          have sf858_b787 := Safe.keep K858q (sfS sf850_b781 sf0) C850.1 sf850_b787
          have C858 := C850.trans (CHr.keep K858q (sfS sf850_b781 sf0) C850.1)
          have hku858 := Nat.le_trans hku850 K858q.1
          have ne_a442_t858 : a442 ≠ t858 := Nat.ne_of_lt (Nat.lt_of_lt_of_le f851.lt zt858)
          have ne_b442_t858 : b442 ≠ t858 := Nat.ne_of_lt (Nat.lt_of_lt_of_le f854.lt zt858)
          have ne_b787_t858 : b787 ≠ t858 := Nat.ne_of_lt (Nat.lt_of_lt_of_le V850.lt zt858)
          have f859 := f851.keep K858q
          have f860 := f852.keep K858q (ninS ne_a442_b781 nin0)
          have f861 := f853.keep K858q (ninS ne_a442_b781 nin0)
          have f862 := f854.keep K858q (ninS ne_b442_b781 nin0)
          have f863 := V850.keep K858q (ninS (Ne.symm ne_b781_b787) nin0)
          have K858 := (K850).trans K858q (allS (Or.inr sz_b781) all0)
          have sz_t858 : h0.size ≤ t858 := Nat.le_trans K850.1 zt858
          have Zs858 : n0 ≤ T858.heap.size := Nat.le_trans Zs850 K858q.1
          have k858 : Go p e below (s₁.setTop (entryFrame m #[(.int p1), (.int p2), (.long q3)] maxLocals)) (T858.setTop (mkF m 259 #[.val (.int p1), .val (.int p2), .val (.long q3), .second, .val (.ref a442), .val (.int vl), .val (.int ch446), .val (.int ch448), .val (.int ch450), .val (.int ch452), .val (.int ch454), .val (.int ch456), .val (.int vc6), .unset, .unset] [(.ref b781)])) := fun t kk => k850 t (st858.trans kk)
          have k864 : Go p e below (s₁.setTop (entryFrame m #[(.int p1), (.int p2), (.long q3)] maxLocals)) (T858.setTop (mkF m 263 #[.val (.int p1), .val (.int p2), .val (.long q3), .second, .val (.ref a442), .val (.int vl), .val (.int ch446), .val (.int ch448), .val (.int ch450), .val (.int ch452), .val (.int ch454), .val (.int ch456), .val (.int vc6), .val (.ref b781), .unset] [(.ref b781)])) := fun t kk => k858 t (by
            show Steps p.tables e below (T858.setTop (mkF m 259 #[.val (.int p1), .val (.int p2), .val (.long q3), .second, .val (.ref a442), .val (.int vl), .val (.int ch446), .val (.int ch448), .val (.int ch450), .val (.int ch452), .val (.int ch454), .val (.int ch456), .val (.int vc6), .unset, .unset] [(.ref b781)])) _
            refine XS.astore X858.here hx rfl (hb hby at_259) rfl rfl (l' := #[.val (.int p1), .val (.int p2), .val (.long q3), .second, .val (.ref a442), .val (.int vl), .val (.int ch446), .val (.int ch448), .val (.int ch450), .val (.int ch452), .val (.int ch454), .val (.int ch456), .val (.int vc6), .val (.ref b781), .unset]) rfl ?_
            show Steps p.tables e below (T858.setTop (mkF m 261 #[.val (.int p1), .val (.int p2), .val (.long q3), .second, .val (.ref a442), .val (.int vl), .val (.int ch446), .val (.int ch448), .val (.int ch450), .val (.int ch452), .val (.int ch454), .val (.int ch456), .val (.int vc6), .val (.ref b781), .unset] [])) _
            refine XS.aload X858.here hx rfl (hb hby at_261) rfl rfl ?_
            exact kk)
          have Xb866 : Stand p l e room_1 (s.setVm T442.vm) m #[(.int p1), (.int p2), (.long q3)] below meth c T858 _ _ _ := X858
          obtain ⟨a865, T865, h865, kn865, b865, kc865, X865, e865, E865, hS865, hk865, hZ865, hown865, xe865, xc865, xv865, V865, -, -, Cn865, lit865, nsf865, st865⟩ := ldcCH (s := s) (vm0 := T442.vm) Xb866 hx hZ442 hown442 (hw _ (List.mem_of_getElem? (i := 0) rfl)) wS0 rfl hS442 hku858 (EW.cons (hw _ (List.mem_of_getElem? (i := 60) rfl)) (by decide) (EW.cons (hw _ (List.mem_of_getElem? (i := 0) rfl)) (by decide) (EW.cons (hw _ (List.mem_of_getElem? (i := 50) rfl)) (by decide) EW.nil))) (List.mem_of_getElem? (i := 1) rfl) C858.1 (vs := [(.int (108 : Int32)), (.int (105 : Int32)), (.int (115 : Int32)), (.int (116 : Int32)), (.int (101 : Int32)), (.int (100 : Int32))]) (z := 6) ⟨by decide, by decide⟩ (by decide) rfl (g := (mkF m 263 #[.val (.int p1), .val (.int p2), .val (.long q3), .second, .val (.ref a442), .val (.int vl), .val (.int ch446), .val (.int ch448), .val (.int ch450), .val (.int ch452), .val (.int ch454), .val (.int ch456), .val (.int vc6), .val (.ref b781), .unset] [(.ref b781)])) rfl (hb hby at_263) (n := 24) (by decide) (by decide) (by decide) (by decide)
          have sf865_b781 := CHr.safe Cn865 x858_e.lt sf858_b781
          have sf865_b787 := CHr.safe Cn865 f863.lt sf858_b787
          have C865 := C858.trans Cn865
          have f867 := f859.ext E865
          have f868 := f860.ext E865
          have f869 := f861.ext E865
          have f870 := f862.ext E865
          have f871 := f863.ext E865
          have f872 := x858_e.ext E865
          have f873 := x858_c.ext E865
          have f874 := x858_v.ext E865
          have f875 := x858_a.ext E865
          have K865 := (K858).ext E865
          have Zs865 : n0 ≤ h865.size := Nat.le_trans Zs858 E865.1
          have k865 : Go p e below (s₁.setTop (entryFrame m #[(.int p1), (.int p2), (.long q3)] maxLocals)) (T865.setTop (mkF m 265 #[.val (.int p1), .val (.int p2), .val (.long q3), .second, .val (.ref a442), .val (.int vl), .val (.int ch446), .val (.int ch448), .val (.int ch450), .val (.int ch452), .val (.int ch454), .val (.int ch456), .val (.int vc6), .val (.ref b781), .unset] [(.ref a865), (.ref b781)])) := fun t kk => k864 t (st865 t kk)
          obtain ⟨cq876, kq876, q876a, q876b, q876c⟩ := isOf hZ865 e865 f872
          obtain ⟨_, _, ⟨T876, L876, kx876, nx876⟩, -, X876, ⟨Lc876, hQ876, l876, y876, z876⟩, st876⟩ := X865.virtualBack hx (y := (⟨"java/lang/String", "equals", "(Ljava/lang/Object;)Z"⟩ : MethodName)) (z := (⟨"java/lang/String", "equals", "(Ljava/lang/Object;)Z"⟩ : MethodName)) hown865 (mvT hZ865 (hw _ (List.mem_of_getElem? (i := 51) rfl))) (mvT hZ865 (hw _ (List.mem_of_getElem? (i := 52) rfl))) (notFace_of_selects (args := #[]) (mvT hZ865 (hw _ (List.mem_of_getElem? (i := 54) rfl)))) (mvT hZ865 (hw _ (List.mem_of_getElem? (i := 54) rfl))) (mvT hZ865 (hw _ (List.mem_of_getElem? (i := 53) rfl))) (by decide) (StrChars.Road.eqW (W := 0) hZ865 heq (kI := 4) (hw _ (List.mem_of_getElem? (i := 2) rfl)) f872 f874 f873 f875 hcs858 (own_up _ hps858) (Nat.le_of_ble_eq_true rfl) xe865 xv865 xc865 V865 own_Lc (own_up _ own_Lb) (Nat.le_of_ble_eq_true rfl) (own_stakeep S1 K865) hs1 (by decide) (by decide)) q876a q876c (g := (mkF m 265 #[.val (.int p1), .val (.int p2), .val (.long q3), .second, .val (.ref a442), .val (.int vl), .val (.int ch446), .val (.int ch448), .val (.int ch450), .val (.int ch452), .val (.int ch454), .val (.int ch456), .val (.int vc6), .val (.ref b781), .unset] [(.ref a865), (.ref b781)])) rfl (by rw [hml]; rfl) (Steps.refl _) (argsL := [(.ref a865)]) (rest := []) (lenOf pd_3 rfl) rfl (by show 2 * 0 + _ ≤ _; exact Nat.le_of_eq rfl) (hb hby at_265) (fun _ _ => ⟨rfl, e865, (by decide : 7 + 0 ≤ _), (by decide : 74 + 0 ≤ _)⟩)
          dsimp only [Pt.U, Pt.locs, Pt.cells, Pt.slots] at X876 l876 y876 z876 st876 hQ876
          subst l876 y876 z876
          obtain ⟨hcase876, rfl, e876⟩ := hQ876
          try rw [List.append_nil] at X876
          obtain ⟨vq876, rfl, hvq876⟩ := own_case hcase876
          have k876 : Go p e below (s₁.setTop (entryFrame m #[(.int p1), (.int p2), (.long q3)] maxLocals)) (T876.setTop (mkF m 268 #[.val (.int p1), .val (.int p2), .val (.long q3), .second, .val (.ref a442), .val (.int vl), .val (.int ch446), .val (.int ch448), .val (.int ch450), .val (.int ch452), .val (.int ch454), .val (.int ch456), .val (.int vc6), .val (.ref b781), .unset] [(.int vq876)])) := fun t kk => k865 t (st876.trans kk)
          by_cases hc268_877 : vq876 = (0 : Int32)
          · have k878 : Go p e below (s₁.setTop (entryFrame m #[(.int p1), (.int p2), (.long q3)] maxLocals)) (T876.setTop (mkF m 281 #[.val (.int p1), .val (.int p2), .val (.long q3), .second, .val (.ref a442), .val (.int vl), .val (.int ch446), .val (.int ch448), .val (.int ch450), .val (.int ch452), .val (.int ch454), .val (.int ch456), .val (.int vc6), .val (.ref b781), .unset] [(.ref b781)])) := fun t kk => k876 t (by
              show Steps p.tables e below (T876.setTop (mkF m 268 #[.val (.int p1), .val (.int p2), .val (.long q3), .second, .val (.ref a442), .val (.int vl), .val (.int ch446), .val (.int ch448), .val (.int ch450), .val (.int ch452), .val (.int ch454), .val (.int ch456), .val (.int vc6), .val (.ref b781), .unset] [(.int vq876)])) _
              refine XS.ifYes X876.here hx rfl (pc0 := 268) (pc' := 279) rfl (hb hby at_268) rfl ((if0 _ _).trans (teq hc268_877).1) (by decide) (by decide) ?_
              show Steps p.tables e below (T876.setTop (mkF m 279 #[.val (.int p1), .val (.int p2), .val (.long q3), .second, .val (.ref a442), .val (.int vl), .val (.int ch446), .val (.int ch448), .val (.int ch450), .val (.int ch452), .val (.int ch454), .val (.int ch456), .val (.int vc6), .val (.ref b781), .unset] [])) _
              refine XS.aload X876.here hx rfl (hb hby at_279) rfl rfl ?_
              exact kk)
            have Xb880 : Stand p l e room_1 (s.setVm T865.vm) m #[(.int p1), (.int p2), (.long q3)] below meth c T876 _ _ _ := X876
            obtain ⟨a879, T879, h879, kn879, b879, kc879, X879, e879, E879, hS879, hk879, hZ879, hown879, xe879, xc879, xv879, V879, -, -, Cn879, lit879, nsf879, st879⟩ := ldcCH (s := s) (vm0 := T865.vm) Xb880 hx hZ865 hown865 (hw _ (List.mem_of_getElem? (i := 60) rfl)) wS0 e876 hS865 hk865 (EW.cons (hw _ (List.mem_of_getElem? (i := 60) rfl)) (by decide) (EW.cons (hw _ (List.mem_of_getElem? (i := 0) rfl)) (by decide) (EW.cons (hw _ (List.mem_of_getElem? (i := 50) rfl)) (by decide) EW.nil))) (List.mem_of_getElem? (i := 0) rfl) C865.1 (vs := [(.int (115 : Int32)), (.int (101 : Int32)), (.int (101 : Int32)), (.int (100 : Int32)), (.int (101 : Int32)), (.int (100 : Int32))]) (z := 6) ⟨by decide, by decide⟩ (by decide) rfl (g := (mkF m 281 #[.val (.int p1), .val (.int p2), .val (.long q3), .second, .val (.ref a442), .val (.int vl), .val (.int ch446), .val (.int ch448), .val (.int ch450), .val (.int ch452), .val (.int ch454), .val (.int ch456), .val (.int vc6), .val (.ref b781), .unset] [(.ref b781)])) rfl (hb hby at_281) (n := 24) (by decide) (by decide) (by decide) (by decide)
            have sf879_b781 := CHr.safe Cn879 f872.lt sf865_b781
            have sf879_b787 := CHr.safe Cn879 f871.lt sf865_b787
            have C879 := C865.trans Cn879
            have f881 := f867.ext E879
            have f882 := f868.ext E879
            have f883 := f869.ext E879
            have f884 := f870.ext E879
            have f885 := f871.ext E879
            have f886 := f872.ext E879
            have f887 := f873.ext E879
            have f888 := f874.ext E879
            have f889 := f875.ext E879
            have f890 := xe865.ext E879
            have f891 := xc865.ext E879
            have f892 := xv865.ext E879
            have f893 := V865.ext E879
            have K879 := (K865).ext E879
            have Zs879 : n0 ≤ h879.size := Nat.le_trans Zs865 E879.1
            have k879 : Go p e below (s₁.setTop (entryFrame m #[(.int p1), (.int p2), (.long q3)] maxLocals)) (T879.setTop (mkF m 283 #[.val (.int p1), .val (.int p2), .val (.long q3), .second, .val (.ref a442), .val (.int vl), .val (.int ch446), .val (.int ch448), .val (.int ch450), .val (.int ch452), .val (.int ch454), .val (.int ch456), .val (.int vc6), .val (.ref b781), .unset] [(.ref a879), (.ref b781)])) := fun t kk => k878 t (st879 t kk)
            obtain ⟨cq894, kq894, q894a, q894b, q894c⟩ := isOf hZ879 e879 f886
            obtain ⟨_, _, ⟨T894, L894, kx894, nx894⟩, -, X894, ⟨Lc894, hQ894, l894, y894, z894⟩, st894⟩ := X879.virtualBack hx (y := (⟨"java/lang/String", "equals", "(Ljava/lang/Object;)Z"⟩ : MethodName)) (z := (⟨"java/lang/String", "equals", "(Ljava/lang/Object;)Z"⟩ : MethodName)) hown879 (mvT hZ879 (hw _ (List.mem_of_getElem? (i := 51) rfl))) (mvT hZ879 (hw _ (List.mem_of_getElem? (i := 52) rfl))) (notFace_of_selects (args := #[]) (mvT hZ879 (hw _ (List.mem_of_getElem? (i := 54) rfl)))) (mvT hZ879 (hw _ (List.mem_of_getElem? (i := 54) rfl))) (mvT hZ879 (hw _ (List.mem_of_getElem? (i := 53) rfl))) (by decide) (StrChars.Road.eqW (W := 0) hZ879 heq (kI := 4) (hw _ (List.mem_of_getElem? (i := 2) rfl)) f886 f888 f887 f889 hcs858 (own_up _ hps858) (Nat.le_of_ble_eq_true rfl) xe879 xv879 xc879 V879 own_Sc (own_up _ own_Sb) (Nat.le_of_ble_eq_true rfl) (own_stakeep S1 K879) hs1 (by decide) (by decide)) q894a q894c (g := (mkF m 283 #[.val (.int p1), .val (.int p2), .val (.long q3), .second, .val (.ref a442), .val (.int vl), .val (.int ch446), .val (.int ch448), .val (.int ch450), .val (.int ch452), .val (.int ch454), .val (.int ch456), .val (.int vc6), .val (.ref b781), .unset] [(.ref a879), (.ref b781)])) rfl (by rw [hml]; rfl) (Steps.refl _) (argsL := [(.ref a879)]) (rest := []) (lenOf pd_3 rfl) rfl (by show 2 * 0 + _ ≤ _; exact Nat.le_of_eq rfl) (hb hby at_283) (fun _ _ => ⟨rfl, e879, (by decide : 9 + 0 ≤ _), (by decide : 102 + 0 ≤ _)⟩)
            dsimp only [Pt.U, Pt.locs, Pt.cells, Pt.slots] at X894 l894 y894 z894 st894 hQ894
            subst l894 y894 z894
            obtain ⟨hcase894, rfl, e894⟩ := hQ894
            try rw [List.append_nil] at X894
            obtain ⟨vq894, rfl, hvq894⟩ := own_case hcase894
            have k894 : Go p e below (s₁.setTop (entryFrame m #[(.int p1), (.int p2), (.long q3)] maxLocals)) (T894.setTop (mkF m 286 #[.val (.int p1), .val (.int p2), .val (.long q3), .second, .val (.ref a442), .val (.int vl), .val (.int ch446), .val (.int ch448), .val (.int ch450), .val (.int ch452), .val (.int ch454), .val (.int ch456), .val (.int vc6), .val (.ref b781), .unset] [(.int vq894)])) := fun t kk => k879 t (st894.trans kk)
            by_cases hc286_895 : vq894 = (0 : Int32)
            · have k896 : Go p e below (s₁.setTop (entryFrame m #[(.int p1), (.int p2), (.long q3)] maxLocals)) (T894.setTop (mkF m 302 #[.val (.int p1), .val (.int p2), .val (.long q3), .second, .val (.ref a442), .val (.int vl), .val (.int ch446), .val (.int ch448), .val (.int ch450), .val (.int ch452), .val (.int ch454), .val (.int ch456), .val (.int vc6), .val (.ref b781), .val .null] [(.ref b781)])) := fun t kk => k894 t (by
                show Steps p.tables e below (T894.setTop (mkF m 286 #[.val (.int p1), .val (.int p2), .val (.long q3), .second, .val (.ref a442), .val (.int vl), .val (.int ch446), .val (.int ch448), .val (.int ch450), .val (.int ch452), .val (.int ch454), .val (.int ch456), .val (.int vc6), .val (.ref b781), .unset] [(.int vq894)])) _
                refine XS.ifYes X894.here hx rfl (pc0 := 286) (pc' := 297) rfl (hb hby at_286) rfl ((if0 _ _).trans (teq hc286_895).1) (by decide) (by decide) ?_
                show Steps p.tables e below (T894.setTop (mkF m 297 #[.val (.int p1), .val (.int p2), .val (.long q3), .second, .val (.ref a442), .val (.int vl), .val (.int ch446), .val (.int ch448), .val (.int ch450), .val (.int ch452), .val (.int ch454), .val (.int ch456), .val (.int vc6), .val (.ref b781), .unset] [])) _
                refine XS.aconstNull X894.here hx rfl (hb hby at_297) ?_
                show Steps p.tables e below (T894.setTop (mkF m 298 #[.val (.int p1), .val (.int p2), .val (.long q3), .second, .val (.ref a442), .val (.int vl), .val (.int ch446), .val (.int ch448), .val (.int ch450), .val (.int ch452), .val (.int ch454), .val (.int ch456), .val (.int vc6), .val (.ref b781), .unset] [.null])) _
                refine XS.astore X894.here hx rfl (hb hby at_298) rfl rfl (l' := #[.val (.int p1), .val (.int p2), .val (.long q3), .second, .val (.ref a442), .val (.int vl), .val (.int ch446), .val (.int ch448), .val (.int ch450), .val (.int ch452), .val (.int ch454), .val (.int ch456), .val (.int vc6), .val (.ref b781), .val .null]) rfl ?_
                show Steps p.tables e below (T894.setTop (mkF m 300 #[.val (.int p1), .val (.int p2), .val (.long q3), .second, .val (.ref a442), .val (.int vl), .val (.int ch446), .val (.int ch448), .val (.int ch450), .val (.int ch452), .val (.int ch454), .val (.int ch456), .val (.int vc6), .val (.ref b781), .val .null] [])) _
                refine XS.aload X894.here hx rfl (hb hby at_300) rfl rfl ?_
                exact kk)
              obtain ⟨_, _, ⟨T897, L897, kx897, nx897⟩, -, X897, ⟨Lc897, hQ897, l897, y897, z897⟩, st897⟩ := Jvm.LawKit.callS X894 hx (y := (⟨"com/example/tabularium/tabularium/record/Deal", "named", "(Ljava/lang/String;)Lcom/example/tabularium/tabularium/record/Deal;"⟩ : MethodName)) hown879 (mvT hZ879 (hw _ (List.mem_of_getElem? (i := 61) rfl))) (mvT hZ879 (hw _ (List.mem_of_getElem? (i := 62) rfl))) (mvT hZ879 (hw _ (List.mem_of_getElem? (i := 63) rfl))) (mvT hZ879 (hw _ (List.mem_of_getElem? (i := 64) rfl))) (by decide) (backOf (W := 0) (rmD l Z a0 hw [] b781 a__VALUES kV a_LISTED a_SEEDED s_LISTED t_LISTED kL s_SEEDED t_SEEDED kS (([ch446, ch448, ch450, ch452, ch454, ch456, vc6] : List Int32).map (nar .char)) t858 kb858 (7 : Int32) _ cs h879 n0 Zs879 (own_stakeep SV K879) (PAV.keep K879 nin0) (PEV.keep K879) (f_LISTED.keep K879 nin0) (es_LISTED.keep K879) (cs_LISTED.keep K879 nin0) (vs_LISTED.keep K879 nin0) (as_LISTED.keep K879 nin0) (f_SEEDED.keep K879 nin0) (es_SEEDED.keep K879) (cs_SEEDED.keep K879 nin0) (vs_SEEDED.keep K879 nin0) (as_SEEDED.keep K879 nin0) f886 f888 f887 f889 hcs858 (own_up _ hps858) (Nat.le_of_ble_eq_true rfl) (own_stakeep S1 K879) hs1) hZ879 (hw _ (List.mem_of_getElem? (i := 64) rfl)) (hw _ (List.mem_of_getElem? (i := 63) rfl)) (by decide) (by decide)) (g := (mkF m 302 #[.val (.int p1), .val (.int p2), .val (.long q3), .second, .val (.ref a442), .val (.int vl), .val (.int ch446), .val (.int ch448), .val (.int ch450), .val (.int ch452), .val (.int ch454), .val (.int ch456), .val (.int vc6), .val (.ref b781), .val .null] [(.ref b781)])) rfl (by rw [hml]; rfl) (argsL := [(.ref b781)]) (rest := []) (lenOf pd_6 rfl) rfl (by show 2 * 0 + _ ≤ _; exact Nat.le_of_eq rfl) (hb hby at_302) (fun _ _ => ⟨rfl, e894, (by decide : 9 + 1 ≤ _), (by decide : 102 + 2 ≤ _)⟩)
              dsimp only [Pt.U, Pt.locs, Pt.cells, Pt.slots] at X897 l897 y897 z897 st897 hQ897
              subst l897 y897 z897
              obtain ⟨hv897, N897q, K897q⟩ := hQ897
              rw [show own_named (([ch446, ch448, ch450, ch452, ch454, ch456, vc6] : List Int32).map (nar .char)) a_LISTED a_SEEDED = .null from (by unfold own_named; rw [if_neg (fun q => own_no hvq876 hc268_877 q.symm), if_neg (fun q => own_no hvq894 hc286_895 q.symm)])] at hv897
              subst hv897
              have N897 := Fr.app N858 N897q
              have hku897 := Nat.le_trans hk879 K897q.1
              have K897 := (K879).trans K897q all0
              have Zs897 : n0 ≤ T897.heap.size := Nat.le_trans Zs879 K897q.1
              have k897 : Go p e below (s₁.setTop (entryFrame m #[(.int p1), (.int p2), (.long q3)] maxLocals)) (T897.setTop (mkF m 305 #[.val (.int p1), .val (.int p2), .val (.long q3), .second, .val (.ref a442), .val (.int vl), .val (.int ch446), .val (.int ch448), .val (.int ch450), .val (.int ch452), .val (.int ch454), .val (.int ch456), .val (.int vc6), .val (.ref b781), .val .null] [.null])) := fun t kk => k896 t (st897 t kk)
              have k898 : Go p e below (s₁.setTop (entryFrame m #[(.int p1), (.int p2), (.long q3)] maxLocals)) (T897.setTop (mkF m 315 #[.val (.int p1), .val (.int p2), .val (.long q3), .second, .val (.ref a442), .val (.int vl), .val (.int ch446), .val (.int ch448), .val (.int ch450), .val (.int ch452), .val (.int ch454), .val (.int ch456), .val (.int vc6), .val (.ref b781), .val .null] [(.int (1 : Int32))])) := fun t kk => k897 t (by
                show Steps p.tables e below (T897.setTop (mkF m 305 #[.val (.int p1), .val (.int p2), .val (.long q3), .second, .val (.ref a442), .val (.int vl), .val (.int ch446), .val (.int ch448), .val (.int ch450), .val (.int ch452), .val (.int ch454), .val (.int ch456), .val (.int vc6), .val (.ref b781), .val .null] [.null])) _
                refine XS.aload X897.here hx rfl (hb hby at_305) rfl rfl ?_
                show Steps p.tables e below (T897.setTop (mkF m 307 #[.val (.int p1), .val (.int p2), .val (.long q3), .second, .val (.ref a442), .val (.int vl), .val (.int ch446), .val (.int ch448), .val (.int ch450), .val (.int ch452), .val (.int ch454), .val (.int ch456), .val (.int vc6), .val (.ref b781), .val .null] [.null, .null])) _
                refine Jvm.RoadKit.acmp (g := (mkF m 307 #[.val (.int p1), .val (.int p2), .val (.long q3), .second, .val (.ref a442), .val (.int vl), .val (.int ch446), .val (.int ch448), .val (.int ch450), .val (.int ch452), .val (.int ch454), .val (.int ch456), .val (.int vc6), .val (.ref b781), .val .null] [.null, .null])) X897 hx rfl rfl rfl (pc0 := 307) (pc' := 310) (same := true) rfl (hb hby at_307) rfl (decide_eq_true (rfl : Value.null = Value.null)) (by decide) (by decide) ?_
                show Steps p.tables e below (T897.setTop (mkF m 310 #[.val (.int p1), .val (.int p2), .val (.long q3), .second, .val (.ref a442), .val (.int vl), .val (.int ch446), .val (.int ch448), .val (.int ch450), .val (.int ch452), .val (.int ch454), .val (.int ch456), .val (.int vc6), .val (.ref b781), .val .null] [])) _
                refine XS.iconst X897.here hx rfl (hb hby at_310) ?_
                show Steps p.tables e below (T897.setTop (mkF m 311 #[.val (.int p1), .val (.int p2), .val (.long q3), .second, .val (.ref a442), .val (.int vl), .val (.int ch446), .val (.int ch448), .val (.int ch450), .val (.int ch452), .val (.int ch454), .val (.int ch456), .val (.int vc6), .val (.ref b781), .val .null] [(.int (1 : Int32))])) _
                refine XS.goto X897.here hx rfl (pc0 := 311) (pc' := 315) rfl (hb hby at_311) (by decide) (by decide) ?_
                exact kk)
              have Xb900 : Stand p l e room_1 (s.setVm T879.vm) m #[(.int p1), (.int p2), (.long q3)] below meth c T897 _ _ _ := X897
              obtain ⟨fs, hr, hrun, hended, hW⟩ := leaveW Xb900 hS879 hku897 (v := some (.int (1 : Int32))) (fun h => by rw [Bd.returns] at h; cases h)
              refine ⟨_, _, k898 _ ?_, hrun, hended, _, _, rfl, ?_, hW.1, hW.2.1, hW.2.2.1, hW.2.2.2.mono (by decide) (by decide)⟩
              · show Steps p.tables e below (T897.setTop (mkF m 315 #[.val (.int p1), .val (.int p2), .val (.long q3), .second, .val (.ref a442), .val (.int vl), .val (.int ch446), .val (.int ch448), .val (.int ch450), .val (.int ch452), .val (.int ch454), .val (.int ch456), .val (.int vc6), .val (.ref b781), .val .null] [(.int (1 : Int32))])) _
                exact retN X897 hx (t := .boolean) Bd.returns (by simp) (hb hby at_315) hr
              · show Q0 Z p1 p2 q3 a__VALUES kV a_LISTED a_SEEDED s_LISTED t_LISTED kL s_SEEDED t_SEEDED kS cs fm h0 n0 _ T897.heap _
                exact ⟨rfl, N897⟩
            · have k901 : Go p e below (s₁.setTop (entryFrame m #[(.int p1), (.int p2), (.long q3)] maxLocals)) (T894.setTop (mkF m 289 #[.val (.int p1), .val (.int p2), .val (.long q3), .second, .val (.ref a442), .val (.int vl), .val (.int ch446), .val (.int ch448), .val (.int ch450), .val (.int ch452), .val (.int ch454), .val (.int ch456), .val (.int vc6), .val (.ref b781), .unset] [])) := fun t kk => k894 t (by
                show Steps p.tables e below (T894.setTop (mkF m 286 #[.val (.int p1), .val (.int p2), .val (.long q3), .second, .val (.ref a442), .val (.int vl), .val (.int ch446), .val (.int ch448), .val (.int ch450), .val (.int ch452), .val (.int ch454), .val (.int ch456), .val (.int vc6), .val (.ref b781), .unset] [(.int vq894)])) _
                refine XS.ifNo X894.here hx rfl (hb hby at_286) rfl ((if0 _ _).trans (feq hc286_895).1) ?_
                exact kk)
              obtain ⟨T902, X902, e902, st902⟩ := getS2 X894 hx hZ879 hown879 (host := "") (Or.inl (hw _ (List.mem_of_getElem? (i := 96) rfl))) Via.refl e894 (own_stakeep S_SEEDED K879) (g := (mkF m 289 #[.val (.int p1), .val (.int p2), .val (.long q3), .second, .val (.ref a442), .val (.int vl), .val (.int ch446), .val (.int ch448), .val (.int ch450), .val (.int ch452), .val (.int ch454), .val (.int ch456), .val (.int vc6), .val (.ref b781), .unset] [])) rfl (hb hby at_289)
              have k902 : Go p e below (s₁.setTop (entryFrame m #[(.int p1), (.int p2), (.long q3)] maxLocals)) (T902.setTop (mkF m 292 #[.val (.int p1), .val (.int p2), .val (.long q3), .second, .val (.ref a442), .val (.int vl), .val (.int ch446), .val (.int ch448), .val (.int ch450), .val (.int ch452), .val (.int ch454), .val (.int ch456), .val (.int vc6), .val (.ref b781), .unset] [(.ref a_SEEDED)])) := fun t kk => k901 t (st902 t kk)
              have k903 : Go p e below (s₁.setTop (entryFrame m #[(.int p1), (.int p2), (.long q3)] maxLocals)) (T902.setTop (mkF m 302 #[.val (.int p1), .val (.int p2), .val (.long q3), .second, .val (.ref a442), .val (.int vl), .val (.int ch446), .val (.int ch448), .val (.int ch450), .val (.int ch452), .val (.int ch454), .val (.int ch456), .val (.int vc6), .val (.ref b781), .val (.ref a_SEEDED)] [(.ref b781)])) := fun t kk => k902 t (by
                show Steps p.tables e below (T902.setTop (mkF m 292 #[.val (.int p1), .val (.int p2), .val (.long q3), .second, .val (.ref a442), .val (.int vl), .val (.int ch446), .val (.int ch448), .val (.int ch450), .val (.int ch452), .val (.int ch454), .val (.int ch456), .val (.int vc6), .val (.ref b781), .unset] [(.ref a_SEEDED)])) _
                refine XS.astore X902.here hx rfl (hb hby at_292) rfl rfl (l' := #[.val (.int p1), .val (.int p2), .val (.long q3), .second, .val (.ref a442), .val (.int vl), .val (.int ch446), .val (.int ch448), .val (.int ch450), .val (.int ch452), .val (.int ch454), .val (.int ch456), .val (.int vc6), .val (.ref b781), .val (.ref a_SEEDED)]) rfl ?_
                show Steps p.tables e below (T902.setTop (mkF m 294 #[.val (.int p1), .val (.int p2), .val (.long q3), .second, .val (.ref a442), .val (.int vl), .val (.int ch446), .val (.int ch448), .val (.int ch450), .val (.int ch452), .val (.int ch454), .val (.int ch456), .val (.int vc6), .val (.ref b781), .val (.ref a_SEEDED)] [])) _
                refine XS.goto X902.here hx rfl (pc0 := 294) (pc' := 300) rfl (hb hby at_294) (by decide) (by decide) ?_
                show Steps p.tables e below (T902.setTop (mkF m 300 #[.val (.int p1), .val (.int p2), .val (.long q3), .second, .val (.ref a442), .val (.int vl), .val (.int ch446), .val (.int ch448), .val (.int ch450), .val (.int ch452), .val (.int ch454), .val (.int ch456), .val (.int vc6), .val (.ref b781), .val (.ref a_SEEDED)] [])) _
                refine XS.aload X902.here hx rfl (hb hby at_300) rfl rfl ?_
                exact kk)
              obtain ⟨_, _, ⟨T904, L904, kx904, nx904⟩, -, X904, ⟨Lc904, hQ904, l904, y904, z904⟩, st904⟩ := Jvm.LawKit.callS X902 hx (y := (⟨"com/example/tabularium/tabularium/record/Deal", "named", "(Ljava/lang/String;)Lcom/example/tabularium/tabularium/record/Deal;"⟩ : MethodName)) hown879 (mvT hZ879 (hw _ (List.mem_of_getElem? (i := 61) rfl))) (mvT hZ879 (hw _ (List.mem_of_getElem? (i := 62) rfl))) (mvT hZ879 (hw _ (List.mem_of_getElem? (i := 63) rfl))) (mvT hZ879 (hw _ (List.mem_of_getElem? (i := 64) rfl))) (by decide) (backOf (W := 0) (rmD l Z a0 hw [] b781 a__VALUES kV a_LISTED a_SEEDED s_LISTED t_LISTED kL s_SEEDED t_SEEDED kS (([ch446, ch448, ch450, ch452, ch454, ch456, vc6] : List Int32).map (nar .char)) t858 kb858 (7 : Int32) _ cs h879 n0 Zs879 (own_stakeep SV K879) (PAV.keep K879 nin0) (PEV.keep K879) (f_LISTED.keep K879 nin0) (es_LISTED.keep K879) (cs_LISTED.keep K879 nin0) (vs_LISTED.keep K879 nin0) (as_LISTED.keep K879 nin0) (f_SEEDED.keep K879 nin0) (es_SEEDED.keep K879) (cs_SEEDED.keep K879 nin0) (vs_SEEDED.keep K879 nin0) (as_SEEDED.keep K879 nin0) f886 f888 f887 f889 hcs858 (own_up _ hps858) (Nat.le_of_ble_eq_true rfl) (own_stakeep S1 K879) hs1) hZ879 (hw _ (List.mem_of_getElem? (i := 64) rfl)) (hw _ (List.mem_of_getElem? (i := 63) rfl)) (by decide) (by decide)) (g := (mkF m 302 #[.val (.int p1), .val (.int p2), .val (.long q3), .second, .val (.ref a442), .val (.int vl), .val (.int ch446), .val (.int ch448), .val (.int ch450), .val (.int ch452), .val (.int ch454), .val (.int ch456), .val (.int vc6), .val (.ref b781), .val (.ref a_SEEDED)] [(.ref b781)])) rfl (by rw [hml]; rfl) (argsL := [(.ref b781)]) (rest := []) (lenOf pd_6 rfl) rfl (by show 2 * 0 + _ ≤ _; exact Nat.le_of_eq rfl) (hb hby at_302) (fun _ _ => ⟨rfl, e902, (by decide : 9 + 1 ≤ _), (by decide : 102 + 2 ≤ _)⟩)
              dsimp only [Pt.U, Pt.locs, Pt.cells, Pt.slots] at X904 l904 y904 z904 st904 hQ904
              subst l904 y904 z904
              obtain ⟨hv904, N904q, K904q⟩ := hQ904
              rw [show own_named (([ch446, ch448, ch450, ch452, ch454, ch456, vc6] : List Int32).map (nar .char)) a_LISTED a_SEEDED = .ref a_SEEDED from (by unfold own_named; rw [if_neg (fun q => own_no hvq876 hc268_877 q.symm), if_pos (own_yes hvq894 hc286_895).symm])] at hv904
              subst hv904
              have N904 := Fr.app N858 N904q
              have hku904 := Nat.le_trans hk879 K904q.1
              have K904 := (K879).trans K904q all0
              have Zs904 : n0 ≤ T904.heap.size := Nat.le_trans Zs879 K904q.1
              have k904 : Go p e below (s₁.setTop (entryFrame m #[(.int p1), (.int p2), (.long q3)] maxLocals)) (T904.setTop (mkF m 305 #[.val (.int p1), .val (.int p2), .val (.long q3), .second, .val (.ref a442), .val (.int vl), .val (.int ch446), .val (.int ch448), .val (.int ch450), .val (.int ch452), .val (.int ch454), .val (.int ch456), .val (.int vc6), .val (.ref b781), .val (.ref a_SEEDED)] [(.ref a_SEEDED)])) := fun t kk => k903 t (st904 t kk)
              have k905 : Go p e below (s₁.setTop (entryFrame m #[(.int p1), (.int p2), (.long q3)] maxLocals)) (T904.setTop (mkF m 315 #[.val (.int p1), .val (.int p2), .val (.long q3), .second, .val (.ref a442), .val (.int vl), .val (.int ch446), .val (.int ch448), .val (.int ch450), .val (.int ch452), .val (.int ch454), .val (.int ch456), .val (.int vc6), .val (.ref b781), .val (.ref a_SEEDED)] [(.int (1 : Int32))])) := fun t kk => k904 t (by
                show Steps p.tables e below (T904.setTop (mkF m 305 #[.val (.int p1), .val (.int p2), .val (.long q3), .second, .val (.ref a442), .val (.int vl), .val (.int ch446), .val (.int ch448), .val (.int ch450), .val (.int ch452), .val (.int ch454), .val (.int ch456), .val (.int vc6), .val (.ref b781), .val (.ref a_SEEDED)] [(.ref a_SEEDED)])) _
                refine XS.aload X904.here hx rfl (hb hby at_305) rfl rfl ?_
                show Steps p.tables e below (T904.setTop (mkF m 307 #[.val (.int p1), .val (.int p2), .val (.long q3), .second, .val (.ref a442), .val (.int vl), .val (.int ch446), .val (.int ch448), .val (.int ch450), .val (.int ch452), .val (.int ch454), .val (.int ch456), .val (.int vc6), .val (.ref b781), .val (.ref a_SEEDED)] [(.ref a_SEEDED), (.ref a_SEEDED)])) _
                refine Jvm.RoadKit.acmp (g := (mkF m 307 #[.val (.int p1), .val (.int p2), .val (.long q3), .second, .val (.ref a442), .val (.int vl), .val (.int ch446), .val (.int ch448), .val (.int ch450), .val (.int ch452), .val (.int ch454), .val (.int ch456), .val (.int vc6), .val (.ref b781), .val (.ref a_SEEDED)] [(.ref a_SEEDED), (.ref a_SEEDED)])) X904 hx rfl rfl rfl (pc0 := 307) (pc' := 310) (same := true) rfl (hb hby at_307) rfl (decide_eq_true (rfl : (Value.ref a_SEEDED) = (Value.ref a_SEEDED))) (by decide) (by decide) ?_
                show Steps p.tables e below (T904.setTop (mkF m 310 #[.val (.int p1), .val (.int p2), .val (.long q3), .second, .val (.ref a442), .val (.int vl), .val (.int ch446), .val (.int ch448), .val (.int ch450), .val (.int ch452), .val (.int ch454), .val (.int ch456), .val (.int vc6), .val (.ref b781), .val (.ref a_SEEDED)] [])) _
                refine XS.iconst X904.here hx rfl (hb hby at_310) ?_
                show Steps p.tables e below (T904.setTop (mkF m 311 #[.val (.int p1), .val (.int p2), .val (.long q3), .second, .val (.ref a442), .val (.int vl), .val (.int ch446), .val (.int ch448), .val (.int ch450), .val (.int ch452), .val (.int ch454), .val (.int ch456), .val (.int vc6), .val (.ref b781), .val (.ref a_SEEDED)] [(.int (1 : Int32))])) _
                refine XS.goto X904.here hx rfl (pc0 := 311) (pc' := 315) rfl (hb hby at_311) (by decide) (by decide) ?_
                exact kk)
              have Xb907 : Stand p l e room_1 (s.setVm T879.vm) m #[(.int p1), (.int p2), (.long q3)] below meth c T904 _ _ _ := X904
              obtain ⟨fs, hr, hrun, hended, hW⟩ := leaveW Xb907 hS879 hku904 (v := some (.int (1 : Int32))) (fun h => by rw [Bd.returns] at h; cases h)
              refine ⟨_, _, k905 _ ?_, hrun, hended, _, _, rfl, ?_, hW.1, hW.2.1, hW.2.2.1, hW.2.2.2.mono (by decide) (by decide)⟩
              · show Steps p.tables e below (T904.setTop (mkF m 315 #[.val (.int p1), .val (.int p2), .val (.long q3), .second, .val (.ref a442), .val (.int vl), .val (.int ch446), .val (.int ch448), .val (.int ch450), .val (.int ch452), .val (.int ch454), .val (.int ch456), .val (.int vc6), .val (.ref b781), .val (.ref a_SEEDED)] [(.int (1 : Int32))])) _
                exact retN X904 hx (t := .boolean) Bd.returns (by simp) (hb hby at_315) hr
              · show Q0 Z p1 p2 q3 a__VALUES kV a_LISTED a_SEEDED s_LISTED t_LISTED kL s_SEEDED t_SEEDED kS cs fm h0 n0 _ T904.heap _
                exact ⟨rfl, N904⟩
          · have k908 : Go p e below (s₁.setTop (entryFrame m #[(.int p1), (.int p2), (.long q3)] maxLocals)) (T876.setTop (mkF m 271 #[.val (.int p1), .val (.int p2), .val (.long q3), .second, .val (.ref a442), .val (.int vl), .val (.int ch446), .val (.int ch448), .val (.int ch450), .val (.int ch452), .val (.int ch454), .val (.int ch456), .val (.int vc6), .val (.ref b781), .unset] [])) := fun t kk => k876 t (by
              show Steps p.tables e below (T876.setTop (mkF m 268 #[.val (.int p1), .val (.int p2), .val (.long q3), .second, .val (.ref a442), .val (.int vl), .val (.int ch446), .val (.int ch448), .val (.int ch450), .val (.int ch452), .val (.int ch454), .val (.int ch456), .val (.int vc6), .val (.ref b781), .unset] [(.int vq876)])) _
              refine XS.ifNo X876.here hx rfl (hb hby at_268) rfl ((if0 _ _).trans (feq hc268_877).1) ?_
              exact kk)
            obtain ⟨T909, X909, e909, st909⟩ := getS2 X876 hx hZ865 hown865 (host := "") (Or.inl (hw _ (List.mem_of_getElem? (i := 95) rfl))) Via.refl e876 (own_stakeep S_LISTED K865) (g := (mkF m 271 #[.val (.int p1), .val (.int p2), .val (.long q3), .second, .val (.ref a442), .val (.int vl), .val (.int ch446), .val (.int ch448), .val (.int ch450), .val (.int ch452), .val (.int ch454), .val (.int ch456), .val (.int vc6), .val (.ref b781), .unset] [])) rfl (hb hby at_271)
            have k909 : Go p e below (s₁.setTop (entryFrame m #[(.int p1), (.int p2), (.long q3)] maxLocals)) (T909.setTop (mkF m 274 #[.val (.int p1), .val (.int p2), .val (.long q3), .second, .val (.ref a442), .val (.int vl), .val (.int ch446), .val (.int ch448), .val (.int ch450), .val (.int ch452), .val (.int ch454), .val (.int ch456), .val (.int vc6), .val (.ref b781), .unset] [(.ref a_LISTED)])) := fun t kk => k908 t (st909 t kk)
            have k910 : Go p e below (s₁.setTop (entryFrame m #[(.int p1), (.int p2), (.long q3)] maxLocals)) (T909.setTop (mkF m 302 #[.val (.int p1), .val (.int p2), .val (.long q3), .second, .val (.ref a442), .val (.int vl), .val (.int ch446), .val (.int ch448), .val (.int ch450), .val (.int ch452), .val (.int ch454), .val (.int ch456), .val (.int vc6), .val (.ref b781), .val (.ref a_LISTED)] [(.ref b781)])) := fun t kk => k909 t (by
              show Steps p.tables e below (T909.setTop (mkF m 274 #[.val (.int p1), .val (.int p2), .val (.long q3), .second, .val (.ref a442), .val (.int vl), .val (.int ch446), .val (.int ch448), .val (.int ch450), .val (.int ch452), .val (.int ch454), .val (.int ch456), .val (.int vc6), .val (.ref b781), .unset] [(.ref a_LISTED)])) _
              refine XS.astore X909.here hx rfl (hb hby at_274) rfl rfl (l' := #[.val (.int p1), .val (.int p2), .val (.long q3), .second, .val (.ref a442), .val (.int vl), .val (.int ch446), .val (.int ch448), .val (.int ch450), .val (.int ch452), .val (.int ch454), .val (.int ch456), .val (.int vc6), .val (.ref b781), .val (.ref a_LISTED)]) rfl ?_
              show Steps p.tables e below (T909.setTop (mkF m 276 #[.val (.int p1), .val (.int p2), .val (.long q3), .second, .val (.ref a442), .val (.int vl), .val (.int ch446), .val (.int ch448), .val (.int ch450), .val (.int ch452), .val (.int ch454), .val (.int ch456), .val (.int vc6), .val (.ref b781), .val (.ref a_LISTED)] [])) _
              refine XS.goto X909.here hx rfl (pc0 := 276) (pc' := 300) rfl (hb hby at_276) (by decide) (by decide) ?_
              show Steps p.tables e below (T909.setTop (mkF m 300 #[.val (.int p1), .val (.int p2), .val (.long q3), .second, .val (.ref a442), .val (.int vl), .val (.int ch446), .val (.int ch448), .val (.int ch450), .val (.int ch452), .val (.int ch454), .val (.int ch456), .val (.int vc6), .val (.ref b781), .val (.ref a_LISTED)] [])) _
              refine XS.aload X909.here hx rfl (hb hby at_300) rfl rfl ?_
              exact kk)
            obtain ⟨_, _, ⟨T911, L911, kx911, nx911⟩, -, X911, ⟨Lc911, hQ911, l911, y911, z911⟩, st911⟩ := Jvm.LawKit.callS X909 hx (y := (⟨"com/example/tabularium/tabularium/record/Deal", "named", "(Ljava/lang/String;)Lcom/example/tabularium/tabularium/record/Deal;"⟩ : MethodName)) hown865 (mvT hZ865 (hw _ (List.mem_of_getElem? (i := 61) rfl))) (mvT hZ865 (hw _ (List.mem_of_getElem? (i := 62) rfl))) (mvT hZ865 (hw _ (List.mem_of_getElem? (i := 63) rfl))) (mvT hZ865 (hw _ (List.mem_of_getElem? (i := 64) rfl))) (by decide) (backOf (W := 0) (rmD l Z a0 hw [] b781 a__VALUES kV a_LISTED a_SEEDED s_LISTED t_LISTED kL s_SEEDED t_SEEDED kS (([ch446, ch448, ch450, ch452, ch454, ch456, vc6] : List Int32).map (nar .char)) t858 kb858 (7 : Int32) _ cs h865 n0 Zs865 (own_stakeep SV K865) (PAV.keep K865 nin0) (PEV.keep K865) (f_LISTED.keep K865 nin0) (es_LISTED.keep K865) (cs_LISTED.keep K865 nin0) (vs_LISTED.keep K865 nin0) (as_LISTED.keep K865 nin0) (f_SEEDED.keep K865 nin0) (es_SEEDED.keep K865) (cs_SEEDED.keep K865 nin0) (vs_SEEDED.keep K865 nin0) (as_SEEDED.keep K865 nin0) f872 f874 f873 f875 hcs858 (own_up _ hps858) (Nat.le_of_ble_eq_true rfl) (own_stakeep S1 K865) hs1) hZ865 (hw _ (List.mem_of_getElem? (i := 64) rfl)) (hw _ (List.mem_of_getElem? (i := 63) rfl)) (by decide) (by decide)) (g := (mkF m 302 #[.val (.int p1), .val (.int p2), .val (.long q3), .second, .val (.ref a442), .val (.int vl), .val (.int ch446), .val (.int ch448), .val (.int ch450), .val (.int ch452), .val (.int ch454), .val (.int ch456), .val (.int vc6), .val (.ref b781), .val (.ref a_LISTED)] [(.ref b781)])) rfl (by rw [hml]; rfl) (argsL := [(.ref b781)]) (rest := []) (lenOf pd_6 rfl) rfl (by show 2 * 0 + _ ≤ _; exact Nat.le_of_eq rfl) (hb hby at_302) (fun _ _ => ⟨rfl, e909, (by decide : 7 + 1 ≤ _), (by decide : 74 + 2 ≤ _)⟩)
            dsimp only [Pt.U, Pt.locs, Pt.cells, Pt.slots] at X911 l911 y911 z911 st911 hQ911
            subst l911 y911 z911
            obtain ⟨hv911, N911q, K911q⟩ := hQ911
            rw [show own_named (([ch446, ch448, ch450, ch452, ch454, ch456, vc6] : List Int32).map (nar .char)) a_LISTED a_SEEDED = .ref a_LISTED from (by unfold own_named; rw [if_pos (own_yes hvq876 hc268_877).symm])] at hv911
            subst hv911
            have N911 := Fr.app N858 N911q
            have hku911 := Nat.le_trans hk865 K911q.1
            have K911 := (K865).trans K911q all0
            have Zs911 : n0 ≤ T911.heap.size := Nat.le_trans Zs865 K911q.1
            have k911 : Go p e below (s₁.setTop (entryFrame m #[(.int p1), (.int p2), (.long q3)] maxLocals)) (T911.setTop (mkF m 305 #[.val (.int p1), .val (.int p2), .val (.long q3), .second, .val (.ref a442), .val (.int vl), .val (.int ch446), .val (.int ch448), .val (.int ch450), .val (.int ch452), .val (.int ch454), .val (.int ch456), .val (.int vc6), .val (.ref b781), .val (.ref a_LISTED)] [(.ref a_LISTED)])) := fun t kk => k910 t (st911 t kk)
            have k912 : Go p e below (s₁.setTop (entryFrame m #[(.int p1), (.int p2), (.long q3)] maxLocals)) (T911.setTop (mkF m 315 #[.val (.int p1), .val (.int p2), .val (.long q3), .second, .val (.ref a442), .val (.int vl), .val (.int ch446), .val (.int ch448), .val (.int ch450), .val (.int ch452), .val (.int ch454), .val (.int ch456), .val (.int vc6), .val (.ref b781), .val (.ref a_LISTED)] [(.int (1 : Int32))])) := fun t kk => k911 t (by
              show Steps p.tables e below (T911.setTop (mkF m 305 #[.val (.int p1), .val (.int p2), .val (.long q3), .second, .val (.ref a442), .val (.int vl), .val (.int ch446), .val (.int ch448), .val (.int ch450), .val (.int ch452), .val (.int ch454), .val (.int ch456), .val (.int vc6), .val (.ref b781), .val (.ref a_LISTED)] [(.ref a_LISTED)])) _
              refine XS.aload X911.here hx rfl (hb hby at_305) rfl rfl ?_
              show Steps p.tables e below (T911.setTop (mkF m 307 #[.val (.int p1), .val (.int p2), .val (.long q3), .second, .val (.ref a442), .val (.int vl), .val (.int ch446), .val (.int ch448), .val (.int ch450), .val (.int ch452), .val (.int ch454), .val (.int ch456), .val (.int vc6), .val (.ref b781), .val (.ref a_LISTED)] [(.ref a_LISTED), (.ref a_LISTED)])) _
              refine Jvm.RoadKit.acmp (g := (mkF m 307 #[.val (.int p1), .val (.int p2), .val (.long q3), .second, .val (.ref a442), .val (.int vl), .val (.int ch446), .val (.int ch448), .val (.int ch450), .val (.int ch452), .val (.int ch454), .val (.int ch456), .val (.int vc6), .val (.ref b781), .val (.ref a_LISTED)] [(.ref a_LISTED), (.ref a_LISTED)])) X911 hx rfl rfl rfl (pc0 := 307) (pc' := 310) (same := true) rfl (hb hby at_307) rfl (decide_eq_true (rfl : (Value.ref a_LISTED) = (Value.ref a_LISTED))) (by decide) (by decide) ?_
              show Steps p.tables e below (T911.setTop (mkF m 310 #[.val (.int p1), .val (.int p2), .val (.long q3), .second, .val (.ref a442), .val (.int vl), .val (.int ch446), .val (.int ch448), .val (.int ch450), .val (.int ch452), .val (.int ch454), .val (.int ch456), .val (.int vc6), .val (.ref b781), .val (.ref a_LISTED)] [])) _
              refine XS.iconst X911.here hx rfl (hb hby at_310) ?_
              show Steps p.tables e below (T911.setTop (mkF m 311 #[.val (.int p1), .val (.int p2), .val (.long q3), .second, .val (.ref a442), .val (.int vl), .val (.int ch446), .val (.int ch448), .val (.int ch450), .val (.int ch452), .val (.int ch454), .val (.int ch456), .val (.int vc6), .val (.ref b781), .val (.ref a_LISTED)] [(.int (1 : Int32))])) _
              refine XS.goto X911.here hx rfl (pc0 := 311) (pc' := 315) rfl (hb hby at_311) (by decide) (by decide) ?_
              exact kk)
            have Xb914 : Stand p l e room_1 (s.setVm T865.vm) m #[(.int p1), (.int p2), (.long q3)] below meth c T911 _ _ _ := X911
            obtain ⟨fs, hr, hrun, hended, hW⟩ := leaveW Xb914 hS865 hku911 (v := some (.int (1 : Int32))) (fun h => by rw [Bd.returns] at h; cases h)
            refine ⟨_, _, k912 _ ?_, hrun, hended, _, _, rfl, ?_, hW.1, hW.2.1, hW.2.2.1, hW.2.2.2.mono (by decide) (by decide)⟩
            · show Steps p.tables e below (T911.setTop (mkF m 315 #[.val (.int p1), .val (.int p2), .val (.long q3), .second, .val (.ref a442), .val (.int vl), .val (.int ch446), .val (.int ch448), .val (.int ch450), .val (.int ch452), .val (.int ch454), .val (.int ch456), .val (.int vc6), .val (.ref b781), .val (.ref a_LISTED)] [(.int (1 : Int32))])) _
              exact retN X911 hx (t := .boolean) Bd.returns (by simp) (hb hby at_315) hr
            · show Q0 Z p1 p2 q3 a__VALUES kV a_LISTED a_SEEDED s_LISTED t_LISTED kL s_SEEDED t_SEEDED kS cs fm h0 n0 _ T911.heap _
              exact ⟨rfl, N911⟩
set_option maxRecDepth 65536 in
set_option maxHeartbeats 40000000 in
theorem comes_1 {Post : Tables → Env → Array Value → State → Outcome → State → Prop} (hpost : ∀ tb e args s v u, (limb_1_1.after args s (.returned v) u = true ∧ limb_1_2.after args s (.returned v) u = true ∧ True) → ReturnedEndW s (.returned v) u (Jvm.fieldLocs frame_1_writes args s ++ Jvm.arrayLocs frame_1_arrays args s ++ Jvm.staticLocs frame_1_statics s) 24 3200 → Post tb e args s (.returned v) u) :
    ArmFor flags0 classFile x code maxLocals ret World_1 tables_1 room_1 Calls_1 rest_1 Pre_1 Post := by
  intro l hfl _ _ p e ha hc hk s m args below hf hA hF happ hP
  obtain ⟨hcalls, hrest, hpre⟩ := hP
  obtain ⟨-, -, -, hnamed, -, -, -, hat⟩ := (Spec.applies_iff hf).mp happ
  obtain ⟨hg, hn⟩ := and_e (Cond.before_iff.mp (show (Jvm.Cond.and given_1 narrow_1).before args s = true from hpre))
  obtain ⟨g1, g2⟩ := and_e hg
  obtain ⟨g3, g4⟩ := and_e g2
  obtain ⟨g5, g6⟩ := and_e g4
  obtain ⟨w0, w1, w2, rfl⟩ : ∃ w0 w1 w2 : Value, args = #[w0, w1, w2] := by
    have hs : args.size = 3 := by simpa [Cond.value, given_1] using g1
    obtain ⟨L⟩ := args
    match L, hs with
    | [w0, w1, w2], _ => exact ⟨w0, w1, w2, rfl⟩
  have hw := fun d (hd : d ∈ tables_1) => atoms_spec (ws := Jvm.Cond.code x code maxLocals ret :: tables_1) hat d (List.mem_cons_of_mem _ hd)
  have hfit : Fit s := fun {y c} hc i hi => by
    obtain ⟨ha, rfl⟩ := Array.getElem?_eq_some_iff.mp hc
    have q := List.all_eq_true.mp ((Array.all_eq_true_iff_forall_mem.mp hF) _ (Array.getElem_mem ha)) i (List.mem_range.mpr hi)
    simpa [Array.getElem?_eq_getElem hi] using q
  obtain ⟨hsets, hown0⟩ := atoms_of _ (rest_1_c_eq ▸ (show rest_1_c.before _ s = true from hrest))
  obtain ⟨i0, ei0⟩ := is_v g3
  obtain rfl : w0 = (.int i0) := Option.some.inj ei0
  obtain ⟨i1, ei1⟩ := is_v g5
  obtain rfl : w1 = (.int i1) := Option.some.inj ei1
  obtain ⟨i2, ei2⟩ := isL_v g6
  obtain rfl : w2 = (.long i2) := Option.some.inj ei2
  obtain ⟨m1, m2⟩ := and_e hn
  obtain ⟨m3, m4⟩ := and_e m2
  obtain ⟨m5, m6⟩ := and_e m4
  obtain ⟨m7, m8⟩ := and_e m6
  obtain ⟨m9, m10⟩ := and_e m8
  obtain ⟨m11, m12⟩ := and_e m10
  obtain ⟨m13, m14⟩ := and_e m12
  obtain ⟨m15, m16⟩ := and_e m14
  obtain ⟨m17, m18⟩ := and_e m16
  obtain ⟨m19, m20⟩ := and_e m18
  obtain ⟨m21, m22⟩ := and_e m20
  obtain ⟨m23, m24⟩ := and_e m22
  obtain ⟨m25, m26⟩ := and_e m24
  obtain ⟨m27, m28⟩ := and_e m26
  obtain ⟨m29, m30⟩ := and_e m28
  obtain ⟨m31, m32⟩ := and_e m30
  obtain ⟨m33, m34⟩ := and_e m32
  obtain ⟨m35, m36⟩ := and_e m34
  obtain ⟨m37, m38⟩ := and_e m36
  obtain ⟨m39, m40⟩ := and_e m38
  obtain ⟨m41, m42⟩ := and_e m40
  obtain ⟨m43, m44⟩ := and_e m42
  obtain ⟨m45, m46⟩ := and_e m44
  obtain ⟨m47, m48⟩ := and_e m46
  obtain ⟨m49, m50⟩ := and_e m48
  obtain ⟨m51, m52⟩ := and_e m50
  obtain ⟨a__VALUES, va__VALUES⟩ := exa_v m3
  have Sa__VALUES := Sta.start va__VALUES (Or.inr ⟨(hw _ (List.mem_of_getElem? (i := 63) rfl)), (hw _ (List.mem_of_getElem? (i := 69) rfl))⟩)
  have Ea__VALUES := Exa.start va__VALUES m3
  obtain ⟨a_LISTED, va_LISTED⟩ := exa_v m7
  have Sa_LISTED := Sta.start va_LISTED (Or.inr ⟨(hw _ (List.mem_of_getElem? (i := 63) rfl)), (hw _ (List.mem_of_getElem? (i := 77) rfl))⟩)
  have Ea_LISTED := Exa.start va_LISTED m7
  obtain ⟨a_SEEDED, va_SEEDED⟩ := exa_v m11
  have Sa_SEEDED := Sta.start va_SEEDED (Or.inr ⟨(hw _ (List.mem_of_getElem? (i := 63) rfl)), (hw _ (List.mem_of_getElem? (i := 78) rfl))⟩)
  have Ea_SEEDED := Exa.start va_SEEDED m11
  obtain ⟨clV, AV⟩ := Arr.start va__VALUES m1
  obtain ⟨s_LISTED, vs_LISTED⟩ := exa_v m15
  have ws_LISTED := vs_LISTED
  rw [fld_at va_LISTED] at ws_LISTED
  have Fs_LISTED := Fld.start ws_LISTED
  have Es_LISTED := Exa.start vs_LISTED m15
  obtain ⟨s_SEEDED, vs_SEEDED⟩ := exa_v m23
  have ws_SEEDED := vs_SEEDED
  rw [fld_at va_SEEDED] at ws_SEEDED
  have Fs_SEEDED := Fld.start ws_SEEDED
  have Es_SEEDED := Exa.start vs_SEEDED m23
  have cs_LISTED := own_eqI m17
  rw [fld_at vs_LISTED] at cs_LISTED
  have Cs_LISTED := Fld.start cs_LISTED
  obtain ⟨bs_LISTED, vbs_LISTED⟩ := arr_v m19
  have wbs_LISTED := vbs_LISTED
  rw [fld_at vs_LISTED] at wbs_LISTED
  have Vs_LISTED := Fld.start wbs_LISTED
  obtain ⟨cls_LISTED, As_LISTED⟩ := Arr.start vbs_LISTED m19
  have cs_SEEDED := own_eqI m25
  rw [fld_at vs_SEEDED] at cs_SEEDED
  have Cs_SEEDED := Fld.start cs_SEEDED
  obtain ⟨bs_SEEDED, vbs_SEEDED⟩ := arr_v m27
  have wbs_SEEDED := vbs_SEEDED
  rw [fld_at vs_SEEDED] at wbs_SEEDED
  have Vs_SEEDED := Fld.start wbs_SEEDED
  obtain ⟨cls_SEEDED, As_SEEDED⟩ := Arr.start vbs_SEEDED m27
  obtain ⟨qV, zV⟩ := own_len (own_eqI m5) va__VALUES AV
  have lV_0 := (elem_in (own_eqT m9 va_LISTED) va__VALUES (Term.int_eval (0)) AV.1).2
  have lV_1 := (elem_in (own_eqT m13 va_SEEDED) va__VALUES (Term.int_eval (1)) AV.1).2
  obtain ⟨qs_LISTED, zs_LISTED⟩ := own_len (own_eqI m21) vbs_LISTED As_LISTED
  obtain ⟨qs_SEEDED, zs_SEEDED⟩ := own_len (own_eqI m29) vbs_SEEDED As_SEEDED
  have ls_LISTED_0 := (elem_in (own_eqI m31) vbs_LISTED (Term.int_eval (0)) As_LISTED.1).2
  have ls_LISTED_1 := (elem_in (own_eqI m33) vbs_LISTED (Term.int_eval (1)) As_LISTED.1).2
  have ls_LISTED_2 := (elem_in (own_eqI m35) vbs_LISTED (Term.int_eval (2)) As_LISTED.1).2
  have ls_LISTED_3 := (elem_in (own_eqI m37) vbs_LISTED (Term.int_eval (3)) As_LISTED.1).2
  have ls_LISTED_4 := (elem_in (own_eqI m39) vbs_LISTED (Term.int_eval (4)) As_LISTED.1).2
  have ls_LISTED_5 := (elem_in (own_eqI m41) vbs_LISTED (Term.int_eval (5)) As_LISTED.1).2
  have ls_SEEDED_0 := (elem_in (own_eqI m43) vbs_SEEDED (Term.int_eval (0)) As_SEEDED.1).2
  have ls_SEEDED_1 := (elem_in (own_eqI m45) vbs_SEEDED (Term.int_eval (1)) As_SEEDED.1).2
  have ls_SEEDED_2 := (elem_in (own_eqI m47) vbs_SEEDED (Term.int_eval (2)) As_SEEDED.1).2
  have ls_SEEDED_3 := (elem_in (own_eqI m49) vbs_SEEDED (Term.int_eval (3)) As_SEEDED.1).2
  have ls_SEEDED_4 := (elem_in (own_eqI m51) vbs_SEEDED (Term.int_eval (4)) As_SEEDED.1).2
  have ls_SEEDED_5 := (elem_in (own_eqI m52) vbs_SEEDED (Term.int_eval (5)) As_SEEDED.1).2
  have Ws_LISTED : Arv s s.heap bs_LISTED cls_LISTED.cls .byte (6 : Int32) [(.int (108 : Int32)), (.int (105 : Int32)), (.int (115 : Int32)), (.int (116 : Int32)), (.int (101 : Int32)), (.int (100 : Int32))] (.int (0 : Int32)) := Arv.start hfit As_LISTED qs_LISTED zs_LISTED (by decide) rfl ⟨ls_LISTED_0, ls_LISTED_1, ls_LISTED_2, ls_LISTED_3, ls_LISTED_4, ls_LISTED_5, trivial⟩
  have Ws_SEEDED : Arv s s.heap bs_SEEDED cls_SEEDED.cls .byte (6 : Int32) [(.int (115 : Int32)), (.int (101 : Int32)), (.int (101 : Int32)), (.int (100 : Int32)), (.int (101 : Int32)), (.int (100 : Int32))] (.int (0 : Int32)) := Arv.start hfit As_SEEDED qs_SEEDED zs_SEEDED (by decide) rfl ⟨ls_SEEDED_0, ls_SEEDED_1, ls_SEEDED_2, ls_SEEDED_3, ls_SEEDED_4, ls_SEEDED_5, trivial⟩
  have WV : Arv s s.heap a__VALUES clV.cls (.object "com/example/tabularium/tabularium/record/Deal") (2 : Int32) [(.ref a_LISTED), (.ref a_SEEDED)] .null := Arv.start hfit AV qV zV (by decide) rfl ⟨lV_0, lV_1, trivial⟩
  have r1 := hsets _ (List.mem_of_getElem? (i := 0) rfl)
  obtain ⟨cs, ecs⟩ := is_v (Cond.before_iff.mp (hsets _ (List.mem_of_getElem? (i := 1) rfl)))
  have S1 := Sta.start ecs (Or.inl r1)
  have hs1 : ¬ (cs = (0 : Int32)) := fun q => by
    have z := Cond.before_iff.mp (hsets _ (List.mem_of_getElem? (i := 2) rfl))
    subst q
    have y := not_v z
    rw [eq_i ecs (Term.int_eval (0)) rfl] at y
    cases y
  obtain ⟨fm, efm, rf1⟩ := isR_v (Cond.before_iff.mp (hsets _ (List.mem_of_getElem? (i := 8) rfl)))
  have SF1 := Sta.start efm (Or.inl (hsets _ (List.mem_of_getElem? (i := 7) rfl)))
  have hheld : ∀ q ∈ ([("com/example/tabularium/tabularium/record/DealNamedPinLaw", 15), ("com/example/tabularium/tabularium/record/DealNamedPinLaw", 17), ("java/lang/String", 7)] : List (String × Nat)), Jvm.Lit.constHeld s q.1 q.2 := fun q hq => hcalls.1 q hq
  obtain ⟨n, o, h1, h2, h3, _, L, rfl, ⟨rfl, N⟩, hq⟩ := rm0 l s _ hw hsets tables_1 i0 i1 i2 a__VALUES clV.cls a_LISTED a_SEEDED s_LISTED bs_LISTED cls_LISTED.cls s_SEEDED bs_SEEDED cls_SEEDED.cls cs fm s.heap s.heap.size (Nat.le_refl _) hheld Sa__VALUES WV Ea__VALUES Sa_LISTED Fs_LISTED Es_LISTED Cs_LISTED Vs_LISTED Ws_LISTED Sa_SEEDED Fs_SEEDED Es_SEEDED Cs_SEEDED Vs_SEEDED Ws_SEEDED S1 hs1 SF1 rf1 p e ha hc hk s m _ below hf ((Spec.applies_iff_loose hf).mp happ).1 ⟨rfl, rfl, rfl⟩ trivial
  refine ⟨n, _, h1, h2, h3, hpost _ _ _ _ _ _ ⟨Cond.after_iff.mpr rfl, Cond.after_iff.mpr (eq_i res_at (Term.int_eval (1)) rfl), trivial⟩ ⟨hq.1, hq.2.1, hq.2.2.1, (hq.2.2.2.sift fun y hy => Or.inr (N y hy)).mono (by decide) (by decide)⟩⟩
theorem main_1_1 : Claimed_1_1 := comes_1 fun _ _ _ _ _ _ h hF => ⟨h.1, hF⟩
theorem main_1_2 : Claimed_1_2 := comes_1 fun _ _ _ _ _ _ h hF => ⟨h.2.1, hF⟩
end Jvm.Pilot.@@N@@
namespace Jvm.Pilot.@@N@@
open Jvm Jvm.ClassFile Sem Op Lib Jvm.Free Jvm.Stand Jvm.Pilot.@@N@@.Jvm.D
/-! MADE BY PROGRAM (witnessworld.py) out of the Statement's table words and the real class files: 22 classes; the members and pool entries that the words name. The judged class is class 1, her method 2. -/
namespace start1
open Jvm.ClassFile
def u (s : String) : CpInfo := .utf8 (stringToUtf16 s)
/-- a pool by its gaps: so many unusable entries, then the entry; so many at the end -/
def gap : Nat → List CpInfo → List CpInfo
  | 0, r => r
  | n + 1, r => .unusable :: gap n r
def poolList (es : List (Nat × CpInfo)) (last : Nat) : List CpInfo := es.foldr (fun e r => gap e.1 (e.2 :: r)) (gap last [])
def pool (es : List (Nat × CpInfo)) (last : Nat) : Array CpInfo := ⟨poolList es last⟩
def fileOf (pool : Array CpInfo) (this : Nat) (attrs : Array Attribute := #[]) (ms : Array MethodInfo := #[]) (fl : Nat := 33) (sup : Nat := 0) (ifs : Array Nat := #[]) (fds : Array FieldInfo := #[]) : ClassFile where
  minorVersion := 0
  majorVersion := 65
  constantPool := pool
  accessFlags := fl
  thisClass := this
  superClass := sup
  interfaces := ifs
  fields := fds
  methods := ms
  attributes := attrs
def plain (name : String) (sup : Option ClassId) : Class where
  name := name
  kind := .ordinary
  loader := none
  accessFlags := 33
  super := sup
  interfaces := #[]
  cf := none
  fields := #[]
  methods := #[]
  instanceTypes := #[]
  staticTypes := #[]
  resolved := #[]
  callSites := []
  init := .initialized
  statics := none
  mirror := none

def pool0 : Array CpInfo := pool [(5, u "<init>"), (0, u "()V"), (1, .class_ 10), (1, u "java/lang/Object"), (85, u "clone"), (0, u "()Ljava/lang/Object;")] 26

def k0c0 : Code := { maxStack := 0, maxLocals := 1, code := object_method_1_code, exceptionTable := #[], attributes := #[] }
def k0m0 : Method := { name := "<init>", desc := "()V", sig := { parameters := [], returnType := none }, accessFlags := 1, code := some k0c0 }
def k0m1 : Method := { name := "clone", desc := "()Ljava/lang/Object;", sig := { parameters := [], returnType := some (.object "java/lang/Object") }, accessFlags := 260, code := none }
/-- java/lang/Object -/
def k0 : Class := { plain "java/lang/Object" none with
  accessFlags := 33
  interfaces := #[]
  cf := some (fileOf pool0 8 #[] #[{ accessFlags := 1, nameIndex := 5, descriptorIndex := 6, attributes := #[] }, { accessFlags := 260, nameIndex := 96, descriptorIndex := 97, attributes := #[] }] 33 0 #[] #[])
  fields := #[]
  methods := #[k0m0, k0m1]
  instanceTypes := #[]
  staticTypes := #[]
  resolved := Array.replicate 124 none
  statics := none }

def pool1 : Array CpInfo := pool [(2, .class_ 4), (1, u "java/lang/Object"), (0, u "<init>"), (0, u "()V"), (0, .long 255), (1, .methodref 10 11), (0, .class_ 12), (0, .nameAndType 13 14), (0, u "java/lang/String"), (0, u "charAt"), (0, u "(I)C"), (0, .string 16), (0, u "seeded"), (0, .string 18), (0, u "listed"), (0, .methodref 20 21), (0, .class_ 22), (0, .nameAndType 23 24), (0, u "com/example/tabularium/tabularium/record/DealNamedPinLaw"), (0, u "pick"), (0, u "(Ljava/lang/String;IIJ)C"), (0, .methodref 10 26), (0, .nameAndType 5 27), (0, u "([C)V"), (0, .methodref 10 29), (0, .nameAndType 30 31), (0, u "equals"), (0, u "(Ljava/lang/Object;)Z"), (0, .fieldref 33 34), (0, .class_ 35), (0, .nameAndType 36 37), (0, u "com/example/tabularium/tabularium/record/Deal"), (0, u "LISTED"), (0, u "Lcom/example/tabularium/tabularium/record/Deal;"), (0, .fieldref 33 39), (0, .nameAndType 40 37), (0, u "SEEDED"), (0, .methodref 33 42), (0, .nameAndType 43 44), (0, u "named"), (0, u "(Ljava/lang/String;)Lcom/example/tabularium/tabularium/record/Deal;"), (3, u "law"), (0, u "(IIJ)Z")] 2

def k1m0 : Method := { name := "<init>", desc := "()V", sig := { parameters := [], returnType := none }, accessFlags := 1, code := none }
def k1c1 : Code := { maxStack := 4, maxLocals := 5, code := method_2_code, exceptionTable := #[], attributes := #[] }
def k1m1 : Method := { name := "pick", desc := "(Ljava/lang/String;IIJ)C", sig := { parameters := [(.object "java/lang/String"), .int, .int, .long], returnType := some .char }, accessFlags := 10, code := some k1c1 }
def k1c2 : Code := { maxStack := 6, maxLocals := 15, code := code, exceptionTable := #[], attributes := #[] }
def k1m2 : Method := { name := "law", desc := "(IIJ)Z", sig := { parameters := [.int, .int, .long], returnType := some .boolean }, accessFlags := 9, code := some k1c2 }
/-- com/example/tabularium/tabularium/record/DealNamedPinLaw -/
def k1 : Class := { plain "com/example/tabularium/tabularium/record/DealNamedPinLaw" (some 0) with
  accessFlags := 49
  interfaces := #[]
  cf := some (fileOf pool1 20 #[] #[{ accessFlags := 1, nameIndex := 5, descriptorIndex := 6, attributes := #[] }, { accessFlags := 10, nameIndex := 23, descriptorIndex := 24, attributes := #[] }, { accessFlags := 9, nameIndex := 48, descriptorIndex := 49, attributes := #[] }] 49 2 #[] #[])
  fields := #[]
  methods := #[k1m0, k1m1, k1m2]
  instanceTypes := #[]
  staticTypes := #[]
  resolved := Array.replicate 52 none
  statics := none }

def pool2 : Array CpInfo := pool [(1, .class_ 2), (0, u "java/io/Serializable"), (0, .class_ 4), (0, u "java/lang/Object")] 2

/-- java/io/Serializable -/
def k2 : Class := { plain "java/io/Serializable" (some 0) with
  accessFlags := 1537
  interfaces := #[]
  cf := some (fileOf pool2 1 #[] #[] 1537 3 #[] #[])
  fields := #[]
  methods := #[]
  instanceTypes := #[]
  staticTypes := #[]
  resolved := Array.replicate 7 none
  statics := none }

def pool3 : Array CpInfo := pool [(1, .class_ 2), (0, u "java/lang/Comparable"), (0, .class_ 4), (0, u "java/lang/Object")] 7

/-- java/lang/Comparable -/
def k3 : Class := { plain "java/lang/Comparable" (some 0) with
  accessFlags := 1537
  interfaces := #[]
  cf := some (fileOf pool3 1 #[] #[] 1537 3 #[] #[])
  fields := #[]
  methods := #[]
  instanceTypes := #[]
  staticTypes := #[]
  resolved := Array.replicate 12 none
  statics := none }

def pool4 : Array CpInfo := pool [(2, .class_ 4), (1, u "java/lang/CharSequence"), (42, .class_ 48), (0, u "java/lang/CharSequence$1CodePointIterator"), (10, .class_ 60), (0, u "java/lang/CharSequence$1CharIterator"), (5, .class_ 67), (0, u "java/lang/Object")] 63

/-- java/lang/CharSequence -/
def k4 : Class := { plain "java/lang/CharSequence" (some 0) with
  accessFlags := 1537
  interfaces := #[]
  cf := some (fileOf pool4 2 #[.nestMembers #[47, 59]] #[] 1537 66 #[] #[])
  fields := #[]
  methods := #[]
  instanceTypes := #[]
  staticTypes := #[]
  resolved := Array.replicate 131 none
  statics := none }

def pool5 : Array CpInfo := pool [(1, .class_ 2), (0, u "java/lang/constant/Constable"), (0, .class_ 4), (0, u "java/lang/Object")] 6

/-- java/lang/constant/Constable -/
def k5 : Class := { plain "java/lang/constant/Constable" (some 0) with
  accessFlags := 1537
  interfaces := #[]
  cf := some (fileOf pool5 1 #[] #[] 1537 3 #[] #[])
  fields := #[]
  methods := #[]
  instanceTypes := #[]
  staticTypes := #[]
  resolved := Array.replicate 11 none
  statics := none }

def pool6 : Array CpInfo := pool [(1, .class_ 2), (0, u "java/lang/constant/ConstantDesc"), (0, .class_ 4), (0, u "java/lang/Object")] 32

/-- java/lang/constant/ConstantDesc -/
def k6 : Class := { plain "java/lang/constant/ConstantDesc" (some 0) with
  accessFlags := 1537
  interfaces := #[]
  cf := some (fileOf pool6 1 #[] #[] 1537 3 #[] #[])
  fields := #[]
  methods := #[]
  instanceTypes := #[]
  staticTypes := #[]
  resolved := Array.replicate 37 none
  statics := none }

def pool7 : Array CpInfo := pool [(1, .methodref 2 3), (0, .class_ 4), (0, .nameAndType 5 6), (0, u "java/lang/Object"), (0, u "<init>"), (0, u "()V"), (0, .string 8), (0, u ""), (0, .fieldref 10 11), (0, .class_ 12), (0, .nameAndType 13 14), (0, u "java/lang/String"), (0, u "value"), (0, u "[B"), (0, .fieldref 10 16), (0, .nameAndType 17 18), (0, u "coder"), (0, u "B"), (2, u "hash"), (0, u "I"), (2, u "hashIsZero"), (0, u "Z"), (0, .methodref 10 28), (0, .nameAndType 5 29), (0, u "([CIILjava/lang/Void;)V"), (8, .fieldref 10 39), (0, .nameAndType 40 26), (0, u "COMPACT_STRINGS"), (1, .class_ 44), (1, u "java/lang/StringUTF16"), (0, u "compress"), (1, .methodref 42 48), (0, .nameAndType 49 50), (0, u "coderFromArrayLen"), (0, u "([BI)B"), (56, .class_ 109), (1, u "java/lang/StringLatin1"), (32, u "()Z"), (34, .methodref 42 178), (0, .nameAndType 45 179), (0, u "([CII)[B"), (183, u "([BI)C"), (27, u "(II)V"), (35, u "(I)C"), (64, .methodref 10 493), (0, .nameAndType 494 142), (0, u "isLatin1"), (0, .methodref 107 496), (0, .nameAndType 497 363), (0, u "charAt"), (3, u "checkIndex"), (39, .methodref 107 542), (0, .nameAndType 543 544), (0, u "equals"), (0, u "([B[B)Z"), (28, u "(Ljava/lang/Object;)Z"), (1, .class_ 576), (0, u "java/lang/CharSequence"), (22, u "CASE_INSENSITIVE_ORDER"), (0, u "Ljava/util/Comparator;"), (409, u "([C)V"), (42, .fieldref 1054 1055), (0, .class_ 1056), (0, .nameAndType 1057 1058), (0, u "jdk/internal/util/Preconditions"), (0, u "SIOOBE_FORMATTER"), (0, u "Ljava/util/function/BiFunction;"), (0, .methodref 1054 1060), (0, .nameAndType 501 1061), (0, u "(IILjava/util/function/BiFunction;)I"), (39, u "serialPersistentFields"), (0, u "[Ljava/io/ObjectStreamField;"), (0, .class_ 1104), (0, u "java/lang/String$CaseInsensitiveComparator"), (1, .class_ 1107), (0, u "java/io/Serializable"), (0, .class_ 1109), (0, u "java/lang/Comparable"), (0, .class_ 1111), (0, u "java/lang/constant/Constable"), (0, .class_ 1113), (0, u "java/lang/constant/ConstantDesc"), (2, u "serialVersionUID"), (0, u "J"), (3, u "REPL"), (0, u "C"), (2, u "LATIN1"), (1, u "UTF16")] 323

def k7m0 : Method := { name := "<init>", desc := "()V", sig := { parameters := [], returnType := none }, accessFlags := 1, code := none }
def k7c1 : Code := { maxStack := 5, maxLocals := 2, code := jdk_42_method_3_code, exceptionTable := #[], attributes := #[] }
def k7m1 : Method := { name := "<init>", desc := "([C)V", sig := { parameters := [(.array .char)], returnType := none }, accessFlags := 1, code := some k7c1 }
def k7c2 : Code := { maxStack := 2, maxLocals := 2, code := jdk_42_method_56_code, exceptionTable := #[], attributes := #[] }
def k7m2 : Method := { name := "charAt", desc := "(I)C", sig := { parameters := [.int], returnType := some .char }, accessFlags := 1, code := some k7c2 }
def k7c3 : Code := { maxStack := 2, maxLocals := 3, code := jdk_42_method_66_code, exceptionTable := #[], attributes := #[] }
def k7m3 : Method := { name := "equals", desc := "(Ljava/lang/Object;)Z", sig := { parameters := [(.object "java/lang/Object")], returnType := some .boolean }, accessFlags := 1, code := some k7c3 }
def k7c4 : Code := { maxStack := 4, maxLocals := 6, code := jdk_42_method_149_code, exceptionTable := #[], attributes := #[] }
def k7m4 : Method := { name := "<init>", desc := "([CIILjava/lang/Void;)V", sig := { parameters := [(.array .char), .int, .int, (.object "java/lang/Void")], returnType := none }, accessFlags := 2, code := some k7c4 }
def k7c5 : Code := { maxStack := 1, maxLocals := 1, code := jdk_42_method_154_code, exceptionTable := #[], attributes := #[] }
def k7m5 : Method := { name := "isLatin1", desc := "()Z", sig := { parameters := [], returnType := some .boolean }, accessFlags := 0, code := some k7c5 }
def k7c6 : Code := { maxStack := 3, maxLocals := 2, code := jdk_42_method_155_code, exceptionTable := #[], attributes := #[] }
def k7m6 : Method := { name := "checkIndex", desc := "(II)V", sig := { parameters := [.int, .int], returnType := none }, accessFlags := 8, code := some k7c6 }
/-- java/lang/String -/
def k7 : Class := { plain "java/lang/String" (some 0) with
  accessFlags := 49
  interfaces := #[2, 3, 4, 5, 6]
  cf := some (fileOf pool7 10 #[.nestMembers #[1103]] #[{ accessFlags := 1, nameIndex := 5, descriptorIndex := 6, attributes := #[] }, { accessFlags := 1, nameIndex := 5, descriptorIndex := 1010, attributes := #[] }, { accessFlags := 1, nameIndex := 497, descriptorIndex := 427, attributes := #[] }, { accessFlags := 1, nameIndex := 543, descriptorIndex := 573, attributes := #[] }, { accessFlags := 2, nameIndex := 5, descriptorIndex := 29, attributes := #[] }, { accessFlags := 0, nameIndex := 494, descriptorIndex := 142, attributes := #[] }, { accessFlags := 8, nameIndex := 501, descriptorIndex := 391, attributes := #[] }] 49 2 #[1106, 1108, 575, 1110, 1112] #[{ accessFlags := 18, nameIndex := 13, descriptorIndex := 14, attributes := #[] }, { accessFlags := 18, nameIndex := 17, descriptorIndex := 18, attributes := #[] }, { accessFlags := 2, nameIndex := 21, descriptorIndex := 22, attributes := #[] }, { accessFlags := 2, nameIndex := 25, descriptorIndex := 26, attributes := #[] }, { accessFlags := 26, nameIndex := 1116, descriptorIndex := 1117, attributes := #[] }, { accessFlags := 24, nameIndex := 40, descriptorIndex := 26, attributes := #[] }, { accessFlags := 26, nameIndex := 1101, descriptorIndex := 1102, attributes := #[] }, { accessFlags := 26, nameIndex := 1121, descriptorIndex := 1122, attributes := #[] }, { accessFlags := 25, nameIndex := 599, descriptorIndex := 600, attributes := #[] }, { accessFlags := 24, nameIndex := 1125, descriptorIndex := 18, attributes := #[] }, { accessFlags := 24, nameIndex := 1127, descriptorIndex := 18, attributes := #[] }])
  fields := #[{ name := "value", type := (.array .byte), accessFlags := 18, slot := 0, constantValue := 0 }, { name := "coder", type := .byte, accessFlags := 18, slot := 1, constantValue := 0 }, { name := "hash", type := .int, accessFlags := 2, slot := 2, constantValue := 0 }, { name := "hashIsZero", type := .boolean, accessFlags := 2, slot := 3, constantValue := 0 }, { name := "serialVersionUID", type := .long, accessFlags := 26, slot := 0, constantValue := 0 }, { name := "COMPACT_STRINGS", type := .boolean, accessFlags := 24, slot := 1, constantValue := 0 }, { name := "serialPersistentFields", type := (.array (.object "java/io/ObjectStreamField")), accessFlags := 26, slot := 2, constantValue := 0 }, { name := "REPL", type := .char, accessFlags := 26, slot := 3, constantValue := 0 }, { name := "CASE_INSENSITIVE_ORDER", type := (.object "java/util/Comparator"), accessFlags := 25, slot := 4, constantValue := 0 }, { name := "LATIN1", type := .byte, accessFlags := 24, slot := 5, constantValue := 0 }, { name := "UTF16", type := .byte, accessFlags := 24, slot := 6, constantValue := 0 }]
  methods := #[k7m0, k7m1, k7m2, k7m3, k7m4, k7m5, k7m6]
  instanceTypes := #[(.array .byte), .byte, .int, .boolean]
  staticTypes := #[.long, .boolean, (.array (.object "java/io/ObjectStreamField")), .char, (.object "java/util/Comparator"), .byte, .byte]
  resolved := Array.replicate 1451 none
  statics := some 0 }

def pool8 : Array CpInfo := pool [(1, .class_ 2), (0, u "java/lang/String"), (1, .class_ 6), (1, u "java/lang/Object"), (0, u "<init>"), (0, u "()V"), (0, .methodref 1 10), (0, .nameAndType 11 12), (0, u "checkIndex"), (0, u "(II)V"), (1, .class_ 16), (1, u "java/lang/StringLatin1"), (36, u "([BI)C"), (67, u "$assertionsDisabled"), (0, u "Z"), (98, .class_ 223), (1, u "java/lang/StringLatin1$LinesSpliterator"), (28, u "charAt"), (28, u "equals"), (0, u "([B[B)Z"), (107, .class_ 391), (0, u "java/lang/StringLatin1$CharsSpliterator")] 3

def k8m0 : Method := { name := "<init>", desc := "()V", sig := { parameters := [], returnType := none }, accessFlags := 0, code := none }
def k8c1 : Code := { maxStack := 2, maxLocals := 2, code := jdk_43_method_2_code, exceptionTable := #[], attributes := #[] }
def k8m1 : Method := { name := "charAt", desc := "([BI)C", sig := { parameters := [(.array .byte), .int], returnType := some .char }, accessFlags := 9, code := some k8c1 }
def k8c2 : Code := { maxStack := 3, maxLocals := 3, code := jdk_43_method_13_code, exceptionTable := #[], attributes := #[] }
def k8m2 : Method := { name := "equals", desc := "([B[B)Z", sig := { parameters := [(.array .byte), (.array .byte)], returnType := some .boolean }, accessFlags := 9, code := some k8c2 }
/-- java/lang/StringLatin1 -/
def k8 : Class := { plain "java/lang/StringLatin1" (some 0) with
  accessFlags := 48
  interfaces := #[]
  cf := some (fileOf pool8 14 #[.nestMembers #[390, 221]] #[{ accessFlags := 0, nameIndex := 7, descriptorIndex := 8, attributes := #[] }, { accessFlags := 9, nameIndex := 252, descriptorIndex := 53, attributes := #[] }, { accessFlags := 9, nameIndex := 281, descriptorIndex := 282, attributes := #[] }] 48 4 #[] #[{ accessFlags := 4120, nameIndex := 121, descriptorIndex := 122, attributes := #[] }])
  fields := #[{ name := "$assertionsDisabled", type := .boolean, accessFlags := 4120, slot := 0, constantValue := 0 }]
  methods := #[k8m0, k8m1, k8m2]
  instanceTypes := #[]
  staticTypes := #[.boolean]
  resolved := Array.replicate 395 none
  statics := none }

def pool9 : Array CpInfo := pool [(2, .class_ 4), (1, u "java/lang/Object"), (0, u "<init>"), (0, u "()V"), (17, .class_ 26), (1, u "jdk/internal/util/Preconditions"), (6, u "checkIndex"), (21, .class_ 56), (0, u "jdk/internal/util/Preconditions$4"), (57, .class_ 115), (0, u "jdk/internal/util/Preconditions$1"), (7, u "SIOOBE_FORMATTER"), (0, u "Ljava/util/function/BiFunction;"), (0, .class_ 126), (0, u "jdk/internal/util/Preconditions$2"), (3, u "AIOOBE_FORMATTER"), (0, .class_ 132), (0, u "jdk/internal/util/Preconditions$3"), (3, u "IOOBE_FORMATTER"), (41, u "(IILjava/util/function/BiFunction;)I")] 15

def k9m0 : Method := { name := "<init>", desc := "()V", sig := { parameters := [], returnType := none }, accessFlags := 1, code := none }
def k9c1 : Code := { maxStack := 3, maxLocals := 3, code := jdk_41_method_11_code, exceptionTable := #[], attributes := #[] }
def k9m1 : Method := { name := "checkIndex", desc := "(IILjava/util/function/BiFunction;)I", sig := { parameters := [.int, .int, (.object "java/util/function/BiFunction")], returnType := some .int }, accessFlags := 9, code := some k9c1 }
/-- jdk/internal/util/Preconditions -/
def k9 : Class := { plain "jdk/internal/util/Preconditions" (some 0) with
  accessFlags := 33
  interfaces := #[]
  cf := some (fileOf pool9 24 #[.nestMembers #[55, 131, 125, 114]] #[{ accessFlags := 1, nameIndex := 5, descriptorIndex := 6, attributes := #[] }, { accessFlags := 9, nameIndex := 33, descriptorIndex := 178, attributes := #[] }] 33 2 #[] #[{ accessFlags := 25, nameIndex := 123, descriptorIndex := 124, attributes := #[] }, { accessFlags := 25, nameIndex := 130, descriptorIndex := 124, attributes := #[] }, { accessFlags := 25, nameIndex := 136, descriptorIndex := 124, attributes := #[] }])
  fields := #[{ name := "SIOOBE_FORMATTER", type := (.object "java/util/function/BiFunction"), accessFlags := 25, slot := 0, constantValue := 0 }, { name := "AIOOBE_FORMATTER", type := (.object "java/util/function/BiFunction"), accessFlags := 25, slot := 1, constantValue := 0 }, { name := "IOOBE_FORMATTER", type := (.object "java/util/function/BiFunction"), accessFlags := 25, slot := 2, constantValue := 0 }]
  methods := #[k9m0, k9m1]
  instanceTypes := #[]
  staticTypes := #[(.object "java/util/function/BiFunction"), (.object "java/util/function/BiFunction"), (.object "java/util/function/BiFunction")]
  resolved := Array.replicate 194 none
  statics := some 1 }

def pool10 : Array CpInfo := pool [(2, .class_ 4), (1, u "java/lang/Enum"), (0, u "name"), (0, u "Ljava/lang/String;"), (2, u "ordinal"), (0, u "I"), (1, .class_ 14), (1, u "java/lang/Object"), (4, u "hash"), (86, .class_ 108), (1, u "java/lang/Enum$EnumDesc"), (2, .class_ 112), (0, u "java/lang/constant/Constable"), (0, .class_ 114), (0, u "java/lang/Comparable"), (0, .class_ 116), (0, u "java/io/Serializable")] 87

/-- java/lang/Enum -/
def k10 : Class := { plain "java/lang/Enum" (some 0) with
  accessFlags := 1057
  interfaces := #[5, 3, 2]
  cf := some (fileOf pool10 2 #[.nestMembers #[106]] #[] 1057 12 #[111, 113, 115] #[{ accessFlags := 18, nameIndex := 5, descriptorIndex := 6, attributes := #[] }, { accessFlags := 18, nameIndex := 9, descriptorIndex := 10, attributes := #[] }, { accessFlags := 2, nameIndex := 19, descriptorIndex := 10, attributes := #[] }])
  fields := #[{ name := "name", type := (.object "java/lang/String"), accessFlags := 18, slot := 0, constantValue := 0 }, { name := "ordinal", type := .int, accessFlags := 18, slot := 1, constantValue := 0 }, { name := "hash", type := .int, accessFlags := 2, slot := 2, constantValue := 0 }]
  methods := #[]
  instanceTypes := #[(.object "java/lang/String"), .int, .int]
  staticTypes := #[]
  resolved := Array.replicate 204 none
  statics := none }

def pool11 : Array CpInfo := pool [(1, .class_ 2), (0, u "com/example/tabularium/tabularium/record/Deal"), (2, u "LISTED"), (0, u "Lcom/example/tabularium/tabularium/record/Deal;"), (2, u "SEEDED"), (0, .fieldref 1 11), (0, .nameAndType 12 13), (0, u "$VALUES"), (0, u "[Lcom/example/tabularium/tabularium/record/Deal;"), (0, .methodref 15 16), (0, .class_ 13), (0, .nameAndType 17 18), (0, u "clone"), (0, u "()Ljava/lang/Object;"), (1, .class_ 22), (1, u "java/lang/Enum"), (6, .fieldref 1 30), (0, .nameAndType 31 32), (0, u "text"), (0, u "Ljava/lang/String;"), (0, .methodref 1 34), (0, .nameAndType 35 36), (0, u "values"), (0, u "()[Lcom/example/tabularium/tabularium/record/Deal;"), (0, .methodref 38 39), (0, .class_ 40), (0, .nameAndType 41 42), (0, u "java/lang/String"), (0, u "equals"), (0, u "(Ljava/lang/Object;)Z"), (53, u "(Ljava/lang/String;)Lcom/example/tabularium/tabularium/record/Deal;"), (4, u "named")] 23

def k11c0 : Code := { maxStack := 1, maxLocals := 0, code := prog_6_method_1_code, exceptionTable := #[], attributes := #[] }
def k11m0 : Method := { name := "values", desc := "()[Lcom/example/tabularium/tabularium/record/Deal;", sig := { parameters := [], returnType := some (.array (.object "com/example/tabularium/tabularium/record/Deal")) }, accessFlags := 9, code := some k11c0 }
def k11c1 : Code := { maxStack := 2, maxLocals := 5, code := prog_6_method_5_code, exceptionTable := #[], attributes := #[] }
def k11m1 : Method := { name := "named", desc := "(Ljava/lang/String;)Lcom/example/tabularium/tabularium/record/Deal;", sig := { parameters := [(.object "java/lang/String")], returnType := some (.object "com/example/tabularium/tabularium/record/Deal") }, accessFlags := 9, code := some k11c1 }
/-- com/example/tabularium/tabularium/record/Deal -/
def k11 : Class := { plain "com/example/tabularium/tabularium/record/Deal" (some 10) with
  accessFlags := 16433
  interfaces := #[]
  cf := some (fileOf pool11 1 #[] #[{ accessFlags := 9, nameIndex := 35, descriptorIndex := 36, attributes := #[] }, { accessFlags := 9, nameIndex := 101, descriptorIndex := 96, attributes := #[] }] 16433 20 #[] #[{ accessFlags := 16409, nameIndex := 5, descriptorIndex := 6, attributes := #[] }, { accessFlags := 16409, nameIndex := 9, descriptorIndex := 6, attributes := #[] }, { accessFlags := 18, nameIndex := 31, descriptorIndex := 32, attributes := #[] }, { accessFlags := 4122, nameIndex := 12, descriptorIndex := 13, attributes := #[] }])
  fields := #[{ name := "LISTED", type := (.object "com/example/tabularium/tabularium/record/Deal"), accessFlags := 16409, slot := 0, constantValue := 0 }, { name := "SEEDED", type := (.object "com/example/tabularium/tabularium/record/Deal"), accessFlags := 16409, slot := 1, constantValue := 0 }, { name := "text", type := (.object "java/lang/String"), accessFlags := 18, slot := 3, constantValue := 0 }, { name := "$VALUES", type := (.array (.object "com/example/tabularium/tabularium/record/Deal")), accessFlags := 4122, slot := 2, constantValue := 0 }]
  methods := #[k11m0, k11m1]
  instanceTypes := #[(.object "java/lang/String"), .int, .int, (.object "java/lang/String")]
  staticTypes := #[(.object "com/example/tabularium/tabularium/record/Deal"), (.object "com/example/tabularium/tabularium/record/Deal"), (.array (.object "com/example/tabularium/tabularium/record/Deal"))]
  resolved := Array.replicate 125 none
  statics := some 2 }

def pool12 : Array CpInfo := pool [(1, .class_ 2), (0, u "java/lang/Cloneable"), (0, .class_ 4), (0, u "java/lang/Object")] 2

/-- java/lang/Cloneable -/
def k12 : Class := { plain "java/lang/Cloneable" (some 0) with
  accessFlags := 1537
  interfaces := #[]
  cf := some (fileOf pool12 1 #[] #[] 1537 3 #[] #[])
  fields := #[]
  methods := #[]
  instanceTypes := #[]
  staticTypes := #[]
  resolved := Array.replicate 7 none
  statics := none }

def pool13 : Array CpInfo := pool [(6, .class_ 8), (1, u "java/lang/Object"), (0, u "<init>"), (0, u "()V"), (1, .class_ 14), (1, u "java/lang/StringUTF16"), (31, u "$assertionsDisabled"), (0, u "Z"), (13, u "HI_BYTE_SHIFT"), (0, u "I"), (2, u "LO_BYTE_SHIFT"), (49, .methodref 12 116), (0, .nameAndType 117 118), (0, u "compress"), (0, u "([CI[BII)I"), (3, u "([CII)[B"), (138, u "coderFromArrayLen"), (0, u "([BI)B"), (106, .class_ 371), (1, u "java/lang/StringUTF16$LinesSpliterator"), (58, u "MAX_LENGTH"), (196, .class_ 628), (0, u "java/lang/StringUTF16$CodePointsSpliterator"), (0, .class_ 630), (0, u "java/lang/StringUTF16$CharsSpliterator")] 4

def k13m0 : Method := { name := "<init>", desc := "()V", sig := { parameters := [], returnType := none }, accessFlags := 0, code := none }
def k13c1 : Code := { maxStack := 2, maxLocals := 2, code := jdk_52_method_15_code, exceptionTable := #[], attributes := #[] }
def k13m1 : Method := { name := "coderFromArrayLen", desc := "([BI)B", sig := { parameters := [(.array .byte), .int], returnType := some .byte }, accessFlags := 8, code := some k13c1 }
def k13c2 : Code := { maxStack := 5, maxLocals := 6, code := jdk_52_method_16_code, exceptionTable := #[], attributes := #[] }
def k13m2 : Method := { name := "compress", desc := "([CII)[B", sig := { parameters := [(.array .char), .int, .int], returnType := some (.array .byte) }, accessFlags := 9, code := some k13c2 }
def k13c3 : Code := { maxStack := 3, maxLocals := 7, code := jdk_52_method_21_code, exceptionTable := #[], attributes := #[] }
def k13m3 : Method := { name := "compress", desc := "([CI[BII)I", sig := { parameters := [(.array .char), .int, (.array .byte), .int, .int], returnType := some .int }, accessFlags := 9, code := some k13c3 }
/-- java/lang/StringUTF16 -/
def k13 : Class := { plain "java/lang/StringUTF16" (some 0) with
  accessFlags := 48
  interfaces := #[]
  cf := some (fileOf pool13 12 #[.nestMembers #[627, 629, 369]] #[{ accessFlags := 0, nameIndex := 9, descriptorIndex := 10, attributes := #[] }, { accessFlags := 8, nameIndex := 261, descriptorIndex := 262, attributes := #[] }, { accessFlags := 9, nameIndex := 117, descriptorIndex := 122, attributes := #[] }, { accessFlags := 9, nameIndex := 117, descriptorIndex := 118, attributes := #[] }] 48 6 #[] #[{ accessFlags := 26, nameIndex := 61, descriptorIndex := 62, attributes := #[] }, { accessFlags := 26, nameIndex := 65, descriptorIndex := 62, attributes := #[] }, { accessFlags := 24, nameIndex := 430, descriptorIndex := 62, attributes := #[] }, { accessFlags := 4120, nameIndex := 46, descriptorIndex := 47, attributes := #[] }])
  fields := #[{ name := "HI_BYTE_SHIFT", type := .int, accessFlags := 26, slot := 0, constantValue := 0 }, { name := "LO_BYTE_SHIFT", type := .int, accessFlags := 26, slot := 1, constantValue := 0 }, { name := "MAX_LENGTH", type := .int, accessFlags := 24, slot := 2, constantValue := 0 }, { name := "$assertionsDisabled", type := .boolean, accessFlags := 4120, slot := 3, constantValue := 0 }]
  methods := #[k13m0, k13m1, k13m2, k13m3]
  instanceTypes := #[]
  staticTypes := #[.int, .int, .int, .boolean]
  resolved := Array.replicate 635 none
  statics := none }

def pool14 : Array CpInfo := pool [(9, u "<init>"), (6, .class_ 18), (1, u "java/lang/Object"), (0, u "()V"), (1, .class_ 23), (1, u "jdk/internal/util/ArraysSupport"), (0, u "LOG2_ARRAY_LONG_INDEX_SCALE"), (0, u "I"), (2, u "U"), (0, u "Ljdk/internal/misc/Unsafe;"), (8, u "BIG_ENDIAN"), (0, u "Z"), (8, u "LOG2_BYTE_BIT_SIZE"), (4, u "LOG2_ARRAY_INT_INDEX_SCALE"), (54, u "JLA"), (0, u "Ljdk/internal/access/JavaLangAccess;"), (11, u "LOG2_ARRAY_BOOLEAN_INDEX_SCALE"), (9, u "LOG2_ARRAY_BYTE_INDEX_SCALE"), (5, u "LOG2_ARRAY_CHAR_INDEX_SCALE"), (5, u "LOG2_ARRAY_SHORT_INDEX_SCALE"), (18, u "LOG2_ARRAY_FLOAT_INDEX_SCALE"), (24, u "LOG2_ARRAY_DOUBLE_INDEX_SCALE"), (89, u "T_BOOLEAN"), (2, u "T_CHAR"), (1, u "T_FLOAT"), (1, u "T_DOUBLE"), (1, u "T_BYTE"), (1, u "T_SHORT"), (1, u "T_INT"), (1, u "T_LONG"), (1, u "SOFT_MAX_ARRAY_LENGTH")] 83

def k14m0 : Method := { name := "<init>", desc := "()V", sig := { parameters := [], returnType := none }, accessFlags := 2, code := none }
/-- jdk/internal/util/ArraysSupport -/
def k14 : Class := { plain "jdk/internal/util/ArraysSupport" (some 0) with
  accessFlags := 33
  interfaces := #[]
  cf := some (fileOf pool14 21 #[] #[{ accessFlags := 2, nameIndex := 9, descriptorIndex := 19, attributes := #[] }] 33 16 #[] #[{ accessFlags := 24, nameIndex := 28, descriptorIndex := 29, attributes := #[] }, { accessFlags := 26, nameIndex := 38, descriptorIndex := 39, attributes := #[] }, { accessFlags := 25, nameIndex := 121, descriptorIndex := 25, attributes := #[] }, { accessFlags := 25, nameIndex := 131, descriptorIndex := 25, attributes := #[] }, { accessFlags := 25, nameIndex := 137, descriptorIndex := 25, attributes := #[] }, { accessFlags := 25, nameIndex := 143, descriptorIndex := 25, attributes := #[] }, { accessFlags := 25, nameIndex := 53, descriptorIndex := 25, attributes := #[] }, { accessFlags := 25, nameIndex := 24, descriptorIndex := 25, attributes := #[] }, { accessFlags := 25, nameIndex := 162, descriptorIndex := 25, attributes := #[] }, { accessFlags := 25, nameIndex := 187, descriptorIndex := 25, attributes := #[] }, { accessFlags := 26, nameIndex := 48, descriptorIndex := 25, attributes := #[] }, { accessFlags := 25, nameIndex := 277, descriptorIndex := 25, attributes := #[] }, { accessFlags := 25, nameIndex := 280, descriptorIndex := 25, attributes := #[] }, { accessFlags := 25, nameIndex := 282, descriptorIndex := 25, attributes := #[] }, { accessFlags := 25, nameIndex := 284, descriptorIndex := 25, attributes := #[] }, { accessFlags := 25, nameIndex := 286, descriptorIndex := 25, attributes := #[] }, { accessFlags := 25, nameIndex := 288, descriptorIndex := 25, attributes := #[] }, { accessFlags := 25, nameIndex := 290, descriptorIndex := 25, attributes := #[] }, { accessFlags := 25, nameIndex := 292, descriptorIndex := 25, attributes := #[] }, { accessFlags := 26, nameIndex := 108, descriptorIndex := 109, attributes := #[] }, { accessFlags := 25, nameIndex := 294, descriptorIndex := 25, attributes := #[] }])
  fields := #[{ name := "U", type := (.object "jdk/internal/misc/Unsafe"), accessFlags := 24, slot := 0, constantValue := 0 }, { name := "BIG_ENDIAN", type := .boolean, accessFlags := 26, slot := 1, constantValue := 0 }, { name := "LOG2_ARRAY_BOOLEAN_INDEX_SCALE", type := .int, accessFlags := 25, slot := 2, constantValue := 0 }, { name := "LOG2_ARRAY_BYTE_INDEX_SCALE", type := .int, accessFlags := 25, slot := 3, constantValue := 0 }, { name := "LOG2_ARRAY_CHAR_INDEX_SCALE", type := .int, accessFlags := 25, slot := 4, constantValue := 0 }, { name := "LOG2_ARRAY_SHORT_INDEX_SCALE", type := .int, accessFlags := 25, slot := 5, constantValue := 0 }, { name := "LOG2_ARRAY_INT_INDEX_SCALE", type := .int, accessFlags := 25, slot := 6, constantValue := 0 }, { name := "LOG2_ARRAY_LONG_INDEX_SCALE", type := .int, accessFlags := 25, slot := 7, constantValue := 0 }, { name := "LOG2_ARRAY_FLOAT_INDEX_SCALE", type := .int, accessFlags := 25, slot := 8, constantValue := 0 }, { name := "LOG2_ARRAY_DOUBLE_INDEX_SCALE", type := .int, accessFlags := 25, slot := 9, constantValue := 0 }, { name := "LOG2_BYTE_BIT_SIZE", type := .int, accessFlags := 26, slot := 10, constantValue := 0 }, { name := "T_BOOLEAN", type := .int, accessFlags := 25, slot := 11, constantValue := 0 }, { name := "T_CHAR", type := .int, accessFlags := 25, slot := 12, constantValue := 0 }, { name := "T_FLOAT", type := .int, accessFlags := 25, slot := 13, constantValue := 0 }, { name := "T_DOUBLE", type := .int, accessFlags := 25, slot := 14, constantValue := 0 }, { name := "T_BYTE", type := .int, accessFlags := 25, slot := 15, constantValue := 0 }, { name := "T_SHORT", type := .int, accessFlags := 25, slot := 16, constantValue := 0 }, { name := "T_INT", type := .int, accessFlags := 25, slot := 17, constantValue := 0 }, { name := "T_LONG", type := .int, accessFlags := 25, slot := 18, constantValue := 0 }, { name := "JLA", type := (.object "jdk/internal/access/JavaLangAccess"), accessFlags := 26, slot := 19, constantValue := 0 }, { name := "SOFT_MAX_ARRAY_LENGTH", type := .int, accessFlags := 25, slot := 20, constantValue := 0 }]
  methods := #[k14m0]
  instanceTypes := #[]
  staticTypes := #[(.object "jdk/internal/misc/Unsafe"), .boolean, .int, .int, .int, .int, .int, .int, .int, .int, .int, .int, .int, .int, .int, .int, .int, .int, .int, (.object "jdk/internal/access/JavaLangAccess"), .int]
  resolved := Array.replicate 378 none
  statics := none }

/-- the primitive byte -/
def k15 : Class := { plain "byte" none with kind := .primitive 'B', accessFlags := 0x411 }
/-- [B -/
def k16 : Class := { plain "[B" (some 0) with kind := .array 15 .byte, interfaces := #[12, 2], accessFlags := 1041 }

/-- the primitive char -/
def k17 : Class := { plain "char" none with kind := .primitive 'C', accessFlags := 0x411 }
/-- [C -/
def k18 : Class := { plain "[C" (some 0) with kind := .array 17 .char, interfaces := #[12, 2], accessFlags := 1041 }

/-- the primitive int -/
def k19 : Class := { plain "int" none with kind := .primitive 'I', accessFlags := 0x411 }
/-- [I -/
def k20 : Class := { plain "[I" (some 0) with kind := .array 19 .int, interfaces := #[12, 2], accessFlags := 1041 }

/-- [Lcom/example/tabularium/tabularium/record/Deal; -/
def k21 : Class := { plain "[Lcom/example/tabularium/tabularium/record/Deal;" (some 0) with kind := .array 11 (.object "com/example/tabularium/tabularium/record/Deal"), interfaces := #[12, 2], accessFlags := 1041 }

def heap : Heap := #[{ cls := 7, slots := #[.long 0, .int 1, .null, .int 0, .null, .int 0, .int 0], vm := .statics 7 },
  { cls := 9, slots := #[.null, .null, .null], vm := .statics 9 },
  { cls := 11, slots := #[.ref 8, .ref 9, .ref 3], vm := .statics 11 },
  { cls := 21, slots := #[.ref 8, .ref 9], vm := .none },
  { cls := 16, slots := #[.int 108, .int 105, .int 115, .int 116, .int 101, .int 100], vm := .none },
  { cls := 16, slots := #[.int 115, .int 101, .int 101, .int 100, .int 101, .int 100], vm := .none },
  { cls := 7, slots := #[.ref 4, .int 0, .int 0, .int 0], vm := .none },
  { cls := 7, slots := #[.ref 5, .int 0, .int 0, .int 0], vm := .none },
  { cls := 11, slots := #[.null, .int 0, .int 0, .ref 6], vm := .none },
  { cls := 11, slots := #[.null, .int 1, .int 0, .ref 7], vm := .none }]
def classes : Array Class := #[k0, k1, k2, k3, k4, k5, k6, k7, k8, k9, k10, k11, k12, k13, k14, k15, k16, k17, k18, k19, k20, k21]
def interned : List (Array UInt16 × Addr) := []
def slotsUsed : Nat := 43
def theMethod : MethodId := ⟨1, 2⟩
def args0 : Array Value := #[.int 5, .int 5, .long 5]
def aboutOver (below : List Frame) : State where
  vm := { classes := classes, interned := interned.toArray }
  heap := heap
  slotsUsed := slotsUsed
  threads := #[{ frames := .invoking theMethod args0 :: below }]
def below0 : List Frame := [.native { method := ⟨0, 0⟩, args := #[] }]
def about1 : State := aboutOver below0
def p0 : Program := .bare "" "" ""
def e0 : Env := launch0.env 0 0 0
theorem w_frames : about1.frames = Frame.invoking theMethod args0 :: below0 := rfl
set_option maxRecDepth 65536 in
theorem w_args : argsFit about1.vm theMethod args0 = true := by decide +kernel
set_option maxRecDepth 65536 in
theorem w_heap : heapFits about1 = true := by decide +kernel
set_option maxRecDepth 65536 in
theorem w_runnable : about1.curStatus? = some .runnable := by decide +kernel
set_option maxRecDepth 65536 in
theorem w_alone : about1.alone = true := by decide +kernel
set_option maxRecDepth 65536 in
theorem w_named : about1.methodNamed? x = some theMethod := by decide +kernel
set_option maxRecDepth 65536 in
theorem w_hears : about1.hears theMethod below0 = true := by decide +kernel
set_option maxRecDepth 65536 in
theorem w_ripe : about1.ripe theMethod args0 below0 = true := by decide +kernel
theorem w_running : about1.status = .running := rfl
set_option maxRecDepth 65536 in
theorem w_room : about1.hasRoom e0.platform room_1 = true :=
  launch0.hasRoom_least _ room_1 (by decide +kernel) (by decide +kernel) (by decide +kernel) (by decide +kernel) (by decide +kernel) (by decide +kernel)
theorem allAtoms_all (ts : List Jvm.Cond) (a : Array Jvm.Value) (st : Jvm.State) : (allAtoms ts).before a st = ts.all (fun c => c.before a st) := by
  induction ts with
  | nil => rfl
  | cons c t ih =>
    show (Jvm.Cond.and c (allAtoms t)).before a st = _
    rw [Jvm.Cond.before_and, ih, List.all_cons]
def words1 : List Jvm.Cond := Jvm.Cond.code x code maxLocals ret :: tables_1
/-- a 'code' word, met by the world's own term for the bytes: nothing is compared byte by byte -/
theorem code_word {y : MethodName} {bytes : ByteArray} {mx : Nat} {rt : Option FieldType} {a : Array Value} {s : State} {m : MethodId} {meth : Method} {c : Code} (h1 : s.methodNamed? y = some m) (h2 : s.vm.method? m = some meth) (h3 : meth.code = some c) (h4 : c.code = bytes)
    (h5 : (c.maxLocals == mx && c.exceptionTable.isEmpty && decide (c.maxStack ≤ mostOperands) && decide (meth.sig.returnType = rt) && !meth.locks && decide (parseMethodDescriptor y.desc = some meth.sig)) = true) : (Jvm.Cond.code y bytes mx rt).before a s = true := by
  simp only [Bool.and_eq_true, beq_iff_eq, Bool.not_eq_true', decide_eq_true_eq] at h5
  obtain ⟨⟨⟨⟨⟨g1, g2⟩, g3⟩, g4⟩, g5⟩, g6⟩ := h5
  simp [Cond.before, Cond.holds, Cond.value, h1, h2, h3, h4, g1, g2, g3, g4, g5, g6]
def isCode : Jvm.Cond → Bool
  | .code _ _ _ _ => true
  | _ => false
theorem all_split {L : List Jvm.Cond} {P : Jvm.Cond → Bool} (h1 : L.all (fun c => isCode c || P c) = true) (h2 : ∀ c ∈ L.filter isCode, P c = true) : L.all P = true := by
  refine List.all_eq_true.mpr fun c hc => ?_
  have h := List.all_eq_true.mp h1 c hc
  rcases Bool.eq_false_or_eq_true (isCode c) with hi | hi
  · exact h2 c (List.mem_filter.mpr ⟨hc, hi⟩)
  · simpa [hi] using h
set_option maxRecDepth 65536 in
theorem w_c0 : (Jvm.Cond.code x code maxLocals ret).before args0 about1 = true := code_word (m := ⟨1, 2⟩) (meth := k1m2) (c := k1c2) (by decide +kernel) rfl rfl rfl (by decide +kernel)
set_option maxRecDepth 65536 in
theorem w_c1 : (Jvm.Cond.code ({ cls := "com/example/tabularium/tabularium/record/DealNamedPinLaw", name := "pick", desc := "(Ljava/lang/String;IIJ)C" } : Jvm.MethodName) method_2_code (5 : Nat) (Option.some Jvm.ClassFile.FieldType.char)).before args0 about1 = true := code_word (m := ⟨1, 1⟩) (meth := k1m1) (c := k1c1) (by decide +kernel) rfl rfl rfl (by decide +kernel)
set_option maxRecDepth 65536 in
theorem w_c2 : (Jvm.Cond.code ({ cls := "java/lang/String", name := "charAt", desc := "(I)C" } : Jvm.MethodName) jdk_42_method_56_code (2 : Nat) (Option.some Jvm.ClassFile.FieldType.char)).before args0 about1 = true := code_word (m := ⟨7, 2⟩) (meth := k7m2) (c := k7c2) (by decide +kernel) rfl rfl rfl (by decide +kernel)
set_option maxRecDepth 65536 in
theorem w_c3 : (Jvm.Cond.code ({ cls := "java/lang/String", name := "isLatin1", desc := "()Z" } : Jvm.MethodName) jdk_42_method_154_code (1 : Nat) (Option.some Jvm.ClassFile.FieldType.boolean)).before args0 about1 = true := code_word (m := ⟨7, 5⟩) (meth := k7m5) (c := k7c5) (by decide +kernel) rfl rfl rfl (by decide +kernel)
set_option maxRecDepth 65536 in
theorem w_c4 : (Jvm.Cond.code ({ cls := "java/lang/StringLatin1", name := "charAt", desc := "([BI)C" } : Jvm.MethodName) jdk_43_method_2_code (2 : Nat) (Option.some Jvm.ClassFile.FieldType.char)).before args0 about1 = true := code_word (m := ⟨8, 1⟩) (meth := k8m1) (c := k8c1) (by decide +kernel) rfl rfl rfl (by decide +kernel)
set_option maxRecDepth 65536 in
theorem w_c5 : (Jvm.Cond.code ({ cls := "java/lang/String", name := "checkIndex", desc := "(II)V" } : Jvm.MethodName) jdk_42_method_155_code (2 : Nat) (Option.none : Option Jvm.ClassFile.FieldType)).before args0 about1 = true := code_word (m := ⟨7, 6⟩) (meth := k7m6) (c := k7c6) (by decide +kernel) rfl rfl rfl (by decide +kernel)
set_option maxRecDepth 65536 in
theorem w_c6 : (Jvm.Cond.code ({ cls := "jdk/internal/util/Preconditions", name := "checkIndex", desc := "(IILjava/util/function/BiFunction;)I" } : Jvm.MethodName) jdk_41_method_11_code (3 : Nat) (Option.some Jvm.ClassFile.FieldType.int)).before args0 about1 = true := code_word (m := ⟨9, 1⟩) (meth := k9m1) (c := k9c1) (by decide +kernel) rfl rfl rfl (by decide +kernel)
set_option maxRecDepth 65536 in
theorem w_c7 : (Jvm.Cond.code ({ cls := "java/lang/String", name := "<init>", desc := "([C)V" } : Jvm.MethodName) jdk_42_method_3_code (2 : Nat) (Option.none : Option Jvm.ClassFile.FieldType)).before args0 about1 = true := code_word (m := ⟨7, 1⟩) (meth := k7m1) (c := k7c1) (by decide +kernel) rfl rfl rfl (by decide +kernel)
set_option maxRecDepth 65536 in
theorem w_c8 : (Jvm.Cond.code ({ cls := "java/lang/String", name := "<init>", desc := "([CIILjava/lang/Void;)V" } : Jvm.MethodName) jdk_42_method_149_code (6 : Nat) (Option.none : Option Jvm.ClassFile.FieldType)).before args0 about1 = true := code_word (m := ⟨7, 4⟩) (meth := k7m4) (c := k7c4) (by decide +kernel) rfl rfl rfl (by decide +kernel)
set_option maxRecDepth 65536 in
theorem w_c9 : (Jvm.Cond.code ({ cls := "java/lang/Object", name := "<init>", desc := "()V" } : Jvm.MethodName) object_method_1_code (1 : Nat) (Option.none : Option Jvm.ClassFile.FieldType)).before args0 about1 = true := code_word (m := ⟨0, 0⟩) (meth := k0m0) (c := k0c0) (by decide +kernel) rfl rfl rfl (by decide +kernel)
set_option maxRecDepth 65536 in
theorem w_c10 : (Jvm.Cond.code ({ cls := "java/lang/String", name := "equals", desc := "(Ljava/lang/Object;)Z" } : Jvm.MethodName) jdk_42_method_66_code (3 : Nat) (Option.some Jvm.ClassFile.FieldType.boolean)).before args0 about1 = true := code_word (m := ⟨7, 3⟩) (meth := k7m3) (c := k7c3) (by decide +kernel) rfl rfl rfl (by decide +kernel)
set_option maxRecDepth 65536 in
theorem w_c11 : (Jvm.Cond.code ({ cls := "java/lang/StringLatin1", name := "equals", desc := "([B[B)Z" } : Jvm.MethodName) jdk_43_method_13_code (3 : Nat) (Option.some Jvm.ClassFile.FieldType.boolean)).before args0 about1 = true := code_word (m := ⟨8, 2⟩) (meth := k8m2) (c := k8c2) (by decide +kernel) rfl rfl rfl (by decide +kernel)
set_option maxRecDepth 65536 in
theorem w_c12 : (Jvm.Cond.code ({ cls := "com/example/tabularium/tabularium/record/Deal", name := "named", desc := "(Ljava/lang/String;)Lcom/example/tabularium/tabularium/record/Deal;" } : Jvm.MethodName) prog_6_method_5_code (5 : Nat) (Option.some (Jvm.ClassFile.FieldType.object "com/example/tabularium/tabularium/record/Deal"))).before args0 about1 = true := code_word (m := ⟨11, 1⟩) (meth := k11m1) (c := k11c1) (by decide +kernel) rfl rfl rfl (by decide +kernel)
set_option maxRecDepth 65536 in
theorem w_c13 : (Jvm.Cond.code ({ cls := "com/example/tabularium/tabularium/record/Deal", name := "values", desc := "()[Lcom/example/tabularium/tabularium/record/Deal;" } : Jvm.MethodName) prog_6_method_1_code (0 : Nat) (Option.some (Jvm.ClassFile.FieldType.array (Jvm.ClassFile.FieldType.object "com/example/tabularium/tabularium/record/Deal")))).before args0 about1 = true := code_word (m := ⟨11, 0⟩) (meth := k11m0) (c := k11c0) (by decide +kernel) rfl rfl rfl (by decide +kernel)
set_option maxRecDepth 65536 in
theorem w_c14 : (Jvm.Cond.code ({ cls := "java/lang/StringUTF16", name := "compress", desc := "([CII)[B" } : Jvm.MethodName) jdk_52_method_16_code (6 : Nat) (Option.some (Jvm.ClassFile.FieldType.array Jvm.ClassFile.FieldType.byte))).before args0 about1 = true := code_word (m := ⟨13, 2⟩) (meth := k13m2) (c := k13c2) (by decide +kernel) rfl rfl rfl (by decide +kernel)
set_option maxRecDepth 65536 in
theorem w_c15 : (Jvm.Cond.code ({ cls := "java/lang/StringUTF16", name := "compress", desc := "([CI[BII)I" } : Jvm.MethodName) jdk_52_method_21_code (7 : Nat) (Option.some Jvm.ClassFile.FieldType.int)).before args0 about1 = true := code_word (m := ⟨13, 3⟩) (meth := k13m3) (c := k13c3) (by decide +kernel) rfl rfl rfl (by decide +kernel)
set_option maxRecDepth 65536 in
theorem w_c16 : (Jvm.Cond.code ({ cls := "java/lang/StringUTF16", name := "coderFromArrayLen", desc := "([BI)B" } : Jvm.MethodName) jdk_52_method_15_code (2 : Nat) (Option.some Jvm.ClassFile.FieldType.byte)).before args0 about1 = true := code_word (m := ⟨13, 1⟩) (meth := k13m1) (c := k13c1) (by decide +kernel) rfl rfl rfl (by decide +kernel)
def codes1 : List Jvm.Cond := [Jvm.Cond.code x code maxLocals ret, Jvm.Cond.code ({ cls := "com/example/tabularium/tabularium/record/DealNamedPinLaw", name := "pick", desc := "(Ljava/lang/String;IIJ)C" } : Jvm.MethodName) method_2_code (5 : Nat) (Option.some Jvm.ClassFile.FieldType.char), Jvm.Cond.code ({ cls := "java/lang/String", name := "charAt", desc := "(I)C" } : Jvm.MethodName) jdk_42_method_56_code (2 : Nat) (Option.some Jvm.ClassFile.FieldType.char), Jvm.Cond.code ({ cls := "java/lang/String", name := "isLatin1", desc := "()Z" } : Jvm.MethodName) jdk_42_method_154_code (1 : Nat) (Option.some Jvm.ClassFile.FieldType.boolean), Jvm.Cond.code ({ cls := "java/lang/StringLatin1", name := "charAt", desc := "([BI)C" } : Jvm.MethodName) jdk_43_method_2_code (2 : Nat) (Option.some Jvm.ClassFile.FieldType.char), Jvm.Cond.code ({ cls := "java/lang/String", name := "checkIndex", desc := "(II)V" } : Jvm.MethodName) jdk_42_method_155_code (2 : Nat) (Option.none : Option Jvm.ClassFile.FieldType), Jvm.Cond.code ({ cls := "jdk/internal/util/Preconditions", name := "checkIndex", desc := "(IILjava/util/function/BiFunction;)I" } : Jvm.MethodName) jdk_41_method_11_code (3 : Nat) (Option.some Jvm.ClassFile.FieldType.int), Jvm.Cond.code ({ cls := "java/lang/String", name := "<init>", desc := "([C)V" } : Jvm.MethodName) jdk_42_method_3_code (2 : Nat) (Option.none : Option Jvm.ClassFile.FieldType), Jvm.Cond.code ({ cls := "java/lang/String", name := "<init>", desc := "([CIILjava/lang/Void;)V" } : Jvm.MethodName) jdk_42_method_149_code (6 : Nat) (Option.none : Option Jvm.ClassFile.FieldType), Jvm.Cond.code ({ cls := "java/lang/Object", name := "<init>", desc := "()V" } : Jvm.MethodName) object_method_1_code (1 : Nat) (Option.none : Option Jvm.ClassFile.FieldType), Jvm.Cond.code ({ cls := "java/lang/String", name := "equals", desc := "(Ljava/lang/Object;)Z" } : Jvm.MethodName) jdk_42_method_66_code (3 : Nat) (Option.some Jvm.ClassFile.FieldType.boolean), Jvm.Cond.code ({ cls := "java/lang/StringLatin1", name := "equals", desc := "([B[B)Z" } : Jvm.MethodName) jdk_43_method_13_code (3 : Nat) (Option.some Jvm.ClassFile.FieldType.boolean), Jvm.Cond.code ({ cls := "com/example/tabularium/tabularium/record/Deal", name := "named", desc := "(Ljava/lang/String;)Lcom/example/tabularium/tabularium/record/Deal;" } : Jvm.MethodName) prog_6_method_5_code (5 : Nat) (Option.some (Jvm.ClassFile.FieldType.object "com/example/tabularium/tabularium/record/Deal")), Jvm.Cond.code ({ cls := "com/example/tabularium/tabularium/record/Deal", name := "values", desc := "()[Lcom/example/tabularium/tabularium/record/Deal;" } : Jvm.MethodName) prog_6_method_1_code (0 : Nat) (Option.some (Jvm.ClassFile.FieldType.array (Jvm.ClassFile.FieldType.object "com/example/tabularium/tabularium/record/Deal"))), Jvm.Cond.code ({ cls := "java/lang/StringUTF16", name := "compress", desc := "([CII)[B" } : Jvm.MethodName) jdk_52_method_16_code (6 : Nat) (Option.some (Jvm.ClassFile.FieldType.array Jvm.ClassFile.FieldType.byte)), Jvm.Cond.code ({ cls := "java/lang/StringUTF16", name := "compress", desc := "([CI[BII)I" } : Jvm.MethodName) jdk_52_method_21_code (7 : Nat) (Option.some Jvm.ClassFile.FieldType.int), Jvm.Cond.code ({ cls := "java/lang/StringUTF16", name := "coderFromArrayLen", desc := "([BI)B" } : Jvm.MethodName) jdk_52_method_15_code (2 : Nat) (Option.some Jvm.ClassFile.FieldType.byte)]
set_option maxRecDepth 65536 in
theorem codes_eq : words1.filter isCode = codes1 := rfl
theorem w_codes : ∀ c ∈ words1.filter isCode, c.before args0 about1 = true := by
  rw [codes_eq]
  intro c hc
  simp only [codes1, List.mem_cons, List.not_mem_nil, or_false] at hc
  rcases hc with rfl | rfl | rfl | rfl | rfl | rfl | rfl | rfl | rfl | rfl | rfl | rfl | rfl | rfl | rfl | rfl | rfl
  · exact w_c0
  · exact w_c1
  · exact w_c2
  · exact w_c3
  · exact w_c4
  · exact w_c5
  · exact w_c6
  · exact w_c7
  · exact w_c8
  · exact w_c9
  · exact w_c10
  · exact w_c11
  · exact w_c12
  · exact w_c13
  · exact w_c14
  · exact w_c15
  · exact w_c16
set_option maxRecDepth 65536 in
theorem w_t1 : (words1.take 24).all (fun c => isCode c || c.before args0 about1) = true := by decide +kernel
set_option maxRecDepth 65536 in
theorem w_t2 : ((words1.drop 24).take 24).all (fun c => isCode c || c.before args0 about1) = true := by decide +kernel
set_option maxRecDepth 65536 in
theorem w_t3 : (((words1.drop 24).drop 24).take 24).all (fun c => isCode c || c.before args0 about1) = true := by decide +kernel
set_option maxRecDepth 65536 in
theorem w_t4 : ((((words1.drop 24).drop 24).drop 24).take 24).all (fun c => isCode c || c.before args0 about1) = true := by decide +kernel
set_option maxRecDepth 65536 in
theorem w_t5 : ((((words1.drop 24).drop 24).drop 24).drop 24).all (fun c => isCode c || c.before args0 about1) = true := by decide +kernel
theorem w_tables : (allAtoms (Jvm.Cond.code x code maxLocals ret :: tables_1)).before args0 about1 = true := by
  rw [allAtoms_all]
  show words1.all (fun c => c.before args0 about1) = true
  refine all_split ?_ w_codes
  rw [← List.take_append_drop 24 words1, List.all_append, w_t1, ← List.take_append_drop 24 (words1.drop 24), List.all_append, w_t2, ← List.take_append_drop 24 ((words1.drop 24).drop 24), List.all_append, w_t3, ← List.take_append_drop 24 (((words1.drop 24).drop 24).drop 24), List.all_append, w_t4, w_t5]
  rfl
set_option maxRecDepth 65536 in
theorem w_rest : rest_1_c.before args0 about1 = true := by decide +kernel
set_option maxRecDepth 65536 in
theorem w_case : (Jvm.Cond.and given_1 narrow_1).before args0 about1 = true := by decide +kernel
set_option maxRecDepth 65536 in
theorem w_consts : constsHeld consts_1 about1 := Jvm.Lit.constsHeldB_iff.mp (by decide +kernel)
theorem w_applies : (headSpec (Jvm.Cond.code x code maxLocals ret :: tables_1) room_1).applies x e0.platform about1 = true :=
  (Spec.applies_iff w_frames).mpr ⟨w_running, w_runnable, w_alone, w_named, w_hears, w_ripe, w_room, w_tables⟩
theorem atStart : AtStart classFile x code maxLocals ret World_1 tables_1 room_1 Calls_1 rest_1 Pre_1 launch0 p0 e0 about1 theMethod args0 below0 :=
  ⟨lists_1, trivial, launch0.admits_env _ _ _, launch0.least_env, fairChoices_fair.cas, fairChoices_fair.clock, w_frames, w_args, w_heap, w_applies, ⟨w_consts, trivial⟩, w_rest, w_case⟩
end start1
theorem witness_1 : WitnessClaimed_1 := ⟨start1.p0, start1.e0, start1.about1, start1.theMethod, start1.args0, start1.below0, start1.atStart⟩
end Jvm.Pilot.@@N@@
