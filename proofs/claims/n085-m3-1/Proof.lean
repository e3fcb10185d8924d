import JvmDerived
import JvmDerived.Pilot.@@N@@Statement
import JvmDerived.Pilot.@@N@@Code
set_option linter.unusedVariables false
set_option linter.unusedSimpArgs false
set_option maxHeartbeats 4000000
set_option maxRecDepth 8192
namespace Jvm.OwnKit
open Sem ClassFile Op Lib Jvm.Stand Jvm.Free Jvm.LawKit Jvm.RoadKit
section Own
variable {p : Program} {l : Launch} {e : Env} {R : Room} {s : State} {m : MethodId} {args : Array Value} {below : List Frame} {meth : Method} {c : Code} {T T' : State} {locs : List Loc} {cells slots : Nat}
/-- from the state T with the frame F on top the run comes to the method's end, and what Q says holds there -/
def OwnG (p : Program) (e : Env) (below : List Frame) (s : State) (Q : Option Value → Heap → List Loc → Prop) (k n : Nat) (T : State) (F : JFrame) : Prop :=
  ∃ s₂ o, Steps p.tables e below (T.setTop F) s₂ ∧ s₂.status = .running ∧ Ended s₂ below o ∧ ∃ v L, o = .returned v ∧ Q v s₂.heap L ∧ FrameEnd s o s₂ L k n
theorem OwnG.st {Q : Option Value → Heap → List Loc → Prop} {k n : Nat} {F F' : JFrame} (h : ∀ t, Steps p.tables e below (T'.setTop F') t → Steps p.tables e below (T.setTop F) t) (g : OwnG p e below s Q k n T' F') : OwnG p e below s Q k n T F := by
  obtain ⟨s2, o, h1, r⟩ := g
  exact ⟨s2, o, h _ h1, r⟩
theorem OwnG.leave (X : Stand p l e R s m args below meth c T locs cells slots) {Q : Option Value → Heap → List Loc → Prop} {k n : Nat} {F : JFrame} {v : Option Value} (hv : meth.sig.returnType = none → v = none) (hlk : meth.locks = false)
    (hs : ∀ fs, (∀ (f : JFrame) (acts : List Action), f.method = m → f.locked = none → f.entered = [] → (doReturn e (T.setTop f) acts v).1 = T.setFrames fs) → Steps p.tables e below (T.setTop F) (T.setFrames fs)) (hq : Q v T.heap locs) (hk : cells ≤ k) (hn : slots ≤ n) : OwnG p e below s Q k n T F := by
  obtain ⟨fs, hr, hrun, hended, hW, hsame⟩ := X.leave hv hlk
  exact ⟨_, _, hs fs hr, hrun, hended, _, _, rfl, hq, ⟨_, rfl⟩, hW, hsame.mono hk hn⟩
theorem OwnG.retI (X : Stand p l e R s m args below meth c T locs cells slots) (hx : p.tables.exec = Jvm.exec) {Q : Option Value → Heap → List Loc → Prop} {k n pc : Nat} {Ls : Array Slot} {z : Int32} {rest : List Value} (hret : meth.sig.returnType = some .int) (hlk : meth.locks = false) (hd : decode c.code pc = .ok (.ireturn, 1)) (hq : Q (some (.int z)) T.heap locs) (hk : cells ≤ k) (hn : slots ≤ n) : OwnG p e below s Q k n T (mkF m pc Ls (.int z :: rest)) :=
  OwnG.leave X (fun h => by rw [hret] at h; cases h) hlk (fun fs hr => retOut X hx hret rfl (Or.inl ⟨rfl, Or.inl rfl, z, rfl⟩) hd hr) hq hk hn
theorem OwnG.retJ (X : Stand p l e R s m args below meth c T locs cells slots) (hx : p.tables.exec = Jvm.exec) {Q : Option Value → Heap → List Loc → Prop} {k n pc : Nat} {Ls : Array Slot} {z : Int64} {rest : List Value} (hret : meth.sig.returnType = some .long) (hlk : meth.locks = false) (hd : decode c.code pc = .ok (.lreturn, 1)) (hq : Q (some (.long z)) T.heap locs) (hk : cells ≤ k) (hn : slots ≤ n) : OwnG p e below s Q k n T (mkF m pc Ls (.long z :: rest)) :=
  OwnG.leave X (fun h => by rw [hret] at h; cases h) hlk (fun fs hr => retOut X hx hret rfl (Or.inr (Or.inl ⟨rfl, rfl, z, rfl⟩)) hd hr) hq hk hn
theorem OwnG.retR (X : Stand p l e R s m args below meth c T locs cells slots) (hx : p.tables.exec = Jvm.exec) {Q : Option Value → Heap → List Loc → Prop} {k n pc : Nat} {Ls : Array Slot} {a : Addr} {rest : List Value} {t : FieldType} (hret : meth.sig.returnType = some t) (ht : t.isReference = true) (hnn : narrow t (.ref a) = .ref a) (hlk : meth.locks = false) (hd : decode c.code pc = .ok (.areturn, 1)) (hq : Q (some (.ref a)) T.heap locs) (hk : cells ≤ k) (hn : slots ≤ n) : OwnG p e below s Q k n T (mkF m pc Ls (.ref a :: rest)) :=
  OwnG.leave X (fun h => by rw [hret] at h; cases h) hlk (fun fs hr => retOut X hx hret hnn (Or.inr (Or.inr (Or.inr (Or.inr ⟨rfl, ht, rfl⟩)))) hd hr) hq hk hn
theorem OwnG.retN (X : Stand p l e R s m args below meth c T locs cells slots) (hx : p.tables.exec = Jvm.exec) {Q : Option Value → Heap → List Loc → Prop} {k n pc : Nat} {Ls : Array Slot} {z : Int32} {rest : List Value} {t : FieldType} (ht : t = .boolean ∨ t = .byte ∨ t = .char ∨ t = .short) (hret : meth.sig.returnType = some t) (hlk : meth.locks = false) (hd : decode c.code pc = .ok (.ireturn, 1)) (hq : Q (some (.int (nar t z))) T.heap locs) (hk : cells ≤ k) (hn : slots ≤ n) : OwnG p e below s Q k n T (mkF m pc Ls (.int z :: rest)) :=
  OwnG.leave X (fun h => by rw [hret] at h; cases h) hlk (fun fs hr => Jvm.RoadKit.retN X hx hret ht hd hr) hq hk hn
theorem OwnG.retV (X : Stand p l e R s m args below meth c T locs cells slots) (hx : p.tables.exec = Jvm.exec) {Q : Option Value → Heap → List Loc → Prop} {k n pc : Nat} {Ls : Array Slot} (hret : meth.sig.returnType = none) (hlk : meth.locks = false) (hd : decode c.code pc = .ok (.return_, 1)) (hq : Q none T.heap locs) (hk : cells ≤ k) (hn : slots ≤ n) : OwnG p e below s Q k n T (mkF m pc Ls []) :=
  OwnG.leave X (fun _ => rfl) hlk (fun fs hr => X.returnOut hx hret hd hr) hq hk hn
end Own
end Jvm.OwnKit
namespace Jvm.OwnKit
open Jvm.RoadKit
theorem own_split {w : Nat} (x m : BitVec w) : (x &&& ~~~m) + (x &&& m) = x := by
  rw [BitVec.add_eq_or_of_and_eq_zero]
  · ext i hi
    simp only [BitVec.getElem_or, BitVec.getElem_and, BitVec.getElem_not]
    cases x[i] <;> cases m[i] <;> rfl
  · ext i hi
    simp only [BitVec.getElem_and, BitVec.getElem_not, BitVec.getElem_zero]
    cases x[i] <;> cases m[i] <;> rfl
theorem own_hi (x m m' : Int32) (h : m' = ~~~m) : (x &&& m') + (x &&& m) = x := by
  subst h
  exact Int32.toBitVec_inj.mp (own_split x.toBitVec m.toBitVec)
theorem own_irem (x y : Int32) : x - (x / y) * y = x % y := by
  apply Int32.toInt_inj.mp
  have h1 := rng32 (x % y)
  have e := Int.mul_tdiv_add_tmod x.toInt y.toInt
  rw [Int32.toInt_mod] at h1 ⊢
  rw [Int32.toInt_sub, Int32.toInt_mul, Int32.toInt_div, Int.bmod_mul_bmod, Int.sub_bmod_bmod]
  rw [show x.toInt - x.toInt.tdiv y.toInt * y.toInt = x.toInt.tmod y.toInt by rw [Int.mul_comm]; omega]
  exact Int.bmod_eq_of_le_mul_two (by omega) (by omega)
end Jvm.OwnKit
namespace Jvm.OwnKit
open Jvm.RoadKit
theorem own_lushr (x : Int64) (q : Int32) (k : Nat) (hk : q.toBitVec.toNat % 64 = k) : ((x.toUInt64 >>> (q &&& 0x3f).toInt64.toUInt64).toInt64).toBitVec = x.toBitVec >>> k := by
  have h5 := (sm64 q k hk).2
  show x.toBitVec >>> ((q &&& 0x3f).toInt64.toBitVec % 64) = _
  rw [BitVec.ushiftRight_eq', BitVec.toNat_umod, (sm64 q k hk).1, BitVec.toNat_ofNat]
  congr 1
  show k % 2 ^ 64 % 64 = k
  omega
theorem own_lshl (x : Int64) (q : Int32) (k : Nat) (hk : q.toBitVec.toNat % 64 = k) : (x <<< (q &&& 0x3f).toInt64).toBitVec = x.toBitVec <<< k := by
  have h5 := (sm64 q k hk).2
  show x.toBitVec <<< ((q &&& 0x3f).toInt64.toBitVec.smod 64) = _
  rw [BitVec.shiftLeft_eq', (sm64 q k hk).1, smod64 k h5]
end Jvm.OwnKit
namespace Jvm.OwnKit
open Jvm.RoadKit
theorem x_iadd (x y : Int32) (h : -2147483648 ≤ x.toInt + y.toInt ∧ x.toInt + y.toInt < 2147483648) : (x + y).toInt = x.toInt + y.toInt := by
  have a := c_iadd x y
  have b := rng32 (x + y)
  omega
theorem x_isub (x y : Int32) (h : -2147483648 ≤ x.toInt - y.toInt ∧ x.toInt - y.toInt < 2147483648) : (x - y).toInt = x.toInt - y.toInt := by
  have a := c_isub x y
  have b := rng32 (x - y)
  omega
theorem x_imul (x y : Int32) (z : Int) (hz : x.toInt * y.toInt = z) (h : -2147483648 ≤ z ∧ z < 2147483648) : (x * y).toInt = z := by
  have a := c_imul x y
  have b := rng32 (x * y)
  rw [hz] at a
  omega
theorem x_ladd (x y : Int64) (h : -9223372036854775808 ≤ x.toInt + y.toInt ∧ x.toInt + y.toInt < 9223372036854775808) : (x + y).toInt = x.toInt + y.toInt := by
  have a := c_ladd x y
  have b := rng64 (x + y)
  omega
theorem x_lsub (x y : Int64) (h : -9223372036854775808 ≤ x.toInt - y.toInt ∧ x.toInt - y.toInt < 9223372036854775808) : (x - y).toInt = x.toInt - y.toInt := by
  have a := c_lsub x y
  have b := rng64 (x - y)
  omega
theorem x_lmul (x y : Int64) (z : Int) (hz : x.toInt * y.toInt = z) (h : -9223372036854775808 ≤ z ∧ z < 9223372036854775808) : (x * y).toInt = z := by
  have a := c_lmul x y
  have b := rng64 (x * y)
  rw [hz] at a
  omega
theorem x_l2i (x : Int64) (h : -2147483648 ≤ x.toInt ∧ x.toInt < 2147483648) : x.toInt32.toInt = x.toInt := by
  have a := c_l2i x
  have b := rng32 x.toInt32
  omega
end Jvm.OwnKit
namespace Jvm.Pilot.@@N@@
open Jvm Jvm.ClassFile Sem Op Lib Jvm.Free Jvm.Stand Jvm.LawKit Jvm.RoadKit Bundle Jvm.Pilot.@@N@@.Jvm.D Jvm.OwnKit
def F2 (p1 : Int32) (p2 : Int32) : Int32 := (if p1 < p2 then p2 else p1)
theorem d2_0 : decode jdk_29_method_65_code 0 = .ok (.iload_n 0, 1) := by decide +kernel
theorem d2_1 : decode jdk_29_method_65_code 1 = .ok (.iload_n 1, 1) := by decide +kernel
theorem d2_2 : decode jdk_29_method_65_code 2 = .ok (.if_icmp .lt 7, 3) := by decide +kernel
theorem d2_5 : decode jdk_29_method_65_code 5 = .ok (.iload_n 0, 1) := by decide +kernel
theorem d2_6 : decode jdk_29_method_65_code 6 = .ok (.goto 4, 3) := by decide +kernel
theorem d2_9 : decode jdk_29_method_65_code 9 = .ok (.iload_n 1, 1) := by decide +kernel
theorem d2_10 : decode jdk_29_method_65_code 10 = .ok (.ireturn, 1) := by decide +kernel
theorem ef_2 (m : MethodId) (p1 : Int32) (p2 : Int32) : entryFrame m #[(.int p1), (.int p2)] 2 = mkF m 0 #[.val (.int p1), .val (.int p2)] [] := by first | (simp [entryFrame, mkF, argsToLocals, Value.category]; done) | rfl
def Q2 (Z : State) (p1 : Int32) (p2 : Int32) (h0 : Heap) (n0 : Nat) (v : Option Value) (h : Heap) (L : List Loc) : Prop := v = some (.int (F2 p1 p2)) ∧ Fr n0 L ∧ h = h0
set_option maxRecDepth 65536 in
set_option maxHeartbeats 40000000 in
theorem rm2 (l : Launch) (Z : State) (a0 : Array Value) (hw : ∀ d ∈ tables_1, d.before a0 Z = true) (ws : List Jvm.Cond) (p1 : Int32) (p2 : Int32)  (h0 : Heap) (n0 : Nat) (Z0 : n0 ≤ h0.size)  :
    MetFree l (⟨"java/lang/Math", "max", "(II)I"⟩ : MethodName) (head1 (Jvm.Cond.code (⟨"java/lang/Math", "max", "(II)I"⟩ : MethodName) jdk_29_method_65_code 2 (some .int) :: ws) ({ frames := 0, cells := 0, slots := 0, locals := 0 } : Room)) (fun a U => a = #[(.int p1), (.int p2)] ∧ Z.Warmed39 U.vm ∧ U.heap = h0) (fun _ _ _ _ _ => True) (fun _ U o U' => ∃ v L, o = .returned v ∧ Q2 Z p1 p2 h0 n0 v U'.heap L ∧ FrameEnd U o U' L ({ frames := 0, cells := 0, slots := 0, locals := 0 } : Room).cells ({ frames := 0, cells := 0, slots := 0, locals := 0 } : Room).slots) := by
  refine MetFree.of_bodySF (Jvm.Free.JP.mathPlain rfl (by decide +kernel)) hisR ?_
  intro p e s m args below meth c s₁ Bd hml0 hP hK
  obtain ⟨rfl, hZ, hh⟩ := hP
  have hx := Bd.exec
  have hby := Bd.bytes
  have hml : c.maxLocals = 2 := hml0
  have hown : s.vm.findClass "java/lang/Math" = some m.cls := findClass_of_methodNamed Bd.named
  have hnm := (name_of_methodNamed Bd.named Bd.method).1
  have X0 : Stand p l e ({ frames := 0, cells := 0, slots := 0, locals := 0 } : Room) s m #[(.int p1), (.int p2)] below meth c s₁ [] 0 0 := Stand.of_body Bd
  have e0 : s₁.heap = h0 := by rw [← hh, Bd.state]; rfl
  have N0 := Fr.nil n0
  suffices hG : OwnG p e below s (Q2 Z p1 p2 h0 n0) ({ frames := 0, cells := 0, slots := 0, locals := 0 } : Room).cells ({ frames := 0, cells := 0, slots := 0, locals := 0 } : Room).slots s₁ (mkF m 0 #[.val (.int p1), .val (.int p2)] []) by
    obtain ⟨s2, o2, g1, g2⟩ := hG
    exact ⟨s2, o2, castTop (ef_2 m p1 p2) g1, g2⟩
  have sg1 : ∀ tgt, Steps p.tables e below (s₁.setTop (mkF m 2 #[.val (.int p1), .val (.int p2)] [(.int p2), (.int p1)])) tgt → Steps p.tables e below (s₁.setTop (mkF m 0 #[.val (.int p1), .val (.int p2)] [])) tgt := by
    intro tgt kt
    refine XS.iloadN X0.here hx rfl (hb hby d2_0) rfl ?_
    show Steps p.tables e below (s₁.setTop (mkF m 1 #[.val (.int p1), .val (.int p2)] [(.int p1)])) _
    refine XS.iloadN X0.here hx rfl (hb hby d2_1) rfl ?_
    show Steps p.tables e below (s₁.setTop (mkF m 2 #[.val (.int p1), .val (.int p2)] [(.int p2), (.int p1)])) _
    exact kt
  refine OwnG.st sg1 ?_
  by_cases hc2_2 : p1 < p2
  · have sg3 : ∀ tgt, Steps p.tables e below (s₁.setTop (mkF m 10 #[.val (.int p1), .val (.int p2)] [(.int p2)])) tgt → Steps p.tables e below (s₁.setTop (mkF m 2 #[.val (.int p1), .val (.int p2)] [(.int p2), (.int p1)])) tgt := by
      intro tgt kt
      refine XS.icmpYes X0.here hx rfl (pc0 := 2) (pc' := 9) rfl (hb hby d2_2) rfl (tlt hc2_2).1 (by decide) (by decide) ?_
      show Steps p.tables e below (s₁.setTop (mkF m 9 #[.val (.int p1), .val (.int p2)] [])) _
      refine XS.iloadN X0.here hx rfl (hb hby d2_9) rfl ?_
      show Steps p.tables e below (s₁.setTop (mkF m 10 #[.val (.int p1), .val (.int p2)] [(.int p2)])) _
      exact kt
    refine OwnG.st sg3 ?_
    have hv : p2 = F2 p1 p2 := by simp only [F2, if_pos hc2_2]
    exact OwnG.retI X0 hx Bd.returns (BodyLoose.notSynchronized Bd) (hb hby d2_10) ⟨congrArg (fun w => some (Value.int w)) hv, N0, e0⟩ (by decide) (by decide)
  · have sg4 : ∀ tgt, Steps p.tables e below (s₁.setTop (mkF m 10 #[.val (.int p1), .val (.int p2)] [(.int p1)])) tgt → Steps p.tables e below (s₁.setTop (mkF m 2 #[.val (.int p1), .val (.int p2)] [(.int p2), (.int p1)])) tgt := by
      intro tgt kt
      refine XS.icmpNo X0.here hx rfl (hb hby d2_2) rfl (flt hc2_2).1 ?_
      show Steps p.tables e below (s₁.setTop (mkF m 5 #[.val (.int p1), .val (.int p2)] [])) _
      refine XS.iloadN X0.here hx rfl (hb hby d2_5) rfl ?_
      show Steps p.tables e below (s₁.setTop (mkF m 6 #[.val (.int p1), .val (.int p2)] [(.int p1)])) _
      refine XS.goto X0.here hx rfl (pc0 := 6) (pc' := 10) rfl (hb hby d2_6) (by decide) (by decide) ?_
      show Steps p.tables e below (s₁.setTop (mkF m 10 #[.val (.int p1), .val (.int p2)] [(.int p1)])) _
      exact kt
    refine OwnG.st sg4 ?_
    have hv : p1 = F2 p1 p2 := by simp only [F2, if_neg hc2_2]
    exact OwnG.retI X0 hx Bd.returns (BodyLoose.notSynchronized Bd) (hb hby d2_10) ⟨congrArg (fun w => some (Value.int w)) hv, N0, e0⟩ (by decide) (by decide)
def J1_16_0 (p1 : Int32) : Int32 := (if p1 < (65536 : Int32) then p1 else ((p1.toUInt32 >>> ((16 : Int32) &&& 31).toUInt32).toInt32))
def J1_16_1 (p1 : Int32) : Int32 := (if p1 < (65536 : Int32) then (0 : Int32) else (16 : Int32))
def J1_31_2 (p1 : Int32) : Int32 := (if (J1_16_0 p1) < (256 : Int32) then (J1_16_0 p1) else (((J1_16_0 p1).toUInt32 >>> ((8 : Int32) &&& 31).toUInt32).toInt32))
def J1_31_3 (p1 : Int32) : Int32 := (if (J1_16_0 p1) < (256 : Int32) then (J1_16_1 p1) else ((J1_16_1 p1) + (8 : Int32)))
def J1_44_4 (p1 : Int32) : Int32 := (if (J1_31_2 p1) < (16 : Int32) then (J1_31_2 p1) else (((J1_31_2 p1).toUInt32 >>> ((4 : Int32) &&& 31).toUInt32).toInt32))
def J1_44_5 (p1 : Int32) : Int32 := (if (J1_31_2 p1) < (16 : Int32) then (J1_31_3 p1) else ((J1_31_3 p1) + (4 : Int32)))
def J1_56_6 (p1 : Int32) : Int32 := (if (J1_44_4 p1) < (4 : Int32) then (J1_44_4 p1) else (((J1_44_4 p1).toUInt32 >>> ((2 : Int32) &&& 31).toUInt32).toInt32))
def J1_56_7 (p1 : Int32) : Int32 := (if (J1_44_4 p1) < (4 : Int32) then (J1_44_5 p1) else ((J1_44_5 p1) + (2 : Int32)))
def J1_68_8 (p1 : Int32) : Int32 := (if (J1_56_6 p1) < (2 : Int32) then (J1_56_6 p1) else (((J1_56_6 p1).toUInt32 >>> ((1 : Int32) &&& 31).toUInt32).toInt32))
def J1_68_9 (p1 : Int32) : Int32 := (if (J1_56_6 p1) < (2 : Int32) then (J1_56_7 p1) else ((J1_56_7 p1) + (1 : Int32)))
def F1 (p1 : Int32) : Int32 := ((J1_68_9 p1) + (J1_68_8 p1))
theorem d1_0 : decode method_3_code 0 = .ok (.iconst 0, 1) := by decide +kernel
theorem d1_1 : decode method_3_code 1 = .ok (.istore_n 1, 1) := by decide +kernel
theorem d1_2 : decode method_3_code 2 = .ok (.iload_n 0, 1) := by decide +kernel
theorem d1_3 : decode method_3_code 3 = .ok (.ldc 34, 2) := by decide +kernel
theorem d1_5 : decode method_3_code 5 = .ok (.if_icmp .lt 11, 3) := by decide +kernel
theorem d1_8 : decode method_3_code 8 = .ok (.iinc 1 16, 3) := by decide +kernel
theorem d1_11 : decode method_3_code 11 = .ok (.iload_n 0, 1) := by decide +kernel
theorem d1_12 : decode method_3_code 12 = .ok (.bipush 16, 2) := by decide +kernel
theorem d1_14 : decode method_3_code 14 = .ok (.iushr, 1) := by decide +kernel
theorem d1_15 : decode method_3_code 15 = .ok (.istore_n 0, 1) := by decide +kernel
theorem d1_16 : decode method_3_code 16 = .ok (.iload_n 0, 1) := by decide +kernel
theorem d1_17 : decode method_3_code 17 = .ok (.sipush 256, 3) := by decide +kernel
theorem d1_20 : decode method_3_code 20 = .ok (.if_icmp .lt 11, 3) := by decide +kernel
theorem d1_23 : decode method_3_code 23 = .ok (.iinc 1 8, 3) := by decide +kernel
theorem d1_26 : decode method_3_code 26 = .ok (.iload_n 0, 1) := by decide +kernel
theorem d1_27 : decode method_3_code 27 = .ok (.bipush 8, 2) := by decide +kernel
theorem d1_29 : decode method_3_code 29 = .ok (.iushr, 1) := by decide +kernel
theorem d1_30 : decode method_3_code 30 = .ok (.istore_n 0, 1) := by decide +kernel
theorem d1_31 : decode method_3_code 31 = .ok (.iload_n 0, 1) := by decide +kernel
theorem d1_32 : decode method_3_code 32 = .ok (.bipush 16, 2) := by decide +kernel
theorem d1_34 : decode method_3_code 34 = .ok (.if_icmp .lt 10, 3) := by decide +kernel
theorem d1_37 : decode method_3_code 37 = .ok (.iinc 1 4, 3) := by decide +kernel
theorem d1_40 : decode method_3_code 40 = .ok (.iload_n 0, 1) := by decide +kernel
theorem d1_41 : decode method_3_code 41 = .ok (.iconst 4, 1) := by decide +kernel
theorem d1_42 : decode method_3_code 42 = .ok (.iushr, 1) := by decide +kernel
theorem d1_43 : decode method_3_code 43 = .ok (.istore_n 0, 1) := by decide +kernel
theorem d1_44 : decode method_3_code 44 = .ok (.iload_n 0, 1) := by decide +kernel
theorem d1_45 : decode method_3_code 45 = .ok (.iconst 4, 1) := by decide +kernel
theorem d1_46 : decode method_3_code 46 = .ok (.if_icmp .lt 10, 3) := by decide +kernel
theorem d1_49 : decode method_3_code 49 = .ok (.iinc 1 2, 3) := by decide +kernel
theorem d1_52 : decode method_3_code 52 = .ok (.iload_n 0, 1) := by decide +kernel
theorem d1_53 : decode method_3_code 53 = .ok (.iconst 2, 1) := by decide +kernel
theorem d1_54 : decode method_3_code 54 = .ok (.iushr, 1) := by decide +kernel
theorem d1_55 : decode method_3_code 55 = .ok (.istore_n 0, 1) := by decide +kernel
theorem d1_56 : decode method_3_code 56 = .ok (.iload_n 0, 1) := by decide +kernel
theorem d1_57 : decode method_3_code 57 = .ok (.iconst 2, 1) := by decide +kernel
theorem d1_58 : decode method_3_code 58 = .ok (.if_icmp .lt 10, 3) := by decide +kernel
theorem d1_61 : decode method_3_code 61 = .ok (.iinc 1 1, 3) := by decide +kernel
theorem d1_64 : decode method_3_code 64 = .ok (.iload_n 0, 1) := by decide +kernel
theorem d1_65 : decode method_3_code 65 = .ok (.iconst 1, 1) := by decide +kernel
theorem d1_66 : decode method_3_code 66 = .ok (.iushr, 1) := by decide +kernel
theorem d1_67 : decode method_3_code 67 = .ok (.istore_n 0, 1) := by decide +kernel
theorem d1_68 : decode method_3_code 68 = .ok (.iload_n 1, 1) := by decide +kernel
theorem d1_69 : decode method_3_code 69 = .ok (.iload_n 0, 1) := by decide +kernel
theorem d1_70 : decode method_3_code 70 = .ok (.iadd, 1) := by decide +kernel
theorem d1_71 : decode method_3_code 71 = .ok (.ireturn, 1) := by decide +kernel
theorem pn_1 : plainName "com/example/prefixd/prefixd/HighestInRangeTableBytesPinLaw" = true := by first | (simp [plainName, overriddenIn]; done) | decide +kernel
theorem ef_1 (m : MethodId) (p1 : Int32) : entryFrame m #[(.int p1)] 2 = mkF m 0 #[.val (.int p1), .unset] [] := by first | (simp [entryFrame, mkF, argsToLocals, Value.category]; done) | rfl
def Q1 (Z : State) (p1 : Int32) (h0 : Heap) (n0 : Nat) (v : Option Value) (h : Heap) (L : List Loc) : Prop := v = some (.int (F1 p1)) ∧ Fr n0 L ∧ h = h0
set_option maxRecDepth 65536 in
set_option maxHeartbeats 40000000 in
theorem rm1 (l : Launch) (Z : State) (a0 : Array Value) (hw : ∀ d ∈ tables_1, d.before a0 Z = true) (ws : List Jvm.Cond) (p1 : Int32)  (h0 : Heap) (n0 : Nat) (Z0 : n0 ≤ h0.size)  :
    MetFree l (⟨"com/example/prefixd/prefixd/HighestInRangeTableBytesPinLaw", "bitLength", "(I)I"⟩ : MethodName) (head1 (Jvm.Cond.code (⟨"com/example/prefixd/prefixd/HighestInRangeTableBytesPinLaw", "bitLength", "(I)I"⟩ : MethodName) method_3_code 2 (some .int) :: ws) ({ frames := 0, cells := 0, slots := 0, locals := 0 } : Room)) (fun a U => a = #[(.int p1)] ∧ Z.Warmed39 U.vm ∧ U.heap = h0) (fun _ _ _ _ _ => True) (fun _ U o U' => ∃ v L, o = .returned v ∧ Q1 Z p1 h0 n0 v U'.heap L ∧ FrameEnd U o U' L ({ frames := 0, cells := 0, slots := 0, locals := 0 } : Room).cells ({ frames := 0, cells := 0, slots := 0, locals := 0 } : Room).slots) := by
  refine MetFree.of_bodySF (plainFor_of_name pn_1) hisR ?_
  intro p e s m args below meth c s₁ Bd hml0 hP hK
  obtain ⟨rfl, hZ, hh⟩ := hP
  have hx := Bd.exec
  have hby := Bd.bytes
  have hml : c.maxLocals = 2 := hml0
  have hown : s.vm.findClass "com/example/prefixd/prefixd/HighestInRangeTableBytesPinLaw" = some m.cls := findClass_of_methodNamed Bd.named
  have hnm := (name_of_methodNamed Bd.named Bd.method).1
  have X0 : Stand p l e ({ frames := 0, cells := 0, slots := 0, locals := 0 } : Room) s m #[(.int p1)] below meth c s₁ [] 0 0 := Stand.of_body Bd
  have e0 : s₁.heap = h0 := by rw [← hh, Bd.state]; rfl
  have N0 := Fr.nil n0
  suffices hG : OwnG p e below s (Q1 Z p1 h0 n0) ({ frames := 0, cells := 0, slots := 0, locals := 0 } : Room).cells ({ frames := 0, cells := 0, slots := 0, locals := 0 } : Room).slots s₁ (mkF m 0 #[.val (.int p1), .unset] []) by
    obtain ⟨s2, o2, g1, g2⟩ := hG
    exact ⟨s2, o2, castTop (ef_1 m p1) g1, g2⟩
  have sg1 : ∀ tgt, Steps p.tables e below (s₁.setTop (mkF m 5 #[.val (.int p1), .val (.int (0 : Int32))] [(.int (65536 : Int32)), (.int p1)])) tgt → Steps p.tables e below (s₁.setTop (mkF m 0 #[.val (.int p1), .unset] [])) tgt := by
    intro tgt kt
    refine XS.iconst X0.here hx rfl (hb hby d1_0) ?_
    show Steps p.tables e below (s₁.setTop (mkF m 1 #[.val (.int p1), .unset] [(.int (0 : Int32))])) _
    refine XS.istoreN X0.here hx rfl (hb hby d1_1) rfl (l' := #[.val (.int p1), .val (.int (0 : Int32))]) rfl ?_
    show Steps p.tables e below (s₁.setTop (mkF m 2 #[.val (.int p1), .val (.int (0 : Int32))] [])) _
    refine XS.iloadN X0.here hx rfl (hb hby d1_2) rfl ?_
    show Steps p.tables e below (s₁.setTop (mkF m 3 #[.val (.int p1), .val (.int (0 : Int32))] [(.int p1)])) _
    refine X0.ldcInt hx hown (mvT hZ (hw _ (List.mem_of_getElem? (i := 7) rfl))) (g := (mkF m 3 #[.val (.int p1), .val (.int (0 : Int32))] [(.int p1)])) rfl (hb hby d1_3) _ ?_
    show Steps p.tables e below (s₁.setTop (mkF m 5 #[.val (.int p1), .val (.int (0 : Int32))] [(.int (65536 : Int32)), (.int p1)])) _
    exact kt
  refine OwnG.st sg1 ?_
  obtain ⟨z16_3, hz16_3⟩ : ∃ w : Int32, w = (if p1 < (65536 : Int32) then p1 else ((p1.toUInt32 >>> ((16 : Int32) &&& 31).toUInt32).toInt32)) := ⟨_, rfl⟩
  obtain ⟨z16_4, hz16_4⟩ : ∃ w : Int32, w = (if p1 < (65536 : Int32) then (0 : Int32) else (16 : Int32)) := ⟨_, rfl⟩
  have dj5 : ∀ tgt, Steps p.tables e below (s₁.setTop (mkF m 16 #[.val (.int z16_3), .val (.int z16_4)] [])) tgt → Steps p.tables e below (s₁.setTop (mkF m 5 #[.val (.int p1), .val (.int (0 : Int32))] [(.int (65536 : Int32)), (.int p1)])) tgt := by
    intro tgt kt
    by_cases hc5_2 : p1 < (65536 : Int32)
    · have qz16_3 : z16_3 = p1 := by rw [hz16_3, if_pos hc5_2]
      have qz16_4 : z16_4 = (0 : Int32) := by rw [hz16_4, if_pos hc5_2]
      rw [qz16_3, qz16_4] at kt
      refine XS.icmpYes X0.here hx rfl (pc0 := 5) (pc' := 16) rfl (hb hby d1_5) rfl (tlt hc5_2).1 (by decide) (by decide) ?_
      show Steps p.tables e below (s₁.setTop (mkF m 16 #[.val (.int p1), .val (.int (0 : Int32))] [])) _
      exact kt
    · have qz16_3 : z16_3 = ((p1.toUInt32 >>> ((16 : Int32) &&& 31).toUInt32).toInt32) := by rw [hz16_3, if_neg hc5_2]
      have qz16_4 : z16_4 = (16 : Int32) := by rw [hz16_4, if_neg hc5_2]
      rw [qz16_3, qz16_4] at kt
      refine XS.icmpNo X0.here hx rfl (hb hby d1_5) rfl (flt hc5_2).1 ?_
      show Steps p.tables e below (s₁.setTop (mkF m 8 #[.val (.int p1), .val (.int (0 : Int32))] [])) _
      refine XS.iinc X0.here hx rfl (hb hby d1_8) rfl (l' := #[.val (.int p1), .val (.int (16 : Int32))]) rfl ?_
      show Steps p.tables e below (s₁.setTop (mkF m 11 #[.val (.int p1), .val (.int (16 : Int32))] [])) _
      refine XS.iloadN X0.here hx rfl (hb hby d1_11) rfl ?_
      show Steps p.tables e below (s₁.setTop (mkF m 12 #[.val (.int p1), .val (.int (16 : Int32))] [(.int p1)])) _
      refine XS.bipush X0.here hx rfl (hb hby d1_12) ?_
      show Steps p.tables e below (s₁.setTop (mkF m 14 #[.val (.int p1), .val (.int (16 : Int32))] [(.int (16 : Int32)), (.int p1)])) _
      refine XS.iushr X0.here hx rfl (hb hby d1_14) rfl ?_
      show Steps p.tables e below (s₁.setTop (mkF m 15 #[.val (.int p1), .val (.int (16 : Int32))] [(.int ((p1.toUInt32 >>> ((16 : Int32) &&& 31).toUInt32).toInt32))])) _
      refine XS.istoreN X0.here hx rfl (hb hby d1_15) rfl (l' := #[.val (.int ((p1.toUInt32 >>> ((16 : Int32) &&& 31).toUInt32).toInt32)), .val (.int (16 : Int32))]) rfl ?_
      show Steps p.tables e below (s₁.setTop (mkF m 16 #[.val (.int ((p1.toUInt32 >>> ((16 : Int32) &&& 31).toUInt32).toInt32)), .val (.int (16 : Int32))] [])) _
      exact kt
  refine OwnG.st dj5 ?_
  have sg6 : ∀ tgt, Steps p.tables e below (s₁.setTop (mkF m 20 #[.val (.int z16_3), .val (.int z16_4)] [(.int (256 : Int32)), (.int z16_3)])) tgt → Steps p.tables e below (s₁.setTop (mkF m 16 #[.val (.int z16_3), .val (.int z16_4)] [])) tgt := by
    intro tgt kt
    refine XS.iloadN X0.here hx rfl (hb hby d1_16) rfl ?_
    show Steps p.tables e below (s₁.setTop (mkF m 17 #[.val (.int z16_3), .val (.int z16_4)] [(.int z16_3)])) _
    refine XS.sipush X0.here hx rfl (hb hby d1_17) ?_
    show Steps p.tables e below (s₁.setTop (mkF m 20 #[.val (.int z16_3), .val (.int z16_4)] [(.int (256 : Int32)), (.int z16_3)])) _
    exact kt
  refine OwnG.st sg6 ?_
  obtain ⟨z31_8, hz31_8⟩ : ∃ w : Int32, w = (if z16_3 < (256 : Int32) then z16_3 else ((z16_3.toUInt32 >>> ((8 : Int32) &&& 31).toUInt32).toInt32)) := ⟨_, rfl⟩
  obtain ⟨z31_9, hz31_9⟩ : ∃ w : Int32, w = (if z16_3 < (256 : Int32) then z16_4 else (z16_4 + (8 : Int32))) := ⟨_, rfl⟩
  have dj10 : ∀ tgt, Steps p.tables e below (s₁.setTop (mkF m 31 #[.val (.int z31_8), .val (.int z31_9)] [])) tgt → Steps p.tables e below (s₁.setTop (mkF m 20 #[.val (.int z16_3), .val (.int z16_4)] [(.int (256 : Int32)), (.int z16_3)])) tgt := by
    intro tgt kt
    by_cases hc20_7 : z16_3 < (256 : Int32)
    · have qz31_8 : z31_8 = z16_3 := by rw [hz31_8, if_pos hc20_7]
      have qz31_9 : z31_9 = z16_4 := by rw [hz31_9, if_pos hc20_7]
      rw [qz31_8, qz31_9] at kt
      refine XS.icmpYes X0.here hx rfl (pc0 := 20) (pc' := 31) rfl (hb hby d1_20) rfl (tlt hc20_7).1 (by decide) (by decide) ?_
      show Steps p.tables e below (s₁.setTop (mkF m 31 #[.val (.int z16_3), .val (.int z16_4)] [])) _
      exact kt
    · have qz31_8 : z31_8 = ((z16_3.toUInt32 >>> ((8 : Int32) &&& 31).toUInt32).toInt32) := by rw [hz31_8, if_neg hc20_7]
      have qz31_9 : z31_9 = (z16_4 + (8 : Int32)) := by rw [hz31_9, if_neg hc20_7]
      rw [qz31_8, qz31_9] at kt
      refine XS.icmpNo X0.here hx rfl (hb hby d1_20) rfl (flt hc20_7).1 ?_
      show Steps p.tables e below (s₁.setTop (mkF m 23 #[.val (.int z16_3), .val (.int z16_4)] [])) _
      refine XS.iinc X0.here hx rfl (hb hby d1_23) rfl (l' := #[.val (.int z16_3), .val (.int (z16_4 + (8 : Int32)))]) rfl ?_
      show Steps p.tables e below (s₁.setTop (mkF m 26 #[.val (.int z16_3), .val (.int (z16_4 + (8 : Int32)))] [])) _
      refine XS.iloadN X0.here hx rfl (hb hby d1_26) rfl ?_
      show Steps p.tables e below (s₁.setTop (mkF m 27 #[.val (.int z16_3), .val (.int (z16_4 + (8 : Int32)))] [(.int z16_3)])) _
      refine XS.bipush X0.here hx rfl (hb hby d1_27) ?_
      show Steps p.tables e below (s₁.setTop (mkF m 29 #[.val (.int z16_3), .val (.int (z16_4 + (8 : Int32)))] [(.int (8 : Int32)), (.int z16_3)])) _
      refine XS.iushr X0.here hx rfl (hb hby d1_29) rfl ?_
      show Steps p.tables e below (s₁.setTop (mkF m 30 #[.val (.int z16_3), .val (.int (z16_4 + (8 : Int32)))] [(.int ((z16_3.toUInt32 >>> ((8 : Int32) &&& 31).toUInt32).toInt32))])) _
      refine XS.istoreN X0.here hx rfl (hb hby d1_30) rfl (l' := #[.val (.int ((z16_3.toUInt32 >>> ((8 : Int32) &&& 31).toUInt32).toInt32)), .val (.int (z16_4 + (8 : Int32)))]) rfl ?_
      show Steps p.tables e below (s₁.setTop (mkF m 31 #[.val (.int ((z16_3.toUInt32 >>> ((8 : Int32) &&& 31).toUInt32).toInt32)), .val (.int (z16_4 + (8 : Int32)))] [])) _
      exact kt
  refine OwnG.st dj10 ?_
  have sg11 : ∀ tgt, Steps p.tables e below (s₁.setTop (mkF m 34 #[.val (.int z31_8), .val (.int z31_9)] [(.int (16 : Int32)), (.int z31_8)])) tgt → Steps p.tables e below (s₁.setTop (mkF m 31 #[.val (.int z31_8), .val (.int z31_9)] [])) tgt := by
    intro tgt kt
    refine XS.iloadN X0.here hx rfl (hb hby d1_31) rfl ?_
    show Steps p.tables e below (s₁.setTop (mkF m 32 #[.val (.int z31_8), .val (.int z31_9)] [(.int z31_8)])) _
    refine XS.bipush X0.here hx rfl (hb hby d1_32) ?_
    show Steps p.tables e below (s₁.setTop (mkF m 34 #[.val (.int z31_8), .val (.int z31_9)] [(.int (16 : Int32)), (.int z31_8)])) _
    exact kt
  refine OwnG.st sg11 ?_
  obtain ⟨z44_13, hz44_13⟩ : ∃ w : Int32, w = (if z31_8 < (16 : Int32) then z31_8 else ((z31_8.toUInt32 >>> ((4 : Int32) &&& 31).toUInt32).toInt32)) := ⟨_, rfl⟩
  obtain ⟨z44_14, hz44_14⟩ : ∃ w : Int32, w = (if z31_8 < (16 : Int32) then z31_9 else (z31_9 + (4 : Int32))) := ⟨_, rfl⟩
  have dj15 : ∀ tgt, Steps p.tables e below (s₁.setTop (mkF m 44 #[.val (.int z44_13), .val (.int z44_14)] [])) tgt → Steps p.tables e below (s₁.setTop (mkF m 34 #[.val (.int z31_8), .val (.int z31_9)] [(.int (16 : Int32)), (.int z31_8)])) tgt := by
    intro tgt kt
    by_cases hc34_12 : z31_8 < (16 : Int32)
    · have qz44_13 : z44_13 = z31_8 := by rw [hz44_13, if_pos hc34_12]
      have qz44_14 : z44_14 = z31_9 := by rw [hz44_14, if_pos hc34_12]
      rw [qz44_13, qz44_14] at kt
      refine XS.icmpYes X0.here hx rfl (pc0 := 34) (pc' := 44) rfl (hb hby d1_34) rfl (tlt hc34_12).1 (by decide) (by decide) ?_
      show Steps p.tables e below (s₁.setTop (mkF m 44 #[.val (.int z31_8), .val (.int z31_9)] [])) _
      exact kt
    · have qz44_13 : z44_13 = ((z31_8.toUInt32 >>> ((4 : Int32) &&& 31).toUInt32).toInt32) := by rw [hz44_13, if_neg hc34_12]
      have qz44_14 : z44_14 = (z31_9 + (4 : Int32)) := by rw [hz44_14, if_neg hc34_12]
      rw [qz44_13, qz44_14] at kt
      refine XS.icmpNo X0.here hx rfl (hb hby d1_34) rfl (flt hc34_12).1 ?_
      show Steps p.tables e below (s₁.setTop (mkF m 37 #[.val (.int z31_8), .val (.int z31_9)] [])) _
      refine XS.iinc X0.here hx rfl (hb hby d1_37) rfl (l' := #[.val (.int z31_8), .val (.int (z31_9 + (4 : Int32)))]) rfl ?_
      show Steps p.tables e below (s₁.setTop (mkF m 40 #[.val (.int z31_8), .val (.int (z31_9 + (4 : Int32)))] [])) _
      refine XS.iloadN X0.here hx rfl (hb hby d1_40) rfl ?_
      show Steps p.tables e below (s₁.setTop (mkF m 41 #[.val (.int z31_8), .val (.int (z31_9 + (4 : Int32)))] [(.int z31_8)])) _
      refine XS.iconst X0.here hx rfl (hb hby d1_41) ?_
      show Steps p.tables e below (s₁.setTop (mkF m 42 #[.val (.int z31_8), .val (.int (z31_9 + (4 : Int32)))] [(.int (4 : Int32)), (.int z31_8)])) _
      refine XS.iushr X0.here hx rfl (hb hby d1_42) rfl ?_
      show Steps p.tables e below (s₁.setTop (mkF m 43 #[.val (.int z31_8), .val (.int (z31_9 + (4 : Int32)))] [(.int ((z31_8.toUInt32 >>> ((4 : Int32) &&& 31).toUInt32).toInt32))])) _
      refine XS.istoreN X0.here hx rfl (hb hby d1_43) rfl (l' := #[.val (.int ((z31_8.toUInt32 >>> ((4 : Int32) &&& 31).toUInt32).toInt32)), .val (.int (z31_9 + (4 : Int32)))]) rfl ?_
      show Steps p.tables e below (s₁.setTop (mkF m 44 #[.val (.int ((z31_8.toUInt32 >>> ((4 : Int32) &&& 31).toUInt32).toInt32)), .val (.int (z31_9 + (4 : Int32)))] [])) _
      exact kt
  refine OwnG.st dj15 ?_
  have sg16 : ∀ tgt, Steps p.tables e below (s₁.setTop (mkF m 46 #[.val (.int z44_13), .val (.int z44_14)] [(.int (4 : Int32)), (.int z44_13)])) tgt → Steps p.tables e below (s₁.setTop (mkF m 44 #[.val (.int z44_13), .val (.int z44_14)] [])) tgt := by
    intro tgt kt
    refine XS.iloadN X0.here hx rfl (hb hby d1_44) rfl ?_
    show Steps p.tables e below (s₁.setTop (mkF m 45 #[.val (.int z44_13), .val (.int z44_14)] [(.int z44_13)])) _
    refine XS.iconst X0.here hx rfl (hb hby d1_45) ?_
    show Steps p.tables e below (s₁.setTop (mkF m 46 #[.val (.int z44_13), .val (.int z44_14)] [(.int (4 : Int32)), (.int z44_13)])) _
    exact kt
  refine OwnG.st sg16 ?_
  obtain ⟨z56_18, hz56_18⟩ : ∃ w : Int32, w = (if z44_13 < (4 : Int32) then z44_13 else ((z44_13.toUInt32 >>> ((2 : Int32) &&& 31).toUInt32).toInt32)) := ⟨_, rfl⟩
  obtain ⟨z56_19, hz56_19⟩ : ∃ w : Int32, w = (if z44_13 < (4 : Int32) then z44_14 else (z44_14 + (2 : Int32))) := ⟨_, rfl⟩
  have dj20 : ∀ tgt, Steps p.tables e below (s₁.setTop (mkF m 56 #[.val (.int z56_18), .val (.int z56_19)] [])) tgt → Steps p.tables e below (s₁.setTop (mkF m 46 #[.val (.int z44_13), .val (.int z44_14)] [(.int (4 : Int32)), (.int z44_13)])) tgt := by
    intro tgt kt
    by_cases hc46_17 : z44_13 < (4 : Int32)
    · have qz56_18 : z56_18 = z44_13 := by rw [hz56_18, if_pos hc46_17]
      have qz56_19 : z56_19 = z44_14 := by rw [hz56_19, if_pos hc46_17]
      rw [qz56_18, qz56_19] at kt
      refine XS.icmpYes X0.here hx rfl (pc0 := 46) (pc' := 56) rfl (hb hby d1_46) rfl (tlt hc46_17).1 (by decide) (by decide) ?_
      show Steps p.tables e below (s₁.setTop (mkF m 56 #[.val (.int z44_13), .val (.int z44_14)] [])) _
      exact kt
    · have qz56_18 : z56_18 = ((z44_13.toUInt32 >>> ((2 : Int32) &&& 31).toUInt32).toInt32) := by rw [hz56_18, if_neg hc46_17]
      have qz56_19 : z56_19 = (z44_14 + (2 : Int32)) := by rw [hz56_19, if_neg hc46_17]
      rw [qz56_18, qz56_19] at kt
      refine XS.icmpNo X0.here hx rfl (hb hby d1_46) rfl (flt hc46_17).1 ?_
      show Steps p.tables e below (s₁.setTop (mkF m 49 #[.val (.int z44_13), .val (.int z44_14)] [])) _
      refine XS.iinc X0.here hx rfl (hb hby d1_49) rfl (l' := #[.val (.int z44_13), .val (.int (z44_14 + (2 : Int32)))]) rfl ?_
      show Steps p.tables e below (s₁.setTop (mkF m 52 #[.val (.int z44_13), .val (.int (z44_14 + (2 : Int32)))] [])) _
      refine XS.iloadN X0.here hx rfl (hb hby d1_52) rfl ?_
      show Steps p.tables e below (s₁.setTop (mkF m 53 #[.val (.int z44_13), .val (.int (z44_14 + (2 : Int32)))] [(.int z44_13)])) _
      refine XS.iconst X0.here hx rfl (hb hby d1_53) ?_
      show Steps p.tables e below (s₁.setTop (mkF m 54 #[.val (.int z44_13), .val (.int (z44_14 + (2 : Int32)))] [(.int (2 : Int32)), (.int z44_13)])) _
      refine XS.iushr X0.here hx rfl (hb hby d1_54) rfl ?_
      show Steps p.tables e below (s₁.setTop (mkF m 55 #[.val (.int z44_13), .val (.int (z44_14 + (2 : Int32)))] [(.int ((z44_13.toUInt32 >>> ((2 : Int32) &&& 31).toUInt32).toInt32))])) _
      refine XS.istoreN X0.here hx rfl (hb hby d1_55) rfl (l' := #[.val (.int ((z44_13.toUInt32 >>> ((2 : Int32) &&& 31).toUInt32).toInt32)), .val (.int (z44_14 + (2 : Int32)))]) rfl ?_
      show Steps p.tables e below (s₁.setTop (mkF m 56 #[.val (.int ((z44_13.toUInt32 >>> ((2 : Int32) &&& 31).toUInt32).toInt32)), .val (.int (z44_14 + (2 : Int32)))] [])) _
      exact kt
  refine OwnG.st dj20 ?_
  have sg21 : ∀ tgt, Steps p.tables e below (s₁.setTop (mkF m 58 #[.val (.int z56_18), .val (.int z56_19)] [(.int (2 : Int32)), (.int z56_18)])) tgt → Steps p.tables e below (s₁.setTop (mkF m 56 #[.val (.int z56_18), .val (.int z56_19)] [])) tgt := by
    intro tgt kt
    refine XS.iloadN X0.here hx rfl (hb hby d1_56) rfl ?_
    show Steps p.tables e below (s₁.setTop (mkF m 57 #[.val (.int z56_18), .val (.int z56_19)] [(.int z56_18)])) _
    refine XS.iconst X0.here hx rfl (hb hby d1_57) ?_
    show Steps p.tables e below (s₁.setTop (mkF m 58 #[.val (.int z56_18), .val (.int z56_19)] [(.int (2 : Int32)), (.int z56_18)])) _
    exact kt
  refine OwnG.st sg21 ?_
  obtain ⟨z68_23, hz68_23⟩ : ∃ w : Int32, w = (if z56_18 < (2 : Int32) then z56_18 else ((z56_18.toUInt32 >>> ((1 : Int32) &&& 31).toUInt32).toInt32)) := ⟨_, rfl⟩
  obtain ⟨z68_24, hz68_24⟩ : ∃ w : Int32, w = (if z56_18 < (2 : Int32) then z56_19 else (z56_19 + (1 : Int32))) := ⟨_, rfl⟩
  have dj25 : ∀ tgt, Steps p.tables e below (s₁.setTop (mkF m 68 #[.val (.int z68_23), .val (.int z68_24)] [])) tgt → Steps p.tables e below (s₁.setTop (mkF m 58 #[.val (.int z56_18), .val (.int z56_19)] [(.int (2 : Int32)), (.int z56_18)])) tgt := by
    intro tgt kt
    by_cases hc58_22 : z56_18 < (2 : Int32)
    · have qz68_23 : z68_23 = z56_18 := by rw [hz68_23, if_pos hc58_22]
      have qz68_24 : z68_24 = z56_19 := by rw [hz68_24, if_pos hc58_22]
      rw [qz68_23, qz68_24] at kt
      refine XS.icmpYes X0.here hx rfl (pc0 := 58) (pc' := 68) rfl (hb hby d1_58) rfl (tlt hc58_22).1 (by decide) (by decide) ?_
      show Steps p.tables e below (s₁.setTop (mkF m 68 #[.val (.int z56_18), .val (.int z56_19)] [])) _
      exact kt
    · have qz68_23 : z68_23 = ((z56_18.toUInt32 >>> ((1 : Int32) &&& 31).toUInt32).toInt32) := by rw [hz68_23, if_neg hc58_22]
      have qz68_24 : z68_24 = (z56_19 + (1 : Int32)) := by rw [hz68_24, if_neg hc58_22]
      rw [qz68_23, qz68_24] at kt
      refine XS.icmpNo X0.here hx rfl (hb hby d1_58) rfl (flt hc58_22).1 ?_
      show Steps p.tables e below (s₁.setTop (mkF m 61 #[.val (.int z56_18), .val (.int z56_19)] [])) _
      refine XS.iinc X0.here hx rfl (hb hby d1_61) rfl (l' := #[.val (.int z56_18), .val (.int (z56_19 + (1 : Int32)))]) rfl ?_
      show Steps p.tables e below (s₁.setTop (mkF m 64 #[.val (.int z56_18), .val (.int (z56_19 + (1 : Int32)))] [])) _
      refine XS.iloadN X0.here hx rfl (hb hby d1_64) rfl ?_
      show Steps p.tables e below (s₁.setTop (mkF m 65 #[.val (.int z56_18), .val (.int (z56_19 + (1 : Int32)))] [(.int z56_18)])) _
      refine XS.iconst X0.here hx rfl (hb hby d1_65) ?_
      show Steps p.tables e below (s₁.setTop (mkF m 66 #[.val (.int z56_18), .val (.int (z56_19 + (1 : Int32)))] [(.int (1 : Int32)), (.int z56_18)])) _
      refine XS.iushr X0.here hx rfl (hb hby d1_66) rfl ?_
      show Steps p.tables e below (s₁.setTop (mkF m 67 #[.val (.int z56_18), .val (.int (z56_19 + (1 : Int32)))] [(.int ((z56_18.toUInt32 >>> ((1 : Int32) &&& 31).toUInt32).toInt32))])) _
      refine XS.istoreN X0.here hx rfl (hb hby d1_67) rfl (l' := #[.val (.int ((z56_18.toUInt32 >>> ((1 : Int32) &&& 31).toUInt32).toInt32)), .val (.int (z56_19 + (1 : Int32)))]) rfl ?_
      show Steps p.tables e below (s₁.setTop (mkF m 68 #[.val (.int ((z56_18.toUInt32 >>> ((1 : Int32) &&& 31).toUInt32).toInt32)), .val (.int (z56_19 + (1 : Int32)))] [])) _
      exact kt
  refine OwnG.st dj25 ?_
  have sg26 : ∀ tgt, Steps p.tables e below (s₁.setTop (mkF m 71 #[.val (.int z68_23), .val (.int z68_24)] [(.int (z68_24 + z68_23))])) tgt → Steps p.tables e below (s₁.setTop (mkF m 68 #[.val (.int z68_23), .val (.int z68_24)] [])) tgt := by
    intro tgt kt
    refine XS.iloadN X0.here hx rfl (hb hby d1_68) rfl ?_
    show Steps p.tables e below (s₁.setTop (mkF m 69 #[.val (.int z68_23), .val (.int z68_24)] [(.int z68_24)])) _
    refine XS.iloadN X0.here hx rfl (hb hby d1_69) rfl ?_
    show Steps p.tables e below (s₁.setTop (mkF m 70 #[.val (.int z68_23), .val (.int z68_24)] [(.int z68_23), (.int z68_24)])) _
    refine XS.iadd X0.here hx rfl (hb hby d1_70) rfl ?_
    show Steps p.tables e below (s₁.setTop (mkF m 71 #[.val (.int z68_23), .val (.int z68_24)] [(.int (z68_24 + z68_23))])) _
    exact kt
  refine OwnG.st sg26 ?_
  have hv : (z68_24 + z68_23) = F1 p1 := by have j0 : z16_3 = J1_16_0 p1 := hz16_3; subst j0; have j1 : z16_4 = J1_16_1 p1 := hz16_4; subst j1; have j2 : z31_8 = J1_31_2 p1 := hz31_8; subst j2; have j3 : z31_9 = J1_31_3 p1 := hz31_9; subst j3; have j4 : z44_13 = J1_44_4 p1 := hz44_13; subst j4; have j5 : z44_14 = J1_44_5 p1 := hz44_14; subst j5; have j6 : z56_18 = J1_56_6 p1 := hz56_18; subst j6; have j7 : z56_19 = J1_56_7 p1 := hz56_19; subst j7; have j8 : z68_23 = J1_68_8 p1 := hz68_23; subst j8; have j9 : z68_24 = J1_68_9 p1 := hz68_24; subst j9; simp only [F1]
  exact OwnG.retI X0 hx Bd.returns (BodyLoose.notSynchronized Bd) (hb hby d1_71) ⟨congrArg (fun w => some (Value.int w)) hv, N0, e0⟩ (by decide) (by decide)
def J6_33_0 (p1 : Int32) : Int32 := (if p1 < (65536 : Int32) then p1 else ((p1.toUInt32 >>> ((16 : Int32) &&& 31).toUInt32).toInt32))
def J6_33_1 (p1 : Int32) : Int32 := (if p1 < (65536 : Int32) then (31 : Int32) else (15 : Int32))
def J6_48_2 (p1 : Int32) : Int32 := (if (J6_33_0 p1) < (256 : Int32) then (J6_33_0 p1) else (((J6_33_0 p1).toUInt32 >>> ((8 : Int32) &&& 31).toUInt32).toInt32))
def J6_48_3 (p1 : Int32) : Int32 := (if (J6_33_0 p1) < (256 : Int32) then (J6_33_1 p1) else ((J6_33_1 p1) + (-8 : Int32)))
def J6_61_4 (p1 : Int32) : Int32 := (if (J6_48_2 p1) < (16 : Int32) then (J6_48_2 p1) else (((J6_48_2 p1).toUInt32 >>> ((4 : Int32) &&& 31).toUInt32).toInt32))
def J6_61_5 (p1 : Int32) : Int32 := (if (J6_48_2 p1) < (16 : Int32) then (J6_48_3 p1) else ((J6_48_3 p1) + (-4 : Int32)))
def J6_73_6 (p1 : Int32) : Int32 := (if (J6_61_4 p1) < (4 : Int32) then (J6_61_4 p1) else (((J6_61_4 p1).toUInt32 >>> ((2 : Int32) &&& 31).toUInt32).toInt32))
def J6_73_7 (p1 : Int32) : Int32 := (if (J6_61_4 p1) < (4 : Int32) then (J6_61_5 p1) else ((J6_61_5 p1) + (-2 : Int32)))
def F6 (p1 : Int32) : Int32 := (if (0 : Int32) < p1 then ((J6_73_7 p1) - (((J6_73_6 p1).toUInt32 >>> ((1 : Int32) &&& 31).toUInt32).toInt32)) else (if p1 = (0 : Int32) then (32 : Int32) else (0 : Int32)))
theorem d6_0 : decode jdk_33_method_47_code 0 = .ok (.iload_n 0, 1) := by decide +kernel
theorem d6_1 : decode jdk_33_method_47_code 1 = .ok (.ifCond .gt 14, 3) := by decide +kernel
theorem d6_4 : decode jdk_33_method_47_code 4 = .ok (.iload_n 0, 1) := by decide +kernel
theorem d6_5 : decode jdk_33_method_47_code 5 = .ok (.ifCond .ne 8, 3) := by decide +kernel
theorem d6_8 : decode jdk_33_method_47_code 8 = .ok (.bipush 32, 2) := by decide +kernel
theorem d6_10 : decode jdk_33_method_47_code 10 = .ok (.goto 4, 3) := by decide +kernel
theorem d6_13 : decode jdk_33_method_47_code 13 = .ok (.iconst 0, 1) := by decide +kernel
theorem d6_14 : decode jdk_33_method_47_code 14 = .ok (.ireturn, 1) := by decide +kernel
theorem d6_15 : decode jdk_33_method_47_code 15 = .ok (.bipush 31, 2) := by decide +kernel
theorem d6_17 : decode jdk_33_method_47_code 17 = .ok (.istore_n 1, 1) := by decide +kernel
theorem d6_18 : decode jdk_33_method_47_code 18 = .ok (.iload_n 0, 1) := by decide +kernel
theorem d6_19 : decode jdk_33_method_47_code 19 = .ok (.ldc_w 264, 3) := by decide +kernel
theorem d6_22 : decode jdk_33_method_47_code 22 = .ok (.if_icmp .lt 11, 3) := by decide +kernel
theorem d6_25 : decode jdk_33_method_47_code 25 = .ok (.iinc 1 (-16), 3) := by decide +kernel
theorem d6_28 : decode jdk_33_method_47_code 28 = .ok (.iload_n 0, 1) := by decide +kernel
theorem d6_29 : decode jdk_33_method_47_code 29 = .ok (.bipush 16, 2) := by decide +kernel
theorem d6_31 : decode jdk_33_method_47_code 31 = .ok (.iushr, 1) := by decide +kernel
theorem d6_32 : decode jdk_33_method_47_code 32 = .ok (.istore_n 0, 1) := by decide +kernel
theorem d6_33 : decode jdk_33_method_47_code 33 = .ok (.iload_n 0, 1) := by decide +kernel
theorem d6_34 : decode jdk_33_method_47_code 34 = .ok (.sipush 256, 3) := by decide +kernel
theorem d6_37 : decode jdk_33_method_47_code 37 = .ok (.if_icmp .lt 11, 3) := by decide +kernel
theorem d6_40 : decode jdk_33_method_47_code 40 = .ok (.iinc 1 (-8), 3) := by decide +kernel
theorem d6_43 : decode jdk_33_method_47_code 43 = .ok (.iload_n 0, 1) := by decide +kernel
theorem d6_44 : decode jdk_33_method_47_code 44 = .ok (.bipush 8, 2) := by decide +kernel
theorem d6_46 : decode jdk_33_method_47_code 46 = .ok (.iushr, 1) := by decide +kernel
theorem d6_47 : decode jdk_33_method_47_code 47 = .ok (.istore_n 0, 1) := by decide +kernel
theorem d6_48 : decode jdk_33_method_47_code 48 = .ok (.iload_n 0, 1) := by decide +kernel
theorem d6_49 : decode jdk_33_method_47_code 49 = .ok (.bipush 16, 2) := by decide +kernel
theorem d6_51 : decode jdk_33_method_47_code 51 = .ok (.if_icmp .lt 10, 3) := by decide +kernel
theorem d6_54 : decode jdk_33_method_47_code 54 = .ok (.iinc 1 (-4), 3) := by decide +kernel
theorem d6_57 : decode jdk_33_method_47_code 57 = .ok (.iload_n 0, 1) := by decide +kernel
theorem d6_58 : decode jdk_33_method_47_code 58 = .ok (.iconst 4, 1) := by decide +kernel
theorem d6_59 : decode jdk_33_method_47_code 59 = .ok (.iushr, 1) := by decide +kernel
theorem d6_60 : decode jdk_33_method_47_code 60 = .ok (.istore_n 0, 1) := by decide +kernel
theorem d6_61 : decode jdk_33_method_47_code 61 = .ok (.iload_n 0, 1) := by decide +kernel
theorem d6_62 : decode jdk_33_method_47_code 62 = .ok (.iconst 4, 1) := by decide +kernel
theorem d6_63 : decode jdk_33_method_47_code 63 = .ok (.if_icmp .lt 10, 3) := by decide +kernel
theorem d6_66 : decode jdk_33_method_47_code 66 = .ok (.iinc 1 (-2), 3) := by decide +kernel
theorem d6_69 : decode jdk_33_method_47_code 69 = .ok (.iload_n 0, 1) := by decide +kernel
theorem d6_70 : decode jdk_33_method_47_code 70 = .ok (.iconst 2, 1) := by decide +kernel
theorem d6_71 : decode jdk_33_method_47_code 71 = .ok (.iushr, 1) := by decide +kernel
theorem d6_72 : decode jdk_33_method_47_code 72 = .ok (.istore_n 0, 1) := by decide +kernel
theorem d6_73 : decode jdk_33_method_47_code 73 = .ok (.iload_n 1, 1) := by decide +kernel
theorem d6_74 : decode jdk_33_method_47_code 74 = .ok (.iload_n 0, 1) := by decide +kernel
theorem d6_75 : decode jdk_33_method_47_code 75 = .ok (.iconst 1, 1) := by decide +kernel
theorem d6_76 : decode jdk_33_method_47_code 76 = .ok (.iushr, 1) := by decide +kernel
theorem d6_77 : decode jdk_33_method_47_code 77 = .ok (.isub, 1) := by decide +kernel
theorem d6_78 : decode jdk_33_method_47_code 78 = .ok (.ireturn, 1) := by decide +kernel
theorem pn_6 : plainName "java/lang/Integer" = true := by first | (simp [plainName, overriddenIn]; done) | decide +kernel
theorem ef_6 (m : MethodId) (p1 : Int32) : entryFrame m #[(.int p1)] 2 = mkF m 0 #[.val (.int p1), .unset] [] := by first | (simp [entryFrame, mkF, argsToLocals, Value.category]; done) | rfl
def Q6 (Z : State) (p1 : Int32) (h0 : Heap) (n0 : Nat) (v : Option Value) (h : Heap) (L : List Loc) : Prop := v = some (.int (F6 p1)) ∧ Fr n0 L ∧ h = h0
set_option maxRecDepth 65536 in
set_option maxHeartbeats 40000000 in
theorem rm6 (l : Launch) (Z : State) (a0 : Array Value) (hw : ∀ d ∈ tables_1, d.before a0 Z = true) (ws : List Jvm.Cond) (p1 : Int32)  (h0 : Heap) (n0 : Nat) (Z0 : n0 ≤ h0.size)  :
    MetFree l (⟨"java/lang/Integer", "numberOfLeadingZeros", "(I)I"⟩ : MethodName) (head1 (Jvm.Cond.code (⟨"java/lang/Integer", "numberOfLeadingZeros", "(I)I"⟩ : MethodName) jdk_33_method_47_code 2 (some .int) :: ws) ({ frames := 0, cells := 0, slots := 0, locals := 0 } : Room)) (fun a U => a = #[(.int p1)] ∧ Z.Warmed39 U.vm ∧ U.heap = h0) (fun _ _ _ _ _ => True) (fun _ U o U' => ∃ v L, o = .returned v ∧ Q6 Z p1 h0 n0 v U'.heap L ∧ FrameEnd U o U' L ({ frames := 0, cells := 0, slots := 0, locals := 0 } : Room).cells ({ frames := 0, cells := 0, slots := 0, locals := 0 } : Room).slots) := by
  refine MetFree.of_bodySF (plainFor_of_name pn_6) hisR ?_
  intro p e s m args below meth c s₁ Bd hml0 hP hK
  obtain ⟨rfl, hZ, hh⟩ := hP
  have hx := Bd.exec
  have hby := Bd.bytes
  have hml : c.maxLocals = 2 := hml0
  have hown : s.vm.findClass "java/lang/Integer" = some m.cls := findClass_of_methodNamed Bd.named
  have hnm := (name_of_methodNamed Bd.named Bd.method).1
  have X0 : Stand p l e ({ frames := 0, cells := 0, slots := 0, locals := 0 } : Room) s m #[(.int p1)] below meth c s₁ [] 0 0 := Stand.of_body Bd
  have e0 : s₁.heap = h0 := by rw [← hh, Bd.state]; rfl
  have N0 := Fr.nil n0
  suffices hG : OwnG p e below s (Q6 Z p1 h0 n0) ({ frames := 0, cells := 0, slots := 0, locals := 0 } : Room).cells ({ frames := 0, cells := 0, slots := 0, locals := 0 } : Room).slots s₁ (mkF m 0 #[.val (.int p1), .unset] []) by
    obtain ⟨s2, o2, g1, g2⟩ := hG
    exact ⟨s2, o2, castTop (ef_6 m p1) g1, g2⟩
  have sg1 : ∀ tgt, Steps p.tables e below (s₁.setTop (mkF m 1 #[.val (.int p1), .unset] [(.int p1)])) tgt → Steps p.tables e below (s₁.setTop (mkF m 0 #[.val (.int p1), .unset] [])) tgt := by
    intro tgt kt
    refine XS.iloadN X0.here hx rfl (hb hby d6_0) rfl ?_
    show Steps p.tables e below (s₁.setTop (mkF m 1 #[.val (.int p1), .unset] [(.int p1)])) _
    exact kt
  refine OwnG.st sg1 ?_
  by_cases hc1_2 : (0 : Int32) < p1
  · have sg3 : ∀ tgt, Steps p.tables e below (s₁.setTop (mkF m 22 #[.val (.int p1), .val (.int (31 : Int32))] [(.int (65536 : Int32)), (.int p1)])) tgt → Steps p.tables e below (s₁.setTop (mkF m 1 #[.val (.int p1), .unset] [(.int p1)])) tgt := by
      intro tgt kt
      refine XS.ifYes X0.here hx rfl (pc0 := 1) (pc' := 15) rfl (hb hby d6_1) rfl ((if0 _ _).trans (tlt hc1_2).2.2.1) (by decide) (by decide) ?_
      show Steps p.tables e below (s₁.setTop (mkF m 15 #[.val (.int p1), .unset] [])) _
      refine XS.bipush X0.here hx rfl (hb hby d6_15) ?_
      show Steps p.tables e below (s₁.setTop (mkF m 17 #[.val (.int p1), .unset] [(.int (31 : Int32))])) _
      refine XS.istoreN X0.here hx rfl (hb hby d6_17) rfl (l' := #[.val (.int p1), .val (.int (31 : Int32))]) rfl ?_
      show Steps p.tables e below (s₁.setTop (mkF m 18 #[.val (.int p1), .val (.int (31 : Int32))] [])) _
      refine XS.iloadN X0.here hx rfl (hb hby d6_18) rfl ?_
      show Steps p.tables e below (s₁.setTop (mkF m 19 #[.val (.int p1), .val (.int (31 : Int32))] [(.int p1)])) _
      refine X0.ldcwInt hx hown (mvT hZ (hw _ (List.mem_of_getElem? (i := 38) rfl))) (g := (mkF m 19 #[.val (.int p1), .val (.int (31 : Int32))] [(.int p1)])) rfl (hb hby d6_19) _ ?_
      show Steps p.tables e below (s₁.setTop (mkF m 22 #[.val (.int p1), .val (.int (31 : Int32))] [(.int (65536 : Int32)), (.int p1)])) _
      exact kt
    refine OwnG.st sg3 ?_
    obtain ⟨z33_5, hz33_5⟩ : ∃ w : Int32, w = (if p1 < (65536 : Int32) then p1 else ((p1.toUInt32 >>> ((16 : Int32) &&& 31).toUInt32).toInt32)) := ⟨_, rfl⟩
    obtain ⟨z33_6, hz33_6⟩ : ∃ w : Int32, w = (if p1 < (65536 : Int32) then (31 : Int32) else (15 : Int32)) := ⟨_, rfl⟩
    have dj7 : ∀ tgt, Steps p.tables e below (s₁.setTop (mkF m 33 #[.val (.int z33_5), .val (.int z33_6)] [])) tgt → Steps p.tables e below (s₁.setTop (mkF m 22 #[.val (.int p1), .val (.int (31 : Int32))] [(.int (65536 : Int32)), (.int p1)])) tgt := by
      intro tgt kt
      by_cases hc22_4 : p1 < (65536 : Int32)
      · have qz33_5 : z33_5 = p1 := by rw [hz33_5, if_pos hc22_4]
        have qz33_6 : z33_6 = (31 : Int32) := by rw [hz33_6, if_pos hc22_4]
        rw [qz33_5, qz33_6] at kt
        refine XS.icmpYes X0.here hx rfl (pc0 := 22) (pc' := 33) rfl (hb hby d6_22) rfl (tlt hc22_4).1 (by decide) (by decide) ?_
        show Steps p.tables e below (s₁.setTop (mkF m 33 #[.val (.int p1), .val (.int (31 : Int32))] [])) _
        exact kt
      · have qz33_5 : z33_5 = ((p1.toUInt32 >>> ((16 : Int32) &&& 31).toUInt32).toInt32) := by rw [hz33_5, if_neg hc22_4]
        have qz33_6 : z33_6 = (15 : Int32) := by rw [hz33_6, if_neg hc22_4]
        rw [qz33_5, qz33_6] at kt
        refine XS.icmpNo X0.here hx rfl (hb hby d6_22) rfl (flt hc22_4).1 ?_
        show Steps p.tables e below (s₁.setTop (mkF m 25 #[.val (.int p1), .val (.int (31 : Int32))] [])) _
        refine XS.iinc X0.here hx rfl (hb hby d6_25) rfl (l' := #[.val (.int p1), .val (.int (15 : Int32))]) rfl ?_
        show Steps p.tables e below (s₁.setTop (mkF m 28 #[.val (.int p1), .val (.int (15 : Int32))] [])) _
        refine XS.iloadN X0.here hx rfl (hb hby d6_28) rfl ?_
        show Steps p.tables e below (s₁.setTop (mkF m 29 #[.val (.int p1), .val (.int (15 : Int32))] [(.int p1)])) _
        refine XS.bipush X0.here hx rfl (hb hby d6_29) ?_
        show Steps p.tables e below (s₁.setTop (mkF m 31 #[.val (.int p1), .val (.int (15 : Int32))] [(.int (16 : Int32)), (.int p1)])) _
        refine XS.iushr X0.here hx rfl (hb hby d6_31) rfl ?_
        show Steps p.tables e below (s₁.setTop (mkF m 32 #[.val (.int p1), .val (.int (15 : Int32))] [(.int ((p1.toUInt32 >>> ((16 : Int32) &&& 31).toUInt32).toInt32))])) _
        refine XS.istoreN X0.here hx rfl (hb hby d6_32) rfl (l' := #[.val (.int ((p1.toUInt32 >>> ((16 : Int32) &&& 31).toUInt32).toInt32)), .val (.int (15 : Int32))]) rfl ?_
        show Steps p.tables e below (s₁.setTop (mkF m 33 #[.val (.int ((p1.toUInt32 >>> ((16 : Int32) &&& 31).toUInt32).toInt32)), .val (.int (15 : Int32))] [])) _
        exact kt
    refine OwnG.st dj7 ?_
    have sg8 : ∀ tgt, Steps p.tables e below (s₁.setTop (mkF m 37 #[.val (.int z33_5), .val (.int z33_6)] [(.int (256 : Int32)), (.int z33_5)])) tgt → Steps p.tables e below (s₁.setTop (mkF m 33 #[.val (.int z33_5), .val (.int z33_6)] [])) tgt := by
      intro tgt kt
      refine XS.iloadN X0.here hx rfl (hb hby d6_33) rfl ?_
      show Steps p.tables e below (s₁.setTop (mkF m 34 #[.val (.int z33_5), .val (.int z33_6)] [(.int z33_5)])) _
      refine XS.sipush X0.here hx rfl (hb hby d6_34) ?_
      show Steps p.tables e below (s₁.setTop (mkF m 37 #[.val (.int z33_5), .val (.int z33_6)] [(.int (256 : Int32)), (.int z33_5)])) _
      exact kt
    refine OwnG.st sg8 ?_
    obtain ⟨z48_10, hz48_10⟩ : ∃ w : Int32, w = (if z33_5 < (256 : Int32) then z33_5 else ((z33_5.toUInt32 >>> ((8 : Int32) &&& 31).toUInt32).toInt32)) := ⟨_, rfl⟩
    obtain ⟨z48_11, hz48_11⟩ : ∃ w : Int32, w = (if z33_5 < (256 : Int32) then z33_6 else (z33_6 + (-8 : Int32))) := ⟨_, rfl⟩
    have dj12 : ∀ tgt, Steps p.tables e below (s₁.setTop (mkF m 48 #[.val (.int z48_10), .val (.int z48_11)] [])) tgt → Steps p.tables e below (s₁.setTop (mkF m 37 #[.val (.int z33_5), .val (.int z33_6)] [(.int (256 : Int32)), (.int z33_5)])) tgt := by
      intro tgt kt
      by_cases hc37_9 : z33_5 < (256 : Int32)
      · have qz48_10 : z48_10 = z33_5 := by rw [hz48_10, if_pos hc37_9]
        have qz48_11 : z48_11 = z33_6 := by rw [hz48_11, if_pos hc37_9]
        rw [qz48_10, qz48_11] at kt
        refine XS.icmpYes X0.here hx rfl (pc0 := 37) (pc' := 48) rfl (hb hby d6_37) rfl (tlt hc37_9).1 (by decide) (by decide) ?_
        show Steps p.tables e below (s₁.setTop (mkF m 48 #[.val (.int z33_5), .val (.int z33_6)] [])) _
        exact kt
      · have qz48_10 : z48_10 = ((z33_5.toUInt32 >>> ((8 : Int32) &&& 31).toUInt32).toInt32) := by rw [hz48_10, if_neg hc37_9]
        have qz48_11 : z48_11 = (z33_6 + (-8 : Int32)) := by rw [hz48_11, if_neg hc37_9]
        rw [qz48_10, qz48_11] at kt
        refine XS.icmpNo X0.here hx rfl (hb hby d6_37) rfl (flt hc37_9).1 ?_
        show Steps p.tables e below (s₁.setTop (mkF m 40 #[.val (.int z33_5), .val (.int z33_6)] [])) _
        refine XS.iinc X0.here hx rfl (hb hby d6_40) rfl (l' := #[.val (.int z33_5), .val (.int (z33_6 + (-8 : Int32)))]) rfl ?_
        show Steps p.tables e below (s₁.setTop (mkF m 43 #[.val (.int z33_5), .val (.int (z33_6 + (-8 : Int32)))] [])) _
        refine XS.iloadN X0.here hx rfl (hb hby d6_43) rfl ?_
        show Steps p.tables e below (s₁.setTop (mkF m 44 #[.val (.int z33_5), .val (.int (z33_6 + (-8 : Int32)))] [(.int z33_5)])) _
        refine XS.bipush X0.here hx rfl (hb hby d6_44) ?_
        show Steps p.tables e below (s₁.setTop (mkF m 46 #[.val (.int z33_5), .val (.int (z33_6 + (-8 : Int32)))] [(.int (8 : Int32)), (.int z33_5)])) _
        refine XS.iushr X0.here hx rfl (hb hby d6_46) rfl ?_
        show Steps p.tables e below (s₁.setTop (mkF m 47 #[.val (.int z33_5), .val (.int (z33_6 + (-8 : Int32)))] [(.int ((z33_5.toUInt32 >>> ((8 : Int32) &&& 31).toUInt32).toInt32))])) _
        refine XS.istoreN X0.here hx rfl (hb hby d6_47) rfl (l' := #[.val (.int ((z33_5.toUInt32 >>> ((8 : Int32) &&& 31).toUInt32).toInt32)), .val (.int (z33_6 + (-8 : Int32)))]) rfl ?_
        show Steps p.tables e below (s₁.setTop (mkF m 48 #[.val (.int ((z33_5.toUInt32 >>> ((8 : Int32) &&& 31).toUInt32).toInt32)), .val (.int (z33_6 + (-8 : Int32)))] [])) _
        exact kt
    refine OwnG.st dj12 ?_
    have sg13 : ∀ tgt, Steps p.tables e below (s₁.setTop (mkF m 51 #[.val (.int z48_10), .val (.int z48_11)] [(.int (16 : Int32)), (.int z48_10)])) tgt → Steps p.tables e below (s₁.setTop (mkF m 48 #[.val (.int z48_10), .val (.int z48_11)] [])) tgt := by
      intro tgt kt
      refine XS.iloadN X0.here hx rfl (hb hby d6_48) rfl ?_
      show Steps p.tables e below (s₁.setTop (mkF m 49 #[.val (.int z48_10), .val (.int z48_11)] [(.int z48_10)])) _
      refine XS.bipush X0.here hx rfl (hb hby d6_49) ?_
      show Steps p.tables e below (s₁.setTop (mkF m 51 #[.val (.int z48_10), .val (.int z48_11)] [(.int (16 : Int32)), (.int z48_10)])) _
      exact kt
    refine OwnG.st sg13 ?_
    obtain ⟨z61_15, hz61_15⟩ : ∃ w : Int32, w = (if z48_10 < (16 : Int32) then z48_10 else ((z48_10.toUInt32 >>> ((4 : Int32) &&& 31).toUInt32).toInt32)) := ⟨_, rfl⟩
    obtain ⟨z61_16, hz61_16⟩ : ∃ w : Int32, w = (if z48_10 < (16 : Int32) then z48_11 else (z48_11 + (-4 : Int32))) := ⟨_, rfl⟩
    have dj17 : ∀ tgt, Steps p.tables e below (s₁.setTop (mkF m 61 #[.val (.int z61_15), .val (.int z61_16)] [])) tgt → Steps p.tables e below (s₁.setTop (mkF m 51 #[.val (.int z48_10), .val (.int z48_11)] [(.int (16 : Int32)), (.int z48_10)])) tgt := by
      intro tgt kt
      by_cases hc51_14 : z48_10 < (16 : Int32)
      · have qz61_15 : z61_15 = z48_10 := by rw [hz61_15, if_pos hc51_14]
        have qz61_16 : z61_16 = z48_11 := by rw [hz61_16, if_pos hc51_14]
        rw [qz61_15, qz61_16] at kt
        refine XS.icmpYes X0.here hx rfl (pc0 := 51) (pc' := 61) rfl (hb hby d6_51) rfl (tlt hc51_14).1 (by decide) (by decide) ?_
        show Steps p.tables e below (s₁.setTop (mkF m 61 #[.val (.int z48_10), .val (.int z48_11)] [])) _
        exact kt
      · have qz61_15 : z61_15 = ((z48_10.toUInt32 >>> ((4 : Int32) &&& 31).toUInt32).toInt32) := by rw [hz61_15, if_neg hc51_14]
        have qz61_16 : z61_16 = (z48_11 + (-4 : Int32)) := by rw [hz61_16, if_neg hc51_14]
        rw [qz61_15, qz61_16] at kt
        refine XS.icmpNo X0.here hx rfl (hb hby d6_51) rfl (flt hc51_14).1 ?_
        show Steps p.tables e below (s₁.setTop (mkF m 54 #[.val (.int z48_10), .val (.int z48_11)] [])) _
        refine XS.iinc X0.here hx rfl (hb hby d6_54) rfl (l' := #[.val (.int z48_10), .val (.int (z48_11 + (-4 : Int32)))]) rfl ?_
        show Steps p.tables e below (s₁.setTop (mkF m 57 #[.val (.int z48_10), .val (.int (z48_11 + (-4 : Int32)))] [])) _
        refine XS.iloadN X0.here hx rfl (hb hby d6_57) rfl ?_
        show Steps p.tables e below (s₁.setTop (mkF m 58 #[.val (.int z48_10), .val (.int (z48_11 + (-4 : Int32)))] [(.int z48_10)])) _
        refine XS.iconst X0.here hx rfl (hb hby d6_58) ?_
        show Steps p.tables e below (s₁.setTop (mkF m 59 #[.val (.int z48_10), .val (.int (z48_11 + (-4 : Int32)))] [(.int (4 : Int32)), (.int z48_10)])) _
        refine XS.iushr X0.here hx rfl (hb hby d6_59) rfl ?_
        show Steps p.tables e below (s₁.setTop (mkF m 60 #[.val (.int z48_10), .val (.int (z48_11 + (-4 : Int32)))] [(.int ((z48_10.toUInt32 >>> ((4 : Int32) &&& 31).toUInt32).toInt32))])) _
        refine XS.istoreN X0.here hx rfl (hb hby d6_60) rfl (l' := #[.val (.int ((z48_10.toUInt32 >>> ((4 : Int32) &&& 31).toUInt32).toInt32)), .val (.int (z48_11 + (-4 : Int32)))]) rfl ?_
        show Steps p.tables e below (s₁.setTop (mkF m 61 #[.val (.int ((z48_10.toUInt32 >>> ((4 : Int32) &&& 31).toUInt32).toInt32)), .val (.int (z48_11 + (-4 : Int32)))] [])) _
        exact kt
    refine OwnG.st dj17 ?_
    have sg18 : ∀ tgt, Steps p.tables e below (s₁.setTop (mkF m 63 #[.val (.int z61_15), .val (.int z61_16)] [(.int (4 : Int32)), (.int z61_15)])) tgt → Steps p.tables e below (s₁.setTop (mkF m 61 #[.val (.int z61_15), .val (.int z61_16)] [])) tgt := by
      intro tgt kt
      refine XS.iloadN X0.here hx rfl (hb hby d6_61) rfl ?_
      show Steps p.tables e below (s₁.setTop (mkF m 62 #[.val (.int z61_15), .val (.int z61_16)] [(.int z61_15)])) _
      refine XS.iconst X0.here hx rfl (hb hby d6_62) ?_
      show Steps p.tables e below (s₁.setTop (mkF m 63 #[.val (.int z61_15), .val (.int z61_16)] [(.int (4 : Int32)), (.int z61_15)])) _
      exact kt
    refine OwnG.st sg18 ?_
    obtain ⟨z73_20, hz73_20⟩ : ∃ w : Int32, w = (if z61_15 < (4 : Int32) then z61_15 else ((z61_15.toUInt32 >>> ((2 : Int32) &&& 31).toUInt32).toInt32)) := ⟨_, rfl⟩
    obtain ⟨z73_21, hz73_21⟩ : ∃ w : Int32, w = (if z61_15 < (4 : Int32) then z61_16 else (z61_16 + (-2 : Int32))) := ⟨_, rfl⟩
    have dj22 : ∀ tgt, Steps p.tables e below (s₁.setTop (mkF m 73 #[.val (.int z73_20), .val (.int z73_21)] [])) tgt → Steps p.tables e below (s₁.setTop (mkF m 63 #[.val (.int z61_15), .val (.int z61_16)] [(.int (4 : Int32)), (.int z61_15)])) tgt := by
      intro tgt kt
      by_cases hc63_19 : z61_15 < (4 : Int32)
      · have qz73_20 : z73_20 = z61_15 := by rw [hz73_20, if_pos hc63_19]
        have qz73_21 : z73_21 = z61_16 := by rw [hz73_21, if_pos hc63_19]
        rw [qz73_20, qz73_21] at kt
        refine XS.icmpYes X0.here hx rfl (pc0 := 63) (pc' := 73) rfl (hb hby d6_63) rfl (tlt hc63_19).1 (by decide) (by decide) ?_
        show Steps p.tables e below (s₁.setTop (mkF m 73 #[.val (.int z61_15), .val (.int z61_16)] [])) _
        exact kt
      · have qz73_20 : z73_20 = ((z61_15.toUInt32 >>> ((2 : Int32) &&& 31).toUInt32).toInt32) := by rw [hz73_20, if_neg hc63_19]
        have qz73_21 : z73_21 = (z61_16 + (-2 : Int32)) := by rw [hz73_21, if_neg hc63_19]
        rw [qz73_20, qz73_21] at kt
        refine XS.icmpNo X0.here hx rfl (hb hby d6_63) rfl (flt hc63_19).1 ?_
        show Steps p.tables e below (s₁.setTop (mkF m 66 #[.val (.int z61_15), .val (.int z61_16)] [])) _
        refine XS.iinc X0.here hx rfl (hb hby d6_66) rfl (l' := #[.val (.int z61_15), .val (.int (z61_16 + (-2 : Int32)))]) rfl ?_
        show Steps p.tables e below (s₁.setTop (mkF m 69 #[.val (.int z61_15), .val (.int (z61_16 + (-2 : Int32)))] [])) _
        refine XS.iloadN X0.here hx rfl (hb hby d6_69) rfl ?_
        show Steps p.tables e below (s₁.setTop (mkF m 70 #[.val (.int z61_15), .val (.int (z61_16 + (-2 : Int32)))] [(.int z61_15)])) _
        refine XS.iconst X0.here hx rfl (hb hby d6_70) ?_
        show Steps p.tables e below (s₁.setTop (mkF m 71 #[.val (.int z61_15), .val (.int (z61_16 + (-2 : Int32)))] [(.int (2 : Int32)), (.int z61_15)])) _
        refine XS.iushr X0.here hx rfl (hb hby d6_71) rfl ?_
        show Steps p.tables e below (s₁.setTop (mkF m 72 #[.val (.int z61_15), .val (.int (z61_16 + (-2 : Int32)))] [(.int ((z61_15.toUInt32 >>> ((2 : Int32) &&& 31).toUInt32).toInt32))])) _
        refine XS.istoreN X0.here hx rfl (hb hby d6_72) rfl (l' := #[.val (.int ((z61_15.toUInt32 >>> ((2 : Int32) &&& 31).toUInt32).toInt32)), .val (.int (z61_16 + (-2 : Int32)))]) rfl ?_
        show Steps p.tables e below (s₁.setTop (mkF m 73 #[.val (.int ((z61_15.toUInt32 >>> ((2 : Int32) &&& 31).toUInt32).toInt32)), .val (.int (z61_16 + (-2 : Int32)))] [])) _
        exact kt
    refine OwnG.st dj22 ?_
    have sg23 : ∀ tgt, Steps p.tables e below (s₁.setTop (mkF m 78 #[.val (.int z73_20), .val (.int z73_21)] [(.int (z73_21 - ((z73_20.toUInt32 >>> ((1 : Int32) &&& 31).toUInt32).toInt32)))])) tgt → Steps p.tables e below (s₁.setTop (mkF m 73 #[.val (.int z73_20), .val (.int z73_21)] [])) tgt := by
      intro tgt kt
      refine XS.iloadN X0.here hx rfl (hb hby d6_73) rfl ?_
      show Steps p.tables e below (s₁.setTop (mkF m 74 #[.val (.int z73_20), .val (.int z73_21)] [(.int z73_21)])) _
      refine XS.iloadN X0.here hx rfl (hb hby d6_74) rfl ?_
      show Steps p.tables e below (s₁.setTop (mkF m 75 #[.val (.int z73_20), .val (.int z73_21)] [(.int z73_20), (.int z73_21)])) _
      refine XS.iconst X0.here hx rfl (hb hby d6_75) ?_
      show Steps p.tables e below (s₁.setTop (mkF m 76 #[.val (.int z73_20), .val (.int z73_21)] [(.int (1 : Int32)), (.int z73_20), (.int z73_21)])) _
      refine XS.iushr X0.here hx rfl (hb hby d6_76) rfl ?_
      show Steps p.tables e below (s₁.setTop (mkF m 77 #[.val (.int z73_20), .val (.int z73_21)] [(.int ((z73_20.toUInt32 >>> ((1 : Int32) &&& 31).toUInt32).toInt32)), (.int z73_21)])) _
      refine XS.isub X0.here hx rfl (hb hby d6_77) rfl ?_
      show Steps p.tables e below (s₁.setTop (mkF m 78 #[.val (.int z73_20), .val (.int z73_21)] [(.int (z73_21 - ((z73_20.toUInt32 >>> ((1 : Int32) &&& 31).toUInt32).toInt32)))])) _
      exact kt
    refine OwnG.st sg23 ?_
    have hv : (z73_21 - ((z73_20.toUInt32 >>> ((1 : Int32) &&& 31).toUInt32).toInt32)) = F6 p1 := by have j0 : z33_5 = J6_33_0 p1 := hz33_5; subst j0; have j1 : z33_6 = J6_33_1 p1 := hz33_6; subst j1; have j2 : z48_10 = J6_48_2 p1 := hz48_10; subst j2; have j3 : z48_11 = J6_48_3 p1 := hz48_11; subst j3; have j4 : z61_15 = J6_61_4 p1 := hz61_15; subst j4; have j5 : z61_16 = J6_61_5 p1 := hz61_16; subst j5; have j6 : z73_20 = J6_73_6 p1 := hz73_20; subst j6; have j7 : z73_21 = J6_73_7 p1 := hz73_21; subst j7; simp only [F6, if_pos hc1_2]
    exact OwnG.retI X0 hx Bd.returns (BodyLoose.notSynchronized Bd) (hb hby d6_78) ⟨congrArg (fun w => some (Value.int w)) hv, N0, e0⟩ (by decide) (by decide)
  · have sg24 : ∀ tgt, Steps p.tables e below (s₁.setTop (mkF m 5 #[.val (.int p1), .unset] [(.int p1)])) tgt → Steps p.tables e below (s₁.setTop (mkF m 1 #[.val (.int p1), .unset] [(.int p1)])) tgt := by
      intro tgt kt
      refine XS.ifNo X0.here hx rfl (hb hby d6_1) rfl ((if0 _ _).trans (flt hc1_2).2.2.1) ?_
      show Steps p.tables e below (s₁.setTop (mkF m 4 #[.val (.int p1), .unset] [])) _
      refine XS.iloadN X0.here hx rfl (hb hby d6_4) rfl ?_
      show Steps p.tables e below (s₁.setTop (mkF m 5 #[.val (.int p1), .unset] [(.int p1)])) _
      exact kt
    refine OwnG.st sg24 ?_
    by_cases hc5_25 : p1 = (0 : Int32)
    · have sg26 : ∀ tgt, Steps p.tables e below (s₁.setTop (mkF m 14 #[.val (.int p1), .unset] [(.int (32 : Int32))])) tgt → Steps p.tables e below (s₁.setTop (mkF m 5 #[.val (.int p1), .unset] [(.int p1)])) tgt := by
        intro tgt kt
        refine XS.ifNo X0.here hx rfl (hb hby d6_5) rfl ((if0 _ _).trans (teq hc5_25).2) ?_
        show Steps p.tables e below (s₁.setTop (mkF m 8 #[.val (.int p1), .unset] [])) _
        refine XS.bipush X0.here hx rfl (hb hby d6_8) ?_
        show Steps p.tables e below (s₁.setTop (mkF m 10 #[.val (.int p1), .unset] [(.int (32 : Int32))])) _
        refine XS.goto X0.here hx rfl (pc0 := 10) (pc' := 14) rfl (hb hby d6_10) (by decide) (by decide) ?_
        show Steps p.tables e below (s₁.setTop (mkF m 14 #[.val (.int p1), .unset] [(.int (32 : Int32))])) _
        exact kt
      refine OwnG.st sg26 ?_
      have hv : (32 : Int32) = F6 p1 := by simp only [F6, if_neg hc1_2, if_pos hc5_25]
      exact OwnG.retI X0 hx Bd.returns (BodyLoose.notSynchronized Bd) (hb hby d6_14) ⟨congrArg (fun w => some (Value.int w)) hv, N0, e0⟩ (by decide) (by decide)
    · have sg27 : ∀ tgt, Steps p.tables e below (s₁.setTop (mkF m 14 #[.val (.int p1), .unset] [(.int (0 : Int32))])) tgt → Steps p.tables e below (s₁.setTop (mkF m 5 #[.val (.int p1), .unset] [(.int p1)])) tgt := by
        intro tgt kt
        refine XS.ifYes X0.here hx rfl (pc0 := 5) (pc' := 13) rfl (hb hby d6_5) rfl ((if0 _ _).trans (feq hc5_25).2) (by decide) (by decide) ?_
        show Steps p.tables e below (s₁.setTop (mkF m 13 #[.val (.int p1), .unset] [])) _
        refine XS.iconst X0.here hx rfl (hb hby d6_13) ?_
        show Steps p.tables e below (s₁.setTop (mkF m 14 #[.val (.int p1), .unset] [(.int (0 : Int32))])) _
        exact kt
      refine OwnG.st sg27 ?_
      have hv : (0 : Int32) = F6 p1 := by simp only [F6, if_neg hc1_2, if_neg hc5_25]
      exact OwnG.retI X0 hx Bd.returns (BodyLoose.notSynchronized Bd) (hb hby d6_14) ⟨congrArg (fun w => some (Value.int w)) hv, N0, e0⟩ (by decide) (by decide)
def F4 (p1 : Int32) : Int32 := ((((p1 + (64 : Int32)) - (1 : Int32)).toUInt32 >>> ((6 : Int32) &&& 31).toUInt32).toInt32)
theorem d4_0 : decode prog_5_method_7_code 0 = .ok (.iload_n 0, 1) := by decide +kernel
theorem d4_1 : decode prog_5_method_7_code 1 = .ok (.bipush 64, 2) := by decide +kernel
theorem d4_3 : decode prog_5_method_7_code 3 = .ok (.iadd, 1) := by decide +kernel
theorem d4_4 : decode prog_5_method_7_code 4 = .ok (.iconst 1, 1) := by decide +kernel
theorem d4_5 : decode prog_5_method_7_code 5 = .ok (.isub, 1) := by decide +kernel
theorem d4_6 : decode prog_5_method_7_code 6 = .ok (.bipush 6, 2) := by decide +kernel
theorem d4_8 : decode prog_5_method_7_code 8 = .ok (.iushr, 1) := by decide +kernel
theorem d4_9 : decode prog_5_method_7_code 9 = .ok (.ireturn, 1) := by decide +kernel
theorem pn_4 : plainName "com/example/prefixd/prefixd/HighestInRange" = true := by first | (simp [plainName, overriddenIn]; done) | decide +kernel
theorem ef_4 (m : MethodId) (p1 : Int32) : entryFrame m #[(.int p1)] 1 = mkF m 0 #[.val (.int p1)] [] := by first | (simp [entryFrame, mkF, argsToLocals, Value.category]; done) | rfl
def Q4 (Z : State) (p1 : Int32) (h0 : Heap) (n0 : Nat) (v : Option Value) (h : Heap) (L : List Loc) : Prop := v = some (.int (F4 p1)) ∧ Fr n0 L ∧ h = h0
set_option maxRecDepth 65536 in
set_option maxHeartbeats 40000000 in
theorem rm4 (l : Launch) (Z : State) (a0 : Array Value) (hw : ∀ d ∈ tables_1, d.before a0 Z = true) (ws : List Jvm.Cond) (p1 : Int32)  (h0 : Heap) (n0 : Nat) (Z0 : n0 ≤ h0.size)  :
    MetFree l (⟨"com/example/prefixd/prefixd/HighestInRange", "blocksOf", "(I)I"⟩ : MethodName) (head1 (Jvm.Cond.code (⟨"com/example/prefixd/prefixd/HighestInRange", "blocksOf", "(I)I"⟩ : MethodName) prog_5_method_7_code 1 (some .int) :: ws) ({ frames := 0, cells := 0, slots := 0, locals := 0 } : Room)) (fun a U => a = #[(.int p1)] ∧ Z.Warmed39 U.vm ∧ U.heap = h0) (fun _ _ _ _ _ => True) (fun _ U o U' => ∃ v L, o = .returned v ∧ Q4 Z p1 h0 n0 v U'.heap L ∧ FrameEnd U o U' L ({ frames := 0, cells := 0, slots := 0, locals := 0 } : Room).cells ({ frames := 0, cells := 0, slots := 0, locals := 0 } : Room).slots) := by
  refine MetFree.of_bodySF (plainFor_of_name pn_4) hisR ?_
  intro p e s m args below meth c s₁ Bd hml0 hP hK
  obtain ⟨rfl, hZ, hh⟩ := hP
  have hx := Bd.exec
  have hby := Bd.bytes
  have hml : c.maxLocals = 1 := hml0
  have hown : s.vm.findClass "com/example/prefixd/prefixd/HighestInRange" = some m.cls := findClass_of_methodNamed Bd.named
  have hnm := (name_of_methodNamed Bd.named Bd.method).1
  have X0 : Stand p l e ({ frames := 0, cells := 0, slots := 0, locals := 0 } : Room) s m #[(.int p1)] below meth c s₁ [] 0 0 := Stand.of_body Bd
  have e0 : s₁.heap = h0 := by rw [← hh, Bd.state]; rfl
  have N0 := Fr.nil n0
  suffices hG : OwnG p e below s (Q4 Z p1 h0 n0) ({ frames := 0, cells := 0, slots := 0, locals := 0 } : Room).cells ({ frames := 0, cells := 0, slots := 0, locals := 0 } : Room).slots s₁ (mkF m 0 #[.val (.int p1)] []) by
    obtain ⟨s2, o2, g1, g2⟩ := hG
    exact ⟨s2, o2, castTop (ef_4 m p1) g1, g2⟩
  have sg1 : ∀ tgt, Steps p.tables e below (s₁.setTop (mkF m 9 #[.val (.int p1)] [(.int ((((p1 + (64 : Int32)) - (1 : Int32)).toUInt32 >>> ((6 : Int32) &&& 31).toUInt32).toInt32))])) tgt → Steps p.tables e below (s₁.setTop (mkF m 0 #[.val (.int p1)] [])) tgt := by
    intro tgt kt
    refine XS.iloadN X0.here hx rfl (hb hby d4_0) rfl ?_
    show Steps p.tables e below (s₁.setTop (mkF m 1 #[.val (.int p1)] [(.int p1)])) _
    refine XS.bipush X0.here hx rfl (hb hby d4_1) ?_
    show Steps p.tables e below (s₁.setTop (mkF m 3 #[.val (.int p1)] [(.int (64 : Int32)), (.int p1)])) _
    refine XS.iadd X0.here hx rfl (hb hby d4_3) rfl ?_
    show Steps p.tables e below (s₁.setTop (mkF m 4 #[.val (.int p1)] [(.int (p1 + (64 : Int32)))])) _
    refine XS.iconst X0.here hx rfl (hb hby d4_4) ?_
    show Steps p.tables e below (s₁.setTop (mkF m 5 #[.val (.int p1)] [(.int (1 : Int32)), (.int (p1 + (64 : Int32)))])) _
    refine XS.isub X0.here hx rfl (hb hby d4_5) rfl ?_
    show Steps p.tables e below (s₁.setTop (mkF m 6 #[.val (.int p1)] [(.int ((p1 + (64 : Int32)) - (1 : Int32)))])) _
    refine XS.bipush X0.here hx rfl (hb hby d4_6) ?_
    show Steps p.tables e below (s₁.setTop (mkF m 8 #[.val (.int p1)] [(.int (6 : Int32)), (.int ((p1 + (64 : Int32)) - (1 : Int32)))])) _
    refine XS.iushr X0.here hx rfl (hb hby d4_8) rfl ?_
    show Steps p.tables e below (s₁.setTop (mkF m 9 #[.val (.int p1)] [(.int ((((p1 + (64 : Int32)) - (1 : Int32)).toUInt32 >>> ((6 : Int32) &&& 31).toUInt32).toInt32))])) _
    exact kt
  refine OwnG.st sg1 ?_
  have hv : ((((p1 + (64 : Int32)) - (1 : Int32)).toUInt32 >>> ((6 : Int32) &&& 31).toUInt32).toInt32) = F4 p1 := by simp only [F4]
  exact OwnG.retI X0 hx Bd.returns (BodyLoose.notSynchronized Bd) (hb hby d4_9) ⟨congrArg (fun w => some (Value.int w)) hv, N0, e0⟩ (by decide) (by decide)
def F5 (p1 : Int32) : Int32 := (F2 (1 : Int32) ((32 : Int32) - (F6 p1)))
theorem d5_0 : decode prog_5_method_8_code 0 = .ok (.iconst 1, 1) := by decide +kernel
theorem d5_1 : decode prog_5_method_8_code 1 = .ok (.bipush 32, 2) := by decide +kernel
theorem d5_3 : decode prog_5_method_8_code 3 = .ok (.iload_n 0, 1) := by decide +kernel
theorem d5_4 : decode prog_5_method_8_code 4 = .ok (.invokestatic 51, 3) := by decide +kernel
theorem d5_7 : decode prog_5_method_8_code 7 = .ok (.isub, 1) := by decide +kernel
theorem d5_8 : decode prog_5_method_8_code 8 = .ok (.invokestatic 69, 3) := by decide +kernel
theorem d5_11 : decode prog_5_method_8_code 11 = .ok (.ireturn, 1) := by decide +kernel
theorem pn_5 : plainName "com/example/prefixd/prefixd/HighestInRange" = true := by first | (simp [plainName, overriddenIn]; done) | decide +kernel
theorem pd_5_0 : parseMethodDescriptor "(I)I" = some ⟨[.int], some .int⟩ := by decide +kernel
theorem pd_5_1 : parseMethodDescriptor "(II)I" = some ⟨[.int, .int], some .int⟩ := by decide +kernel
theorem ef_5 (m : MethodId) (p1 : Int32) : entryFrame m #[(.int p1)] 1 = mkF m 0 #[.val (.int p1)] [] := by first | (simp [entryFrame, mkF, argsToLocals, Value.category]; done) | rfl
def Q5 (Z : State) (p1 : Int32) (h0 : Heap) (n0 : Nat) (v : Option Value) (h : Heap) (L : List Loc) : Prop := v = some (.int (F5 p1)) ∧ Fr n0 L ∧ h = h0
set_option maxRecDepth 65536 in
set_option maxHeartbeats 40000000 in
theorem rm5 (l : Launch) (Z : State) (a0 : Array Value) (hw : ∀ d ∈ tables_1, d.before a0 Z = true) (ws : List Jvm.Cond) (p1 : Int32)  (h0 : Heap) (n0 : Nat) (Z0 : n0 ≤ h0.size)  :
    MetFree l (⟨"com/example/prefixd/prefixd/HighestInRange", "levelsOf", "(I)I"⟩ : MethodName) (head1 (Jvm.Cond.code (⟨"com/example/prefixd/prefixd/HighestInRange", "levelsOf", "(I)I"⟩ : MethodName) prog_5_method_8_code 1 (some .int) :: ws) ({ frames := 1, cells := 0, slots := 0, locals := 15 } : Room)) (fun a U => a = #[(.int p1)] ∧ Z.Warmed39 U.vm ∧ U.heap = h0) (fun _ _ _ _ _ => True) (fun _ U o U' => ∃ v L, o = .returned v ∧ Q5 Z p1 h0 n0 v U'.heap L ∧ FrameEnd U o U' L ({ frames := 1, cells := 0, slots := 0, locals := 15 } : Room).cells ({ frames := 1, cells := 0, slots := 0, locals := 15 } : Room).slots) := by
  refine MetFree.of_bodySF (plainFor_of_name pn_5) hisR ?_
  intro p e s m args below meth c s₁ Bd hml0 hP hK
  obtain ⟨rfl, hZ, hh⟩ := hP
  have hx := Bd.exec
  have hby := Bd.bytes
  have hml : c.maxLocals = 1 := hml0
  have hown : s.vm.findClass "com/example/prefixd/prefixd/HighestInRange" = some m.cls := findClass_of_methodNamed Bd.named
  have hnm := (name_of_methodNamed Bd.named Bd.method).1
  have X0 : Stand p l e ({ frames := 1, cells := 0, slots := 0, locals := 15 } : Room) s m #[(.int p1)] below meth c s₁ [] 0 0 := Stand.of_body Bd
  have e0 : s₁.heap = h0 := by rw [← hh, Bd.state]; rfl
  have N0 := Fr.nil n0
  suffices hG : OwnG p e below s (Q5 Z p1 h0 n0) ({ frames := 1, cells := 0, slots := 0, locals := 15 } : Room).cells ({ frames := 1, cells := 0, slots := 0, locals := 15 } : Room).slots s₁ (mkF m 0 #[.val (.int p1)] []) by
    obtain ⟨s2, o2, g1, g2⟩ := hG
    exact ⟨s2, o2, castTop (ef_5 m p1) g1, g2⟩
  have sg1 : ∀ tgt, Steps p.tables e below (s₁.setTop (mkF m 4 #[.val (.int p1)] [(.int p1), (.int (32 : Int32)), (.int (1 : Int32))])) tgt → Steps p.tables e below (s₁.setTop (mkF m 0 #[.val (.int p1)] [])) tgt := by
    intro tgt kt
    refine XS.iconst X0.here hx rfl (hb hby d5_0) ?_
    show Steps p.tables e below (s₁.setTop (mkF m 1 #[.val (.int p1)] [(.int (1 : Int32))])) _
    refine XS.bipush X0.here hx rfl (hb hby d5_1) ?_
    show Steps p.tables e below (s₁.setTop (mkF m 3 #[.val (.int p1)] [(.int (32 : Int32)), (.int (1 : Int32))])) _
    refine XS.iloadN X0.here hx rfl (hb hby d5_3) rfl ?_
    show Steps p.tables e below (s₁.setTop (mkF m 4 #[.val (.int p1)] [(.int p1), (.int (32 : Int32)), (.int (1 : Int32))])) _
    exact kt
  refine OwnG.st sg1 ?_
  obtain ⟨_, _, ⟨T2, L2, k2, n2⟩, -, X2, ⟨Lc2, hQ2, l2, y2, z2⟩, st2⟩ := Jvm.LawKit.callS X0 hx (y := (⟨"java/lang/Integer", "numberOfLeadingZeros", "(I)I"⟩ : MethodName)) hown (mvT hZ (hw _ (List.mem_of_getElem? (i := 24) rfl))) (mvT hZ (hw _ (List.mem_of_getElem? (i := 25) rfl))) (mvT hZ (hw _ (List.mem_of_getElem? (i := 26) rfl))) (mvT hZ (hw _ (List.mem_of_getElem? (i := 27) rfl))) (by decide) (backOf (W := 2) (rm6 l Z a0 hw [] p1  h0 n0 Z0 ) hZ (hw _ (List.mem_of_getElem? (i := 27) rfl)) (hw _ (List.mem_of_getElem? (i := 26) rfl)) (by decide) (by decide)) (g := (mkF m 4 #[.val (.int p1)] [(.int p1), (.int (32 : Int32)), (.int (1 : Int32))])) rfl (by rw [hml]; rfl) (argsL := [(.int p1)]) (rest := [(.int (32 : Int32)), (.int (1 : Int32))]) (lenOf pd_5_0 rfl) rfl (by show 2 * 0 + _ ≤ _; exact Nat.le_of_eq rfl) (hb hby d5_4) (fun _ _ => ⟨rfl, e0, (by decide : 0 + 0 ≤ _), (by decide : 0 + 0 ≤ _)⟩)
  dsimp only [Pt.U, Pt.locs, Pt.cells, Pt.slots] at X2 l2 y2 z2 st2 hQ2
  subst l2 y2 z2
  obtain ⟨rfl, N2q, e2⟩ := hQ2
  have N2 := Fr.app N0 N2q
  refine OwnG.st (fun t k => st2 t k) ?_
  show OwnG p e below s _ _ _ T2 (mkF m 7 #[.val (.int p1)] [(.int (F6 p1)), (.int (32 : Int32)), (.int (1 : Int32))])
  have sg3 : ∀ tgt, Steps p.tables e below (T2.setTop (mkF m 8 #[.val (.int p1)] [(.int ((32 : Int32) - (F6 p1))), (.int (1 : Int32))])) tgt → Steps p.tables e below (T2.setTop (mkF m 7 #[.val (.int p1)] [(.int (F6 p1)), (.int (32 : Int32)), (.int (1 : Int32))])) tgt := by
    intro tgt kt
    refine XS.isub X2.here hx rfl (hb hby d5_7) rfl ?_
    show Steps p.tables e below (T2.setTop (mkF m 8 #[.val (.int p1)] [(.int ((32 : Int32) - (F6 p1))), (.int (1 : Int32))])) _
    exact kt
  refine OwnG.st sg3 ?_
  obtain ⟨_, _, ⟨T4, L4, k4, n4⟩, -, X4, ⟨Lc4, hQ4, l4, y4, z4⟩, st4⟩ := Jvm.LawKit.callS X2 hx (y := (⟨"java/lang/Math", "max", "(II)I"⟩ : MethodName)) hown (mvT hZ (hw _ (List.mem_of_getElem? (i := 28) rfl))) (mvT hZ (hw _ (List.mem_of_getElem? (i := 9) rfl))) (mvT hZ (hw _ (List.mem_of_getElem? (i := 10) rfl))) (mvT hZ (hw _ (List.mem_of_getElem? (i := 11) rfl))) (by decide) (backOf (W := 0) (rm2 l Z a0 hw [] (1 : Int32) ((32 : Int32) - (F6 p1))  h0 n0 Z0 ) hZ (hw _ (List.mem_of_getElem? (i := 11) rfl)) (hw _ (List.mem_of_getElem? (i := 10) rfl)) (by decide) (by decide)) (g := (mkF m 8 #[.val (.int p1)] [(.int ((32 : Int32) - (F6 p1))), (.int (1 : Int32))])) rfl (by rw [hml]; rfl) (argsL := [(.int (1 : Int32)), (.int ((32 : Int32) - (F6 p1)))]) (rest := []) (lenOf pd_5_1 rfl) rfl (by show 2 * 0 + _ ≤ _; exact Nat.le_of_eq rfl) (hb hby d5_8) (fun _ _ => ⟨rfl, e2, (by decide : 0 + 0 ≤ _), (by decide : 0 + 0 ≤ _)⟩)
  dsimp only [Pt.U, Pt.locs, Pt.cells, Pt.slots] at X4 l4 y4 z4 st4 hQ4
  subst l4 y4 z4
  obtain ⟨rfl, N4q, e4⟩ := hQ4
  have N4 := Fr.app N2 N4q
  refine OwnG.st (fun t k => st4 t k) ?_
  show OwnG p e below s _ _ _ T4 (mkF m 11 #[.val (.int p1)] [(.int (F2 (1 : Int32) ((32 : Int32) - (F6 p1))))])
  have hv : (F2 (1 : Int32) ((32 : Int32) - (F6 p1))) = F5 p1 := by simp only [F5]
  exact OwnG.retI X4 hx Bd.returns (BodyLoose.notSynchronized Bd) (hb hby d5_11) ⟨congrArg (fun w => some (Value.int w)) hv, N4, e4⟩ (by decide) (by decide)
def F7 (p1 : Int32) (p2 : Int32) : Int32 := ((p1 - ((1 : Int32) <<< (p2 &&& 31))) + (1 : Int32))
theorem d7_0 : decode prog_5_method_9_code 0 = .ok (.iload_n 0, 1) := by decide +kernel
theorem d7_1 : decode prog_5_method_9_code 1 = .ok (.iconst 1, 1) := by decide +kernel
theorem d7_2 : decode prog_5_method_9_code 2 = .ok (.iload_n 1, 1) := by decide +kernel
theorem d7_3 : decode prog_5_method_9_code 3 = .ok (.ishl, 1) := by decide +kernel
theorem d7_4 : decode prog_5_method_9_code 4 = .ok (.isub, 1) := by decide +kernel
theorem d7_5 : decode prog_5_method_9_code 5 = .ok (.iconst 1, 1) := by decide +kernel
theorem d7_6 : decode prog_5_method_9_code 6 = .ok (.iadd, 1) := by decide +kernel
theorem d7_7 : decode prog_5_method_9_code 7 = .ok (.ireturn, 1) := by decide +kernel
theorem pn_7 : plainName "com/example/prefixd/prefixd/HighestInRange" = true := by first | (simp [plainName, overriddenIn]; done) | decide +kernel
theorem ef_7 (m : MethodId) (p1 : Int32) (p2 : Int32) : entryFrame m #[(.int p1), (.int p2)] 2 = mkF m 0 #[.val (.int p1), .val (.int p2)] [] := by first | (simp [entryFrame, mkF, argsToLocals, Value.category]; done) | rfl
def Q7 (Z : State) (p1 : Int32) (p2 : Int32) (h0 : Heap) (n0 : Nat) (v : Option Value) (h : Heap) (L : List Loc) : Prop := v = some (.int (F7 p1 p2)) ∧ Fr n0 L ∧ h = h0
set_option maxRecDepth 65536 in
set_option maxHeartbeats 40000000 in
theorem rm7 (l : Launch) (Z : State) (a0 : Array Value) (hw : ∀ d ∈ tables_1, d.before a0 Z = true) (ws : List Jvm.Cond) (p1 : Int32) (p2 : Int32)  (h0 : Heap) (n0 : Nat) (Z0 : n0 ≤ h0.size)  :
    MetFree l (⟨"com/example/prefixd/prefixd/HighestInRange", "levelLength", "(II)I"⟩ : MethodName) (head1 (Jvm.Cond.code (⟨"com/example/prefixd/prefixd/HighestInRange", "levelLength", "(II)I"⟩ : MethodName) prog_5_method_9_code 2 (some .int) :: ws) ({ frames := 0, cells := 0, slots := 0, locals := 0 } : Room)) (fun a U => a = #[(.int p1), (.int p2)] ∧ Z.Warmed39 U.vm ∧ U.heap = h0) (fun _ _ _ _ _ => True) (fun _ U o U' => ∃ v L, o = .returned v ∧ Q7 Z p1 p2 h0 n0 v U'.heap L ∧ FrameEnd U o U' L ({ frames := 0, cells := 0, slots := 0, locals := 0 } : Room).cells ({ frames := 0, cells := 0, slots := 0, locals := 0 } : Room).slots) := by
  refine MetFree.of_bodySF (plainFor_of_name pn_7) hisR ?_
  intro p e s m args below meth c s₁ Bd hml0 hP hK
  obtain ⟨rfl, hZ, hh⟩ := hP
  have hx := Bd.exec
  have hby := Bd.bytes
  have hml : c.maxLocals = 2 := hml0
  have hown : s.vm.findClass "com/example/prefixd/prefixd/HighestInRange" = some m.cls := findClass_of_methodNamed Bd.named
  have hnm := (name_of_methodNamed Bd.named Bd.method).1
  have X0 : Stand p l e ({ frames := 0, cells := 0, slots := 0, locals := 0 } : Room) s m #[(.int p1), (.int p2)] below meth c s₁ [] 0 0 := Stand.of_body Bd
  have e0 : s₁.heap = h0 := by rw [← hh, Bd.state]; rfl
  have N0 := Fr.nil n0
  suffices hG : OwnG p e below s (Q7 Z p1 p2 h0 n0) ({ frames := 0, cells := 0, slots := 0, locals := 0 } : Room).cells ({ frames := 0, cells := 0, slots := 0, locals := 0 } : Room).slots s₁ (mkF m 0 #[.val (.int p1), .val (.int p2)] []) by
    obtain ⟨s2, o2, g1, g2⟩ := hG
    exact ⟨s2, o2, castTop (ef_7 m p1 p2) g1, g2⟩
  have sg1 : ∀ tgt, Steps p.tables e below (s₁.setTop (mkF m 7 #[.val (.int p1), .val (.int p2)] [(.int ((p1 - ((1 : Int32) <<< (p2 &&& 31))) + (1 : Int32)))])) tgt → Steps p.tables e below (s₁.setTop (mkF m 0 #[.val (.int p1), .val (.int p2)] [])) tgt := by
    intro tgt kt
    refine XS.iloadN X0.here hx rfl (hb hby d7_0) rfl ?_
    show Steps p.tables e below (s₁.setTop (mkF m 1 #[.val (.int p1), .val (.int p2)] [(.int p1)])) _
    refine XS.iconst X0.here hx rfl (hb hby d7_1) ?_
    show Steps p.tables e below (s₁.setTop (mkF m 2 #[.val (.int p1), .val (.int p2)] [(.int (1 : Int32)), (.int p1)])) _
    refine XS.iloadN X0.here hx rfl (hb hby d7_2) rfl ?_
    show Steps p.tables e below (s₁.setTop (mkF m 3 #[.val (.int p1), .val (.int p2)] [(.int p2), (.int (1 : Int32)), (.int p1)])) _
    refine XS.ishl X0.here hx rfl (hb hby d7_3) rfl ?_
    show Steps p.tables e below (s₁.setTop (mkF m 4 #[.val (.int p1), .val (.int p2)] [(.int ((1 : Int32) <<< (p2 &&& 31))), (.int p1)])) _
    refine XS.isub X0.here hx rfl (hb hby d7_4) rfl ?_
    show Steps p.tables e below (s₁.setTop (mkF m 5 #[.val (.int p1), .val (.int p2)] [(.int (p1 - ((1 : Int32) <<< (p2 &&& 31))))])) _
    refine XS.iconst X0.here hx rfl (hb hby d7_5) ?_
    show Steps p.tables e below (s₁.setTop (mkF m 6 #[.val (.int p1), .val (.int p2)] [(.int (1 : Int32)), (.int (p1 - ((1 : Int32) <<< (p2 &&& 31))))])) _
    refine XS.iadd X0.here hx rfl (hb hby d7_6) rfl ?_
    show Steps p.tables e below (s₁.setTop (mkF m 7 #[.val (.int p1), .val (.int p2)] [(.int ((p1 - ((1 : Int32) <<< (p2 &&& 31))) + (1 : Int32)))])) _
    exact kt
  refine OwnG.st sg1 ?_
  have hv : ((p1 - ((1 : Int32) <<< (p2 &&& 31))) + (1 : Int32)) = F7 p1 p2 := by simp only [F7]
  exact OwnG.retI X0 hx Bd.returns (BodyLoose.notSynchronized Bd) (hb hby d7_7) ⟨congrArg (fun w => some (Value.int w)) hv, N0, e0⟩ (by decide) (by decide)
def F8 (p1 : Int32) : Int32 := (((((p1.toInt64) + (63 : Int64)).toUInt64 >>> ((6 : Int32) &&& 0x3f).toInt64.toUInt64).toInt64).toInt32)
theorem d8_0 : decode prog_5_method_5_code 0 = .ok (.iload_n 0, 1) := by decide +kernel
theorem d8_1 : decode prog_5_method_5_code 1 = .ok (.i2l, 1) := by decide +kernel
theorem d8_2 : decode prog_5_method_5_code 2 = .ok (.ldc2_w 60, 3) := by decide +kernel
theorem d8_5 : decode prog_5_method_5_code 5 = .ok (.ladd, 1) := by decide +kernel
theorem d8_6 : decode prog_5_method_5_code 6 = .ok (.bipush 6, 2) := by decide +kernel
theorem d8_8 : decode prog_5_method_5_code 8 = .ok (.lushr, 1) := by decide +kernel
theorem d8_9 : decode prog_5_method_5_code 9 = .ok (.l2i, 1) := by decide +kernel
theorem d8_10 : decode prog_5_method_5_code 10 = .ok (.ireturn, 1) := by decide +kernel
theorem pn_8 : plainName "com/example/prefixd/prefixd/HighestInRange" = true := by first | (simp [plainName, overriddenIn]; done) | decide +kernel
theorem ef_8 (m : MethodId) (p1 : Int32) : entryFrame m #[(.int p1)] 1 = mkF m 0 #[.val (.int p1)] [] := by first | (simp [entryFrame, mkF, argsToLocals, Value.category]; done) | rfl
def Q8 (Z : State) (p1 : Int32) (h0 : Heap) (n0 : Nat) (v : Option Value) (h : Heap) (L : List Loc) : Prop := v = some (.int (F8 p1)) ∧ Fr n0 L ∧ h = h0
set_option maxRecDepth 65536 in
set_option maxHeartbeats 40000000 in
theorem rm8 (l : Launch) (Z : State) (a0 : Array Value) (hw : ∀ d ∈ tables_1, d.before a0 Z = true) (ws : List Jvm.Cond) (p1 : Int32)  (h0 : Heap) (n0 : Nat) (Z0 : n0 ≤ h0.size)  :
    MetFree l (⟨"com/example/prefixd/prefixd/HighestInRange", "leftOutWords", "(I)I"⟩ : MethodName) (head1 (Jvm.Cond.code (⟨"com/example/prefixd/prefixd/HighestInRange", "leftOutWords", "(I)I"⟩ : MethodName) prog_5_method_5_code 1 (some .int) :: ws) ({ frames := 0, cells := 0, slots := 0, locals := 0 } : Room)) (fun a U => a = #[(.int p1)] ∧ Z.Warmed39 U.vm ∧ U.heap = h0) (fun _ _ _ _ _ => True) (fun _ U o U' => ∃ v L, o = .returned v ∧ Q8 Z p1 h0 n0 v U'.heap L ∧ FrameEnd U o U' L ({ frames := 0, cells := 0, slots := 0, locals := 0 } : Room).cells ({ frames := 0, cells := 0, slots := 0, locals := 0 } : Room).slots) := by
  refine MetFree.of_bodySF (plainFor_of_name pn_8) hisR ?_
  intro p e s m args below meth c s₁ Bd hml0 hP hK
  obtain ⟨rfl, hZ, hh⟩ := hP
  have hx := Bd.exec
  have hby := Bd.bytes
  have hml : c.maxLocals = 1 := hml0
  have hown : s.vm.findClass "com/example/prefixd/prefixd/HighestInRange" = some m.cls := findClass_of_methodNamed Bd.named
  have hnm := (name_of_methodNamed Bd.named Bd.method).1
  have X0 : Stand p l e ({ frames := 0, cells := 0, slots := 0, locals := 0 } : Room) s m #[(.int p1)] below meth c s₁ [] 0 0 := Stand.of_body Bd
  have e0 : s₁.heap = h0 := by rw [← hh, Bd.state]; rfl
  have N0 := Fr.nil n0
  suffices hG : OwnG p e below s (Q8 Z p1 h0 n0) ({ frames := 0, cells := 0, slots := 0, locals := 0 } : Room).cells ({ frames := 0, cells := 0, slots := 0, locals := 0 } : Room).slots s₁ (mkF m 0 #[.val (.int p1)] []) by
    obtain ⟨s2, o2, g1, g2⟩ := hG
    exact ⟨s2, o2, castTop (ef_8 m p1) g1, g2⟩
  have sg1 : ∀ tgt, Steps p.tables e below (s₁.setTop (mkF m 10 #[.val (.int p1)] [(.int (((((p1.toInt64) + (63 : Int64)).toUInt64 >>> ((6 : Int32) &&& 0x3f).toInt64.toUInt64).toInt64).toInt32))])) tgt → Steps p.tables e below (s₁.setTop (mkF m 0 #[.val (.int p1)] [])) tgt := by
    intro tgt kt
    refine XS.iloadN X0.here hx rfl (hb hby d8_0) rfl ?_
    show Steps p.tables e below (s₁.setTop (mkF m 1 #[.val (.int p1)] [(.int p1)])) _
    refine XS.i2l X0.here hx rfl (hb hby d8_1) rfl ?_
    show Steps p.tables e below (s₁.setTop (mkF m 2 #[.val (.int p1)] [(.long (p1.toInt64))])) _
    refine X0.ldc2Long hx hown (mvT hZ (hw _ (List.mem_of_getElem? (i := 37) rfl))) (g := (mkF m 2 #[.val (.int p1)] [(.long (p1.toInt64))])) rfl (hb hby d8_2) _ ?_
    show Steps p.tables e below (s₁.setTop (mkF m 5 #[.val (.int p1)] [(.long (63 : Int64)), (.long (p1.toInt64))])) _
    refine XS.ladd X0.here hx rfl (hb hby d8_5) rfl ?_
    show Steps p.tables e below (s₁.setTop (mkF m 6 #[.val (.int p1)] [(.long ((p1.toInt64) + (63 : Int64)))])) _
    refine XS.bipush X0.here hx rfl (hb hby d8_6) ?_
    show Steps p.tables e below (s₁.setTop (mkF m 8 #[.val (.int p1)] [(.int (6 : Int32)), (.long ((p1.toInt64) + (63 : Int64)))])) _
    refine XS.lushr X0.here hx rfl (hb hby d8_8) rfl ?_
    show Steps p.tables e below (s₁.setTop (mkF m 9 #[.val (.int p1)] [(.long ((((p1.toInt64) + (63 : Int64)).toUInt64 >>> ((6 : Int32) &&& 0x3f).toInt64.toUInt64).toInt64))])) _
    refine XS.l2i X0.here hx rfl (hb hby d8_9) rfl ?_
    show Steps p.tables e below (s₁.setTop (mkF m 10 #[.val (.int p1)] [(.int (((((p1.toInt64) + (63 : Int64)).toUInt64 >>> ((6 : Int32) &&& 0x3f).toInt64.toUInt64).toInt64).toInt32))])) _
    exact kt
  refine OwnG.st sg1 ?_
  have hv : (((((p1.toInt64) + (63 : Int64)).toUInt64 >>> ((6 : Int32) &&& 0x3f).toInt64.toUInt64).toInt64).toInt32) = F8 p1 := by simp only [F8]
  exact OwnG.retI X0 hx Bd.returns (BodyLoose.notSynchronized Bd) (hb hby d8_10) ⟨congrArg (fun w => some (Value.int w)) hv, N0, e0⟩ (by decide) (by decide)
def own_tab (b : Int64) (n : Int32) : Nat → Int64
  | 0 => b
  | l + 1 => own_tab b n l + ((8 : Int64) + ((4 : Int64) * ((F7 n (Int32.ofNat l)).toInt64)))
theorem own_ts (b : Int64) (n : Int32) (l : Nat) : own_tab b n (l + 1) = own_tab b n l + ((8 : Int64) + ((4 : Int64) * ((F7 n (Int32.ofNat l)).toInt64))) := rfl
def F3 (p1 p2 : Int32) : Int64 := own_tab (if p2 = (0 : Int32) then (0 : Int64) else ((8 : Int64) * ((F8 p1).toInt64))) (F4 p1) (F5 (F4 p1)).toInt.toNat
theorem own_l1 (n : Int32) : 1 ≤ (F5 n).toInt := by
  unfold F5 F2
  have e : (1 : Int32).toInt = 1 := rfl
  by_cases c : (1 : Int32) < ((32 : Int32) - (F6 n))
  · rw [if_pos c]; rw [Int32.lt_iff_toInt_lt] at c; omega
  · rw [if_neg c]; decide
theorem own_i1 (i m : Int32) (h0 : 0 ≤ i.toInt) (h1 : i < m) : (i + 1).toInt = i.toInt + 1 ∧ (i + 1).toInt.toNat = i.toInt.toNat + 1 := by
  have h := c_iadd i 1
  have r := rng32 (i + 1)
  have r2 := rng32 m
  have e : (1 : Int32).toInt = 1 := rfl
  rw [Int32.lt_iff_toInt_lt] at h1
  omega
theorem d3_0 : decode prog_5_method_6_code 0 = .ok (.iload_n 0, 1) := by decide +kernel
theorem d3_1 : decode prog_5_method_6_code 1 = .ok (.invokestatic 23, 3) := by decide +kernel
theorem d3_4 : decode prog_5_method_6_code 4 = .ok (.istore_n 2, 1) := by decide +kernel
theorem d3_5 : decode prog_5_method_6_code 5 = .ok (.iload_n 1, 1) := by decide +kernel
theorem d3_6 : decode prog_5_method_6_code 6 = .ok (.ifCond .eq 15, 3) := by decide +kernel
theorem d3_9 : decode prog_5_method_6_code 9 = .ok (.ldc2_w 62, 3) := by decide +kernel
theorem d3_12 : decode prog_5_method_6_code 12 = .ok (.iload_n 0, 1) := by decide +kernel
theorem d3_13 : decode prog_5_method_6_code 13 = .ok (.invokestatic 64, 3) := by decide +kernel
theorem d3_16 : decode prog_5_method_6_code 16 = .ok (.i2l, 1) := by decide +kernel
theorem d3_17 : decode prog_5_method_6_code 17 = .ok (.lmul, 1) := by decide +kernel
theorem d3_18 : decode prog_5_method_6_code 18 = .ok (.goto 4, 3) := by decide +kernel
theorem d3_21 : decode prog_5_method_6_code 21 = .ok (.lconst 0, 1) := by decide +kernel
theorem d3_22 : decode prog_5_method_6_code 22 = .ok (.lstore_n 3, 1) := by decide +kernel
theorem d3_23 : decode prog_5_method_6_code 23 = .ok (.iconst 0, 1) := by decide +kernel
theorem d3_24 : decode prog_5_method_6_code 24 = .ok (.istore 5, 2) := by decide +kernel
theorem d3_26 : decode prog_5_method_6_code 26 = .ok (.iload 5, 2) := by decide +kernel
theorem d3_28 : decode prog_5_method_6_code 28 = .ok (.iload_n 2, 1) := by decide +kernel
theorem d3_29 : decode prog_5_method_6_code 29 = .ok (.invokestatic 27, 3) := by decide +kernel
theorem d3_32 : decode prog_5_method_6_code 32 = .ok (.if_icmp .ge 27, 3) := by decide +kernel
theorem d3_35 : decode prog_5_method_6_code 35 = .ok (.lload_n 3, 1) := by decide +kernel
theorem d3_36 : decode prog_5_method_6_code 36 = .ok (.ldc2_w 62, 3) := by decide +kernel
theorem d3_39 : decode prog_5_method_6_code 39 = .ok (.ldc2_w 67, 3) := by decide +kernel
theorem d3_42 : decode prog_5_method_6_code 42 = .ok (.iload_n 2, 1) := by decide +kernel
theorem d3_43 : decode prog_5_method_6_code 43 = .ok (.iload 5, 2) := by decide +kernel
theorem d3_45 : decode prog_5_method_6_code 45 = .ok (.invokestatic 45, 3) := by decide +kernel
theorem d3_48 : decode prog_5_method_6_code 48 = .ok (.i2l, 1) := by decide +kernel
theorem d3_49 : decode prog_5_method_6_code 49 = .ok (.lmul, 1) := by decide +kernel
theorem d3_50 : decode prog_5_method_6_code 50 = .ok (.ladd, 1) := by decide +kernel
theorem d3_51 : decode prog_5_method_6_code 51 = .ok (.ladd, 1) := by decide +kernel
theorem d3_52 : decode prog_5_method_6_code 52 = .ok (.lstore_n 3, 1) := by decide +kernel
theorem d3_53 : decode prog_5_method_6_code 53 = .ok (.iinc 5 1, 3) := by decide +kernel
theorem d3_56 : decode prog_5_method_6_code 56 = .ok (.goto (-30), 3) := by decide +kernel
theorem d3_59 : decode prog_5_method_6_code 59 = .ok (.lload_n 3, 1) := by decide +kernel
theorem d3_60 : decode prog_5_method_6_code 60 = .ok (.lreturn, 1) := by decide +kernel
theorem pn_3 : plainName "com/example/prefixd/prefixd/HighestInRange" = true := by first | (simp [plainName, overriddenIn]; done) | decide +kernel
theorem pd_3_0 : parseMethodDescriptor "(I)I" = some ⟨[.int], some .int⟩ := by decide +kernel
theorem pd_3_1 : parseMethodDescriptor "(II)I" = some ⟨[.int, .int], some .int⟩ := by decide +kernel
theorem ef_3 (m : MethodId) (p1 : Int32) (p2 : Int32) : entryFrame m #[(.int p1), (.int p2)] 6 = mkF m 0 #[.val (.int p1), .val (.int p2), .unset, .unset, .unset, .unset] [] := by first | (simp [entryFrame, mkF, argsToLocals, Value.category]; done) | rfl
def Q3 (Z : State) (p1 : Int32) (p2 : Int32) (h0 : Heap) (n0 : Nat) (v : Option Value) (h : Heap) (L : List Loc) : Prop := v = some (.long (F3 p1 p2)) ∧ Fr n0 L ∧ h = h0
set_option maxRecDepth 65536 in
set_option maxHeartbeats 40000000 in
theorem rm3 (l : Launch) (Z : State) (a0 : Array Value) (hw : ∀ d ∈ tables_1, d.before a0 Z = true) (ws : List Jvm.Cond) (p1 : Int32) (p2 : Int32)  (h0 : Heap) (n0 : Nat) (Z0 : n0 ≤ h0.size)  :
    MetFree l (⟨"com/example/prefixd/prefixd/HighestInRange", "tableBytes", "(IZ)J"⟩ : MethodName) (head1 (Jvm.Cond.code (⟨"com/example/prefixd/prefixd/HighestInRange", "tableBytes", "(IZ)J"⟩ : MethodName) prog_5_method_6_code 6 (some .long) :: ws) ({ frames := 2, cells := 0, slots := 0, locals := 28 } : Room)) (fun a U => a = #[(.int p1), (.int p2)] ∧ Z.Warmed39 U.vm ∧ U.heap = h0) (fun _ _ _ _ _ => True) (fun _ U o U' => ∃ v L, o = .returned v ∧ Q3 Z p1 p2 h0 n0 v U'.heap L ∧ FrameEnd U o U' L ({ frames := 2, cells := 0, slots := 0, locals := 28 } : Room).cells ({ frames := 2, cells := 0, slots := 0, locals := 28 } : Room).slots) := by
  refine MetFree.of_bodySF (plainFor_of_name pn_3) hisR ?_
  intro p e s m args below meth c s₁ Bd hml0 hP hK
  obtain ⟨rfl, hZ, hh⟩ := hP
  have hx := Bd.exec
  have hby := Bd.bytes
  have hml : c.maxLocals = 6 := hml0
  have hown : s.vm.findClass "com/example/prefixd/prefixd/HighestInRange" = some m.cls := findClass_of_methodNamed Bd.named
  have hnm := (name_of_methodNamed Bd.named Bd.method).1
  have X0 : Stand p l e ({ frames := 2, cells := 0, slots := 0, locals := 28 } : Room) s m #[(.int p1), (.int p2)] below meth c s₁ [] 0 0 := Stand.of_body Bd
  have e0 : s₁.heap = h0 := by rw [← hh, Bd.state]; rfl
  have N0 := Fr.nil n0
  suffices hG : OwnG p e below s (Q3 Z p1 p2 h0 n0) ({ frames := 2, cells := 0, slots := 0, locals := 28 } : Room).cells ({ frames := 2, cells := 0, slots := 0, locals := 28 } : Room).slots s₁ (mkF m 0 #[.val (.int p1), .val (.int p2), .unset, .unset, .unset, .unset] []) by
    obtain ⟨s2, o2, g1, g2⟩ := hG
    exact ⟨s2, o2, castTop (ef_3 m p1 p2) g1, g2⟩
  have sg1 : ∀ tgt, Steps p.tables e below (s₁.setTop (mkF m 1 #[.val (.int p1), .val (.int p2), .unset, .unset, .unset, .unset] [(.int p1)])) tgt → Steps p.tables e below (s₁.setTop (mkF m 0 #[.val (.int p1), .val (.int p2), .unset, .unset, .unset, .unset] [])) tgt := by
    intro tgt kt
    refine XS.iloadN X0.here hx rfl (hb hby d3_0) rfl ?_
    show Steps p.tables e below (s₁.setTop (mkF m 1 #[.val (.int p1), .val (.int p2), .unset, .unset, .unset, .unset] [(.int p1)])) _
    exact kt
  refine OwnG.st sg1 ?_
  obtain ⟨_, _, ⟨T2, L2, k2, n2⟩, -, X2, ⟨Lc2, hQ2, l2, y2, z2⟩, st2⟩ := Jvm.LawKit.callS X0 hx (y := (⟨"com/example/prefixd/prefixd/HighestInRange", "blocksOf", "(I)I"⟩ : MethodName)) hown (mvT hZ (hw _ (List.mem_of_getElem? (i := 18) rfl))) (mvT hZ (hw _ (List.mem_of_getElem? (i := 19) rfl))) (mvT hZ (hw _ (List.mem_of_getElem? (i := 16) rfl))) (mvT hZ (hw _ (List.mem_of_getElem? (i := 20) rfl))) (by decide) (backOf (W := 0) (rm4 l Z a0 hw [] p1  h0 n0 Z0 ) hZ (hw _ (List.mem_of_getElem? (i := 20) rfl)) (hw _ (List.mem_of_getElem? (i := 16) rfl)) (by decide) (by decide)) (g := (mkF m 1 #[.val (.int p1), .val (.int p2), .unset, .unset, .unset, .unset] [(.int p1)])) rfl (by rw [hml]; rfl) (argsL := [(.int p1)]) (rest := []) (lenOf pd_3_0 rfl) rfl (by show 2 * 0 + _ ≤ _; exact Nat.le_of_eq rfl) (hb hby d3_1) (fun _ _ => ⟨rfl, e0, (by decide : 0 + 0 ≤ _), (by decide : 0 + 0 ≤ _)⟩)
  dsimp only [Pt.U, Pt.locs, Pt.cells, Pt.slots] at X2 l2 y2 z2 st2 hQ2
  subst l2 y2 z2
  obtain ⟨rfl, N2q, e2⟩ := hQ2
  have N2 := Fr.app N0 N2q
  refine OwnG.st (fun t k => st2 t k) ?_
  show OwnG p e below s _ _ _ T2 (mkF m 4 #[.val (.int p1), .val (.int p2), .unset, .unset, .unset, .unset] [(.int (F4 p1))])
  have sg3 : ∀ tgt, Steps p.tables e below (T2.setTop (mkF m 6 #[.val (.int p1), .val (.int p2), .val (.int (F4 p1)), .unset, .unset, .unset] [(.int p2)])) tgt → Steps p.tables e below (T2.setTop (mkF m 4 #[.val (.int p1), .val (.int p2), .unset, .unset, .unset, .unset] [(.int (F4 p1))])) tgt := by
    intro tgt kt
    refine XS.istoreN X2.here hx rfl (hb hby d3_4) rfl (l' := #[.val (.int p1), .val (.int p2), .val (.int (F4 p1)), .unset, .unset, .unset]) rfl ?_
    show Steps p.tables e below (T2.setTop (mkF m 5 #[.val (.int p1), .val (.int p2), .val (.int (F4 p1)), .unset, .unset, .unset] [])) _
    refine XS.iloadN X2.here hx rfl (hb hby d3_5) rfl ?_
    show Steps p.tables e below (T2.setTop (mkF m 6 #[.val (.int p1), .val (.int p2), .val (.int (F4 p1)), .unset, .unset, .unset] [(.int p2)])) _
    exact kt
  refine OwnG.st sg3 ?_
  by_cases hc6_4 : p2 = (0 : Int32)
  · have sg5 : ∀ tgt, Steps p.tables e below (T2.setTop (mkF m 26 #[.val (.int p1), .val (.int p2), .val (.int (F4 p1)), .val (.long (0 : Int64)), .second, .val (.int (0 : Int32))] [])) tgt → Steps p.tables e below (T2.setTop (mkF m 6 #[.val (.int p1), .val (.int p2), .val (.int (F4 p1)), .unset, .unset, .unset] [(.int p2)])) tgt := by
      intro tgt kt
      refine XS.ifYes X2.here hx rfl (pc0 := 6) (pc' := 21) rfl (hb hby d3_6) rfl ((if0 _ _).trans (teq hc6_4).1) (by decide) (by decide) ?_
      show Steps p.tables e below (T2.setTop (mkF m 21 #[.val (.int p1), .val (.int p2), .val (.int (F4 p1)), .unset, .unset, .unset] [])) _
      refine XS.lconst X2.here hx rfl (hb hby d3_21) ?_
      show Steps p.tables e below (T2.setTop (mkF m 22 #[.val (.int p1), .val (.int p2), .val (.int (F4 p1)), .unset, .unset, .unset] [(.long (0 : Int64))])) _
      refine XS.lstoreN X2.here hx rfl (hb hby d3_22) rfl (l' := #[.val (.int p1), .val (.int p2), .val (.int (F4 p1)), .val (.long (0 : Int64)), .second, .unset]) rfl ?_
      show Steps p.tables e below (T2.setTop (mkF m 23 #[.val (.int p1), .val (.int p2), .val (.int (F4 p1)), .val (.long (0 : Int64)), .second, .unset] [])) _
      refine XS.iconst X2.here hx rfl (hb hby d3_23) ?_
      show Steps p.tables e below (T2.setTop (mkF m 24 #[.val (.int p1), .val (.int p2), .val (.int (F4 p1)), .val (.long (0 : Int64)), .second, .unset] [(.int (0 : Int32))])) _
      refine XS.istore X2.here hx rfl (hb hby d3_24) rfl (l' := #[.val (.int p1), .val (.int p2), .val (.int (F4 p1)), .val (.long (0 : Int64)), .second, .val (.int (0 : Int32))]) rfl ?_
      show Steps p.tables e below (T2.setTop (mkF m 26 #[.val (.int p1), .val (.int p2), .val (.int (F4 p1)), .val (.long (0 : Int64)), .second, .val (.int (0 : Int32))] [])) _
      exact kt
    refine OwnG.st sg5 ?_
    have lp6 : ∀ (k : Nat) (T : State) (lc : List Loc) (bt : Int64) (lv : Int32) (X : Stand p l e ({ frames := 2, cells := 0, slots := 0, locals := 28 } : Room) s m #[(.int p1), (.int p2)] below meth c T lc 0 0) (eT : T.heap = h0) (N : Fr n0 lc) (hI : bt = own_tab (0 : Int64) (F4 p1) lv.toInt.toNat) (hl0 : 0 ≤ lv.toInt) (hl1 : lv.toInt ≤ (F5 (F4 p1)).toInt), ((F5 (F4 p1)).toInt - lv.toInt).toNat = k → OwnG p e below s (Q3 Z p1 p2 h0 n0) ({ frames := 2, cells := 0, slots := 0, locals := 28 } : Room).cells ({ frames := 2, cells := 0, slots := 0, locals := 28 } : Room).slots T (mkF m 26 #[.val (.int p1), .val (.int p2), .val (.int (F4 p1)), .val (.long bt), .second, .val (.int lv)] []) := by
      intro k
      induction k using Nat.strongRecOn with
      | _ k ih =>
        intro T lc bt lv X eT N hI hl0 hl1 hk
        have sg7 : ∀ tgt, Steps p.tables e below (T.setTop (mkF m 29 #[.val (.int p1), .val (.int p2), .val (.int (F4 p1)), .val (.long bt), .second, .val (.int lv)] [(.int (F4 p1)), (.int lv)])) tgt → Steps p.tables e below (T.setTop (mkF m 26 #[.val (.int p1), .val (.int p2), .val (.int (F4 p1)), .val (.long bt), .second, .val (.int lv)] [])) tgt := by
          intro tgt kt
          refine XS.iload X.here hx rfl (hb hby d3_26) rfl ?_
          show Steps p.tables e below (T.setTop (mkF m 28 #[.val (.int p1), .val (.int p2), .val (.int (F4 p1)), .val (.long bt), .second, .val (.int lv)] [(.int lv)])) _
          refine XS.iloadN X.here hx rfl (hb hby d3_28) rfl ?_
          show Steps p.tables e below (T.setTop (mkF m 29 #[.val (.int p1), .val (.int p2), .val (.int (F4 p1)), .val (.long bt), .second, .val (.int lv)] [(.int (F4 p1)), (.int lv)])) _
          exact kt
        refine OwnG.st sg7 ?_
        obtain ⟨_, _, ⟨T8, L8, k8, n8⟩, -, X8, ⟨Lc8, hQ8, l8, y8, z8⟩, st8⟩ := Jvm.LawKit.callS X hx (y := (⟨"com/example/prefixd/prefixd/HighestInRange", "levelsOf", "(I)I"⟩ : MethodName)) hown (mvT hZ (hw _ (List.mem_of_getElem? (i := 21) rfl))) (mvT hZ (hw _ (List.mem_of_getElem? (i := 22) rfl))) (mvT hZ (hw _ (List.mem_of_getElem? (i := 16) rfl))) (mvT hZ (hw _ (List.mem_of_getElem? (i := 23) rfl))) (by decide) (backOf (W := 1) (rm5 l Z a0 hw [] (F4 p1)  h0 n0 Z0 ) hZ (hw _ (List.mem_of_getElem? (i := 23) rfl)) (hw _ (List.mem_of_getElem? (i := 16) rfl)) (by decide) (by decide)) (g := (mkF m 29 #[.val (.int p1), .val (.int p2), .val (.int (F4 p1)), .val (.long bt), .second, .val (.int lv)] [(.int (F4 p1)), (.int lv)])) rfl (by rw [hml]; rfl) (argsL := [(.int (F4 p1))]) (rest := [(.int lv)]) (lenOf pd_3_0 rfl) rfl (by show 2 * 0 + _ ≤ _; exact Nat.le_of_eq rfl) (hb hby d3_29) (fun _ _ => ⟨rfl, eT, (by decide : 0 + 0 ≤ _), (by decide : 0 + 0 ≤ _)⟩)
        dsimp only [Pt.U, Pt.locs, Pt.cells, Pt.slots] at X8 l8 y8 z8 st8 hQ8
        subst l8 y8 z8
        obtain ⟨rfl, N8q, e8⟩ := hQ8
        have N8 := Fr.app N N8q
        refine OwnG.st (fun t k => st8 t k) ?_
        show OwnG p e below s _ _ _ T8 (mkF m 32 #[.val (.int p1), .val (.int p2), .val (.int (F4 p1)), .val (.long bt), .second, .val (.int lv)] [(.int (F5 (F4 p1))), (.int lv)])
        by_cases hc32_9 : lv < (F5 (F4 p1))
        · have sg10 : ∀ tgt, Steps p.tables e below (T8.setTop (mkF m 45 #[.val (.int p1), .val (.int p2), .val (.int (F4 p1)), .val (.long bt), .second, .val (.int lv)] [(.int lv), (.int (F4 p1)), (.long (4 : Int64)), (.long (8 : Int64)), (.long bt)])) tgt → Steps p.tables e below (T8.setTop (mkF m 32 #[.val (.int p1), .val (.int p2), .val (.int (F4 p1)), .val (.long bt), .second, .val (.int lv)] [(.int (F5 (F4 p1))), (.int lv)])) tgt := by
            intro tgt kt
            refine XS.icmpNo X8.here hx rfl (hb hby d3_32) rfl (tlt hc32_9).2.1 ?_
            show Steps p.tables e below (T8.setTop (mkF m 35 #[.val (.int p1), .val (.int p2), .val (.int (F4 p1)), .val (.long bt), .second, .val (.int lv)] [])) _
            refine XS.lloadN X8.here hx rfl (hb hby d3_35) rfl ?_
            show Steps p.tables e below (T8.setTop (mkF m 36 #[.val (.int p1), .val (.int p2), .val (.int (F4 p1)), .val (.long bt), .second, .val (.int lv)] [(.long bt)])) _
            refine X8.ldc2Long hx hown (mvT hZ (hw _ (List.mem_of_getElem? (i := 29) rfl))) (g := (mkF m 36 #[.val (.int p1), .val (.int p2), .val (.int (F4 p1)), .val (.long bt), .second, .val (.int lv)] [(.long bt)])) rfl (hb hby d3_36) _ ?_
            show Steps p.tables e below (T8.setTop (mkF m 39 #[.val (.int p1), .val (.int p2), .val (.int (F4 p1)), .val (.long bt), .second, .val (.int lv)] [(.long (8 : Int64)), (.long bt)])) _
            refine X8.ldc2Long hx hown (mvT hZ (hw _ (List.mem_of_getElem? (i := 30) rfl))) (g := (mkF m 39 #[.val (.int p1), .val (.int p2), .val (.int (F4 p1)), .val (.long bt), .second, .val (.int lv)] [(.long (8 : Int64)), (.long bt)])) rfl (hb hby d3_39) _ ?_
            show Steps p.tables e below (T8.setTop (mkF m 42 #[.val (.int p1), .val (.int p2), .val (.int (F4 p1)), .val (.long bt), .second, .val (.int lv)] [(.long (4 : Int64)), (.long (8 : Int64)), (.long bt)])) _
            refine XS.iloadN X8.here hx rfl (hb hby d3_42) rfl ?_
            show Steps p.tables e below (T8.setTop (mkF m 43 #[.val (.int p1), .val (.int p2), .val (.int (F4 p1)), .val (.long bt), .second, .val (.int lv)] [(.int (F4 p1)), (.long (4 : Int64)), (.long (8 : Int64)), (.long bt)])) _
            refine XS.iload X8.here hx rfl (hb hby d3_43) rfl ?_
            show Steps p.tables e below (T8.setTop (mkF m 45 #[.val (.int p1), .val (.int p2), .val (.int (F4 p1)), .val (.long bt), .second, .val (.int lv)] [(.int lv), (.int (F4 p1)), (.long (4 : Int64)), (.long (8 : Int64)), (.long bt)])) _
            exact kt
          refine OwnG.st sg10 ?_
          obtain ⟨_, _, ⟨T11, L11, k11, n11⟩, -, X11, ⟨Lc11, hQ11, l11, y11, z11⟩, st11⟩ := Jvm.LawKit.callS X8 hx (y := (⟨"com/example/prefixd/prefixd/HighestInRange", "levelLength", "(II)I"⟩ : MethodName)) hown (mvT hZ (hw _ (List.mem_of_getElem? (i := 31) rfl))) (mvT hZ (hw _ (List.mem_of_getElem? (i := 32) rfl))) (mvT hZ (hw _ (List.mem_of_getElem? (i := 16) rfl))) (mvT hZ (hw _ (List.mem_of_getElem? (i := 33) rfl))) (by decide) (backOf (W := 6) (rm7 l Z a0 hw [] (F4 p1) lv  h0 n0 Z0 ) hZ (hw _ (List.mem_of_getElem? (i := 33) rfl)) (hw _ (List.mem_of_getElem? (i := 16) rfl)) (by decide) (by decide)) (g := (mkF m 45 #[.val (.int p1), .val (.int p2), .val (.int (F4 p1)), .val (.long bt), .second, .val (.int lv)] [(.int lv), (.int (F4 p1)), (.long (4 : Int64)), (.long (8 : Int64)), (.long bt)])) rfl (by rw [hml]; rfl) (argsL := [(.int (F4 p1)), (.int lv)]) (rest := [(.long (4 : Int64)), (.long (8 : Int64)), (.long bt)]) (lenOf pd_3_1 rfl) rfl (by show 2 * 0 + _ ≤ _; exact Nat.le_of_eq rfl) (hb hby d3_45) (fun _ _ => ⟨rfl, e8, (by decide : 0 + 0 ≤ _), (by decide : 0 + 0 ≤ _)⟩)
          dsimp only [Pt.U, Pt.locs, Pt.cells, Pt.slots] at X11 l11 y11 z11 st11 hQ11
          subst l11 y11 z11
          obtain ⟨rfl, N11q, e11⟩ := hQ11
          have N11 := Fr.app N8 N11q
          refine OwnG.st (fun t k => st11 t k) ?_
          show OwnG p e below s _ _ _ T11 (mkF m 48 #[.val (.int p1), .val (.int p2), .val (.int (F4 p1)), .val (.long bt), .second, .val (.int lv)] [(.int (F7 (F4 p1) lv)), (.long (4 : Int64)), (.long (8 : Int64)), (.long bt)])
          have sg12 : ∀ tgt, Steps p.tables e below (T11.setTop (mkF m 26 #[.val (.int p1), .val (.int p2), .val (.int (F4 p1)), .val (.long (bt + ((8 : Int64) + ((4 : Int64) * ((F7 (F4 p1) lv).toInt64))))), .second, .val (.int (lv + (1 : Int32)))] [])) tgt → Steps p.tables e below (T11.setTop (mkF m 48 #[.val (.int p1), .val (.int p2), .val (.int (F4 p1)), .val (.long bt), .second, .val (.int lv)] [(.int (F7 (F4 p1) lv)), (.long (4 : Int64)), (.long (8 : Int64)), (.long bt)])) tgt := by
            intro tgt kt
            refine XS.i2l X11.here hx rfl (hb hby d3_48) rfl ?_
            show Steps p.tables e below (T11.setTop (mkF m 49 #[.val (.int p1), .val (.int p2), .val (.int (F4 p1)), .val (.long bt), .second, .val (.int lv)] [(.long ((F7 (F4 p1) lv).toInt64)), (.long (4 : Int64)), (.long (8 : Int64)), (.long bt)])) _
            refine XS.lmul X11.here hx rfl (hb hby d3_49) rfl ?_
            show Steps p.tables e below (T11.setTop (mkF m 50 #[.val (.int p1), .val (.int p2), .val (.int (F4 p1)), .val (.long bt), .second, .val (.int lv)] [(.long ((4 : Int64) * ((F7 (F4 p1) lv).toInt64))), (.long (8 : Int64)), (.long bt)])) _
            refine XS.ladd X11.here hx rfl (hb hby d3_50) rfl ?_
            show Steps p.tables e below (T11.setTop (mkF m 51 #[.val (.int p1), .val (.int p2), .val (.int (F4 p1)), .val (.long bt), .second, .val (.int lv)] [(.long ((8 : Int64) + ((4 : Int64) * ((F7 (F4 p1) lv).toInt64)))), (.long bt)])) _
            refine XS.ladd X11.here hx rfl (hb hby d3_51) rfl ?_
            show Steps p.tables e below (T11.setTop (mkF m 52 #[.val (.int p1), .val (.int p2), .val (.int (F4 p1)), .val (.long bt), .second, .val (.int lv)] [(.long (bt + ((8 : Int64) + ((4 : Int64) * ((F7 (F4 p1) lv).toInt64)))))])) _
            refine XS.lstoreN X11.here hx rfl (hb hby d3_52) rfl (l' := #[.val (.int p1), .val (.int p2), .val (.int (F4 p1)), .val (.long (bt + ((8 : Int64) + ((4 : Int64) * ((F7 (F4 p1) lv).toInt64))))), .second, .val (.int lv)]) rfl ?_
            show Steps p.tables e below (T11.setTop (mkF m 53 #[.val (.int p1), .val (.int p2), .val (.int (F4 p1)), .val (.long (bt + ((8 : Int64) + ((4 : Int64) * ((F7 (F4 p1) lv).toInt64))))), .second, .val (.int lv)] [])) _
            refine XS.iinc X11.here hx rfl (hb hby d3_53) rfl (l' := #[.val (.int p1), .val (.int p2), .val (.int (F4 p1)), .val (.long (bt + ((8 : Int64) + ((4 : Int64) * ((F7 (F4 p1) lv).toInt64))))), .second, .val (.int (lv + (1 : Int32)))]) rfl ?_
            show Steps p.tables e below (T11.setTop (mkF m 56 #[.val (.int p1), .val (.int p2), .val (.int (F4 p1)), .val (.long (bt + ((8 : Int64) + ((4 : Int64) * ((F7 (F4 p1) lv).toInt64))))), .second, .val (.int (lv + (1 : Int32)))] [])) _
            refine XS.goto X11.here hx rfl (pc0 := 56) (pc' := 26) rfl (hb hby d3_56) (by decide) (by decide) ?_
            show Steps p.tables e below (T11.setTop (mkF m 26 #[.val (.int p1), .val (.int p2), .val (.int (F4 p1)), .val (.long (bt + ((8 : Int64) + ((4 : Int64) * ((F7 (F4 p1) lv).toInt64))))), .second, .val (.int (lv + (1 : Int32)))] [])) _
            exact kt
          refine OwnG.st sg12 ?_
          have a1 := own_i1 _ _ hl0 hc32_9
          have hlt := Int32.lt_iff_toInt_lt.mp hc32_9
          exact ih _ (by rw [← hk, a1.1]; omega) T11 _ _ _ X11 e11 N11 (by rw [a1.2, own_ts, ← hI, show Int32.ofNat lv.toInt.toNat = lv from Int32.ofNat_toNatClampNeg lv (by rw [Int32.le_iff_toInt_le]; exact hl0)]) (by rw [a1.1]; omega) (by rw [a1.1]; omega) rfl
        · have sg13 : ∀ tgt, Steps p.tables e below (T8.setTop (mkF m 60 #[.val (.int p1), .val (.int p2), .val (.int (F4 p1)), .val (.long bt), .second, .val (.int lv)] [(.long bt)])) tgt → Steps p.tables e below (T8.setTop (mkF m 32 #[.val (.int p1), .val (.int p2), .val (.int (F4 p1)), .val (.long bt), .second, .val (.int lv)] [(.int (F5 (F4 p1))), (.int lv)])) tgt := by
            intro tgt kt
            refine XS.icmpYes X8.here hx rfl (pc0 := 32) (pc' := 59) rfl (hb hby d3_32) rfl (flt hc32_9).2.1 (by decide) (by decide) ?_
            show Steps p.tables e below (T8.setTop (mkF m 59 #[.val (.int p1), .val (.int p2), .val (.int (F4 p1)), .val (.long bt), .second, .val (.int lv)] [])) _
            refine XS.lloadN X8.here hx rfl (hb hby d3_59) rfl ?_
            show Steps p.tables e below (T8.setTop (mkF m 60 #[.val (.int p1), .val (.int p2), .val (.int (F4 p1)), .val (.long bt), .second, .val (.int lv)] [(.long bt)])) _
            exact kt
          refine OwnG.st sg13 ?_
          have hv : bt = F3 p1 p2 := by have q := hc32_9; rw [Int32.lt_iff_toInt_lt] at q; unfold F3; rw [if_pos hc6_4, hI, show lv.toInt.toNat = (F5 (F4 p1)).toInt.toNat by omega]
          exact OwnG.retJ X8 hx Bd.returns (BodyLoose.notSynchronized Bd) (hb hby d3_60) ⟨congrArg (fun w => some (Value.long w)) hv, N8, e8⟩ (by decide) (by decide)
    exact lp6 _ T2 _  _ _ X2 e2 N2 rfl (by decide) (by have q := own_l1 (F4 p1); show (0 : Int) ≤ _; omega)  rfl
  · have sg14 : ∀ tgt, Steps p.tables e below (T2.setTop (mkF m 13 #[.val (.int p1), .val (.int p2), .val (.int (F4 p1)), .unset, .unset, .unset] [(.int p1), (.long (8 : Int64))])) tgt → Steps p.tables e below (T2.setTop (mkF m 6 #[.val (.int p1), .val (.int p2), .val (.int (F4 p1)), .unset, .unset, .unset] [(.int p2)])) tgt := by
      intro tgt kt
      refine XS.ifNo X2.here hx rfl (hb hby d3_6) rfl ((if0 _ _).trans (feq hc6_4).1) ?_
      show Steps p.tables e below (T2.setTop (mkF m 9 #[.val (.int p1), .val (.int p2), .val (.int (F4 p1)), .unset, .unset, .unset] [])) _
      refine X2.ldc2Long hx hown (mvT hZ (hw _ (List.mem_of_getElem? (i := 29) rfl))) (g := (mkF m 9 #[.val (.int p1), .val (.int p2), .val (.int (F4 p1)), .unset, .unset, .unset] [])) rfl (hb hby d3_9) _ ?_
      show Steps p.tables e below (T2.setTop (mkF m 12 #[.val (.int p1), .val (.int p2), .val (.int (F4 p1)), .unset, .unset, .unset] [(.long (8 : Int64))])) _
      refine XS.iloadN X2.here hx rfl (hb hby d3_12) rfl ?_
      show Steps p.tables e below (T2.setTop (mkF m 13 #[.val (.int p1), .val (.int p2), .val (.int (F4 p1)), .unset, .unset, .unset] [(.int p1), (.long (8 : Int64))])) _
      exact kt
    refine OwnG.st sg14 ?_
    obtain ⟨_, _, ⟨T15, L15, k15, n15⟩, -, X15, ⟨Lc15, hQ15, l15, y15, z15⟩, st15⟩ := Jvm.LawKit.callS X2 hx (y := (⟨"com/example/prefixd/prefixd/HighestInRange", "leftOutWords", "(I)I"⟩ : MethodName)) hown (mvT hZ (hw _ (List.mem_of_getElem? (i := 34) rfl))) (mvT hZ (hw _ (List.mem_of_getElem? (i := 35) rfl))) (mvT hZ (hw _ (List.mem_of_getElem? (i := 16) rfl))) (mvT hZ (hw _ (List.mem_of_getElem? (i := 36) rfl))) (by decide) (backOf (W := 2) (rm8 l Z a0 hw [] p1  h0 n0 Z0 ) hZ (hw _ (List.mem_of_getElem? (i := 36) rfl)) (hw _ (List.mem_of_getElem? (i := 16) rfl)) (by decide) (by decide)) (g := (mkF m 13 #[.val (.int p1), .val (.int p2), .val (.int (F4 p1)), .unset, .unset, .unset] [(.int p1), (.long (8 : Int64))])) rfl (by rw [hml]; rfl) (argsL := [(.int p1)]) (rest := [(.long (8 : Int64))]) (lenOf pd_3_0 rfl) rfl (by show 2 * 0 + _ ≤ _; exact Nat.le_of_eq rfl) (hb hby d3_13) (fun _ _ => ⟨rfl, e2, (by decide : 0 + 0 ≤ _), (by decide : 0 + 0 ≤ _)⟩)
    dsimp only [Pt.U, Pt.locs, Pt.cells, Pt.slots] at X15 l15 y15 z15 st15 hQ15
    subst l15 y15 z15
    obtain ⟨rfl, N15q, e15⟩ := hQ15
    have N15 := Fr.app N2 N15q
    refine OwnG.st (fun t k => st15 t k) ?_
    show OwnG p e below s _ _ _ T15 (mkF m 16 #[.val (.int p1), .val (.int p2), .val (.int (F4 p1)), .unset, .unset, .unset] [(.int (F8 p1)), (.long (8 : Int64))])
    have sg16 : ∀ tgt, Steps p.tables e below (T15.setTop (mkF m 26 #[.val (.int p1), .val (.int p2), .val (.int (F4 p1)), .val (.long ((8 : Int64) * ((F8 p1).toInt64))), .second, .val (.int (0 : Int32))] [])) tgt → Steps p.tables e below (T15.setTop (mkF m 16 #[.val (.int p1), .val (.int p2), .val (.int (F4 p1)), .unset, .unset, .unset] [(.int (F8 p1)), (.long (8 : Int64))])) tgt := by
      intro tgt kt
      refine XS.i2l X15.here hx rfl (hb hby d3_16) rfl ?_
      show Steps p.tables e below (T15.setTop (mkF m 17 #[.val (.int p1), .val (.int p2), .val (.int (F4 p1)), .unset, .unset, .unset] [(.long ((F8 p1).toInt64)), (.long (8 : Int64))])) _
      refine XS.lmul X15.here hx rfl (hb hby d3_17) rfl ?_
      show Steps p.tables e below (T15.setTop (mkF m 18 #[.val (.int p1), .val (.int p2), .val (.int (F4 p1)), .unset, .unset, .unset] [(.long ((8 : Int64) * ((F8 p1).toInt64)))])) _
      refine XS.goto X15.here hx rfl (pc0 := 18) (pc' := 22) rfl (hb hby d3_18) (by decide) (by decide) ?_
      show Steps p.tables e below (T15.setTop (mkF m 22 #[.val (.int p1), .val (.int p2), .val (.int (F4 p1)), .unset, .unset, .unset] [(.long ((8 : Int64) * ((F8 p1).toInt64)))])) _
      refine XS.lstoreN X15.here hx rfl (hb hby d3_22) rfl (l' := #[.val (.int p1), .val (.int p2), .val (.int (F4 p1)), .val (.long ((8 : Int64) * ((F8 p1).toInt64))), .second, .unset]) rfl ?_
      show Steps p.tables e below (T15.setTop (mkF m 23 #[.val (.int p1), .val (.int p2), .val (.int (F4 p1)), .val (.long ((8 : Int64) * ((F8 p1).toInt64))), .second, .unset] [])) _
      refine XS.iconst X15.here hx rfl (hb hby d3_23) ?_
      show Steps p.tables e below (T15.setTop (mkF m 24 #[.val (.int p1), .val (.int p2), .val (.int (F4 p1)), .val (.long ((8 : Int64) * ((F8 p1).toInt64))), .second, .unset] [(.int (0 : Int32))])) _
      refine XS.istore X15.here hx rfl (hb hby d3_24) rfl (l' := #[.val (.int p1), .val (.int p2), .val (.int (F4 p1)), .val (.long ((8 : Int64) * ((F8 p1).toInt64))), .second, .val (.int (0 : Int32))]) rfl ?_
      show Steps p.tables e below (T15.setTop (mkF m 26 #[.val (.int p1), .val (.int p2), .val (.int (F4 p1)), .val (.long ((8 : Int64) * ((F8 p1).toInt64))), .second, .val (.int (0 : Int32))] [])) _
      exact kt
    refine OwnG.st sg16 ?_
    have lp17 : ∀ (k : Nat) (T : State) (lc : List Loc) (bt : Int64) (lv : Int32) (X : Stand p l e ({ frames := 2, cells := 0, slots := 0, locals := 28 } : Room) s m #[(.int p1), (.int p2)] below meth c T lc 0 0) (eT : T.heap = h0) (N : Fr n0 lc) (hI : bt = own_tab ((8 : Int64) * ((F8 p1).toInt64)) (F4 p1) lv.toInt.toNat) (hl0 : 0 ≤ lv.toInt) (hl1 : lv.toInt ≤ (F5 (F4 p1)).toInt), ((F5 (F4 p1)).toInt - lv.toInt).toNat = k → OwnG p e below s (Q3 Z p1 p2 h0 n0) ({ frames := 2, cells := 0, slots := 0, locals := 28 } : Room).cells ({ frames := 2, cells := 0, slots := 0, locals := 28 } : Room).slots T (mkF m 26 #[.val (.int p1), .val (.int p2), .val (.int (F4 p1)), .val (.long bt), .second, .val (.int lv)] []) := by
      intro k
      induction k using Nat.strongRecOn with
      | _ k ih =>
        intro T lc bt lv X eT N hI hl0 hl1 hk
        have sg18 : ∀ tgt, Steps p.tables e below (T.setTop (mkF m 29 #[.val (.int p1), .val (.int p2), .val (.int (F4 p1)), .val (.long bt), .second, .val (.int lv)] [(.int (F4 p1)), (.int lv)])) tgt → Steps p.tables e below (T.setTop (mkF m 26 #[.val (.int p1), .val (.int p2), .val (.int (F4 p1)), .val (.long bt), .second, .val (.int lv)] [])) tgt := by
          intro tgt kt
          refine XS.iload X.here hx rfl (hb hby d3_26) rfl ?_
          show Steps p.tables e below (T.setTop (mkF m 28 #[.val (.int p1), .val (.int p2), .val (.int (F4 p1)), .val (.long bt), .second, .val (.int lv)] [(.int lv)])) _
          refine XS.iloadN X.here hx rfl (hb hby d3_28) rfl ?_
          show Steps p.tables e below (T.setTop (mkF m 29 #[.val (.int p1), .val (.int p2), .val (.int (F4 p1)), .val (.long bt), .second, .val (.int lv)] [(.int (F4 p1)), (.int lv)])) _
          exact kt
        refine OwnG.st sg18 ?_
        obtain ⟨_, _, ⟨T19, L19, k19, n19⟩, -, X19, ⟨Lc19, hQ19, l19, y19, z19⟩, st19⟩ := Jvm.LawKit.callS X hx (y := (⟨"com/example/prefixd/prefixd/HighestInRange", "levelsOf", "(I)I"⟩ : MethodName)) hown (mvT hZ (hw _ (List.mem_of_getElem? (i := 21) rfl))) (mvT hZ (hw _ (List.mem_of_getElem? (i := 22) rfl))) (mvT hZ (hw _ (List.mem_of_getElem? (i := 16) rfl))) (mvT hZ (hw _ (List.mem_of_getElem? (i := 23) rfl))) (by decide) (backOf (W := 1) (rm5 l Z a0 hw [] (F4 p1)  h0 n0 Z0 ) hZ (hw _ (List.mem_of_getElem? (i := 23) rfl)) (hw _ (List.mem_of_getElem? (i := 16) rfl)) (by decide) (by decide)) (g := (mkF m 29 #[.val (.int p1), .val (.int p2), .val (.int (F4 p1)), .val (.long bt), .second, .val (.int lv)] [(.int (F4 p1)), (.int lv)])) rfl (by rw [hml]; rfl) (argsL := [(.int (F4 p1))]) (rest := [(.int lv)]) (lenOf pd_3_0 rfl) rfl (by show 2 * 0 + _ ≤ _; exact Nat.le_of_eq rfl) (hb hby d3_29) (fun _ _ => ⟨rfl, eT, (by decide : 0 + 0 ≤ _), (by decide : 0 + 0 ≤ _)⟩)
        dsimp only [Pt.U, Pt.locs, Pt.cells, Pt.slots] at X19 l19 y19 z19 st19 hQ19
        subst l19 y19 z19
        obtain ⟨rfl, N19q, e19⟩ := hQ19
        have N19 := Fr.app N N19q
        refine OwnG.st (fun t k => st19 t k) ?_
        show OwnG p e below s _ _ _ T19 (mkF m 32 #[.val (.int p1), .val (.int p2), .val (.int (F4 p1)), .val (.long bt), .second, .val (.int lv)] [(.int (F5 (F4 p1))), (.int lv)])
        by_cases hc32_20 : lv < (F5 (F4 p1))
        · have sg21 : ∀ tgt, Steps p.tables e below (T19.setTop (mkF m 45 #[.val (.int p1), .val (.int p2), .val (.int (F4 p1)), .val (.long bt), .second, .val (.int lv)] [(.int lv), (.int (F4 p1)), (.long (4 : Int64)), (.long (8 : Int64)), (.long bt)])) tgt → Steps p.tables e below (T19.setTop (mkF m 32 #[.val (.int p1), .val (.int p2), .val (.int (F4 p1)), .val (.long bt), .second, .val (.int lv)] [(.int (F5 (F4 p1))), (.int lv)])) tgt := by
            intro tgt kt
            refine XS.icmpNo X19.here hx rfl (hb hby d3_32) rfl (tlt hc32_20).2.1 ?_
            show Steps p.tables e below (T19.setTop (mkF m 35 #[.val (.int p1), .val (.int p2), .val (.int (F4 p1)), .val (.long bt), .second, .val (.int lv)] [])) _
            refine XS.lloadN X19.here hx rfl (hb hby d3_35) rfl ?_
            show Steps p.tables e below (T19.setTop (mkF m 36 #[.val (.int p1), .val (.int p2), .val (.int (F4 p1)), .val (.long bt), .second, .val (.int lv)] [(.long bt)])) _
            refine X19.ldc2Long hx hown (mvT hZ (hw _ (List.mem_of_getElem? (i := 29) rfl))) (g := (mkF m 36 #[.val (.int p1), .val (.int p2), .val (.int (F4 p1)), .val (.long bt), .second, .val (.int lv)] [(.long bt)])) rfl (hb hby d3_36) _ ?_
            show Steps p.tables e below (T19.setTop (mkF m 39 #[.val (.int p1), .val (.int p2), .val (.int (F4 p1)), .val (.long bt), .second, .val (.int lv)] [(.long (8 : Int64)), (.long bt)])) _
            refine X19.ldc2Long hx hown (mvT hZ (hw _ (List.mem_of_getElem? (i := 30) rfl))) (g := (mkF m 39 #[.val (.int p1), .val (.int p2), .val (.int (F4 p1)), .val (.long bt), .second, .val (.int lv)] [(.long (8 : Int64)), (.long bt)])) rfl (hb hby d3_39) _ ?_
            show Steps p.tables e below (T19.setTop (mkF m 42 #[.val (.int p1), .val (.int p2), .val (.int (F4 p1)), .val (.long bt), .second, .val (.int lv)] [(.long (4 : Int64)), (.long (8 : Int64)), (.long bt)])) _
            refine XS.iloadN X19.here hx rfl (hb hby d3_42) rfl ?_
            show Steps p.tables e below (T19.setTop (mkF m 43 #[.val (.int p1), .val (.int p2), .val (.int (F4 p1)), .val (.long bt), .second, .val (.int lv)] [(.int (F4 p1)), (.long (4 : Int64)), (.long (8 : Int64)), (.long bt)])) _
            refine XS.iload X19.here hx rfl (hb hby d3_43) rfl ?_
            show Steps p.tables e below (T19.setTop (mkF m 45 #[.val (.int p1), .val (.int p2), .val (.int (F4 p1)), .val (.long bt), .second, .val (.int lv)] [(.int lv), (.int (F4 p1)), (.long (4 : Int64)), (.long (8 : Int64)), (.long bt)])) _
            exact kt
          refine OwnG.st sg21 ?_
          obtain ⟨_, _, ⟨T22, L22, k22, n22⟩, -, X22, ⟨Lc22, hQ22, l22, y22, z22⟩, st22⟩ := Jvm.LawKit.callS X19 hx (y := (⟨"com/example/prefixd/prefixd/HighestInRange", "levelLength", "(II)I"⟩ : MethodName)) hown (mvT hZ (hw _ (List.mem_of_getElem? (i := 31) rfl))) (mvT hZ (hw _ (List.mem_of_getElem? (i := 32) rfl))) (mvT hZ (hw _ (List.mem_of_getElem? (i := 16) rfl))) (mvT hZ (hw _ (List.mem_of_getElem? (i := 33) rfl))) (by decide) (backOf (W := 6) (rm7 l Z a0 hw [] (F4 p1) lv  h0 n0 Z0 ) hZ (hw _ (List.mem_of_getElem? (i := 33) rfl)) (hw _ (List.mem_of_getElem? (i := 16) rfl)) (by decide) (by decide)) (g := (mkF m 45 #[.val (.int p1), .val (.int p2), .val (.int (F4 p1)), .val (.long bt), .second, .val (.int lv)] [(.int lv), (.int (F4 p1)), (.long (4 : Int64)), (.long (8 : Int64)), (.long bt)])) rfl (by rw [hml]; rfl) (argsL := [(.int (F4 p1)), (.int lv)]) (rest := [(.long (4 : Int64)), (.long (8 : Int64)), (.long bt)]) (lenOf pd_3_1 rfl) rfl (by show 2 * 0 + _ ≤ _; exact Nat.le_of_eq rfl) (hb hby d3_45) (fun _ _ => ⟨rfl, e19, (by decide : 0 + 0 ≤ _), (by decide : 0 + 0 ≤ _)⟩)
          dsimp only [Pt.U, Pt.locs, Pt.cells, Pt.slots] at X22 l22 y22 z22 st22 hQ22
          subst l22 y22 z22
          obtain ⟨rfl, N22q, e22⟩ := hQ22
          have N22 := Fr.app N19 N22q
          refine OwnG.st (fun t k => st22 t k) ?_
          show OwnG p e below s _ _ _ T22 (mkF m 48 #[.val (.int p1), .val (.int p2), .val (.int (F4 p1)), .val (.long bt), .second, .val (.int lv)] [(.int (F7 (F4 p1) lv)), (.long (4 : Int64)), (.long (8 : Int64)), (.long bt)])
          have sg23 : ∀ tgt, Steps p.tables e below (T22.setTop (mkF m 26 #[.val (.int p1), .val (.int p2), .val (.int (F4 p1)), .val (.long (bt + ((8 : Int64) + ((4 : Int64) * ((F7 (F4 p1) lv).toInt64))))), .second, .val (.int (lv + (1 : Int32)))] [])) tgt → Steps p.tables e below (T22.setTop (mkF m 48 #[.val (.int p1), .val (.int p2), .val (.int (F4 p1)), .val (.long bt), .second, .val (.int lv)] [(.int (F7 (F4 p1) lv)), (.long (4 : Int64)), (.long (8 : Int64)), (.long bt)])) tgt := by
            intro tgt kt
            refine XS.i2l X22.here hx rfl (hb hby d3_48) rfl ?_
            show Steps p.tables e below (T22.setTop (mkF m 49 #[.val (.int p1), .val (.int p2), .val (.int (F4 p1)), .val (.long bt), .second, .val (.int lv)] [(.long ((F7 (F4 p1) lv).toInt64)), (.long (4 : Int64)), (.long (8 : Int64)), (.long bt)])) _
            refine XS.lmul X22.here hx rfl (hb hby d3_49) rfl ?_
            show Steps p.tables e below (T22.setTop (mkF m 50 #[.val (.int p1), .val (.int p2), .val (.int (F4 p1)), .val (.long bt), .second, .val (.int lv)] [(.long ((4 : Int64) * ((F7 (F4 p1) lv).toInt64))), (.long (8 : Int64)), (.long bt)])) _
            refine XS.ladd X22.here hx rfl (hb hby d3_50) rfl ?_
            show Steps p.tables e below (T22.setTop (mkF m 51 #[.val (.int p1), .val (.int p2), .val (.int (F4 p1)), .val (.long bt), .second, .val (.int lv)] [(.long ((8 : Int64) + ((4 : Int64) * ((F7 (F4 p1) lv).toInt64)))), (.long bt)])) _
            refine XS.ladd X22.here hx rfl (hb hby d3_51) rfl ?_
            show Steps p.tables e below (T22.setTop (mkF m 52 #[.val (.int p1), .val (.int p2), .val (.int (F4 p1)), .val (.long bt), .second, .val (.int lv)] [(.long (bt + ((8 : Int64) + ((4 : Int64) * ((F7 (F4 p1) lv).toInt64)))))])) _
            refine XS.lstoreN X22.here hx rfl (hb hby d3_52) rfl (l' := #[.val (.int p1), .val (.int p2), .val (.int (F4 p1)), .val (.long (bt + ((8 : Int64) + ((4 : Int64) * ((F7 (F4 p1) lv).toInt64))))), .second, .val (.int lv)]) rfl ?_
            show Steps p.tables e below (T22.setTop (mkF m 53 #[.val (.int p1), .val (.int p2), .val (.int (F4 p1)), .val (.long (bt + ((8 : Int64) + ((4 : Int64) * ((F7 (F4 p1) lv).toInt64))))), .second, .val (.int lv)] [])) _
            refine XS.iinc X22.here hx rfl (hb hby d3_53) rfl (l' := #[.val (.int p1), .val (.int p2), .val (.int (F4 p1)), .val (.long (bt + ((8 : Int64) + ((4 : Int64) * ((F7 (F4 p1) lv).toInt64))))), .second, .val (.int (lv + (1 : Int32)))]) rfl ?_
            show Steps p.tables e below (T22.setTop (mkF m 56 #[.val (.int p1), .val (.int p2), .val (.int (F4 p1)), .val (.long (bt + ((8 : Int64) + ((4 : Int64) * ((F7 (F4 p1) lv).toInt64))))), .second, .val (.int (lv + (1 : Int32)))] [])) _
            refine XS.goto X22.here hx rfl (pc0 := 56) (pc' := 26) rfl (hb hby d3_56) (by decide) (by decide) ?_
            show Steps p.tables e below (T22.setTop (mkF m 26 #[.val (.int p1), .val (.int p2), .val (.int (F4 p1)), .val (.long (bt + ((8 : Int64) + ((4 : Int64) * ((F7 (F4 p1) lv).toInt64))))), .second, .val (.int (lv + (1 : Int32)))] [])) _
            exact kt
          refine OwnG.st sg23 ?_
          have a1 := own_i1 _ _ hl0 hc32_20
          have hlt := Int32.lt_iff_toInt_lt.mp hc32_20
          exact ih _ (by rw [← hk, a1.1]; omega) T22 _ _ _ X22 e22 N22 (by rw [a1.2, own_ts, ← hI, show Int32.ofNat lv.toInt.toNat = lv from Int32.ofNat_toNatClampNeg lv (by rw [Int32.le_iff_toInt_le]; exact hl0)]) (by rw [a1.1]; omega) (by rw [a1.1]; omega) rfl
        · have sg24 : ∀ tgt, Steps p.tables e below (T19.setTop (mkF m 60 #[.val (.int p1), .val (.int p2), .val (.int (F4 p1)), .val (.long bt), .second, .val (.int lv)] [(.long bt)])) tgt → Steps p.tables e below (T19.setTop (mkF m 32 #[.val (.int p1), .val (.int p2), .val (.int (F4 p1)), .val (.long bt), .second, .val (.int lv)] [(.int (F5 (F4 p1))), (.int lv)])) tgt := by
            intro tgt kt
            refine XS.icmpYes X19.here hx rfl (pc0 := 32) (pc' := 59) rfl (hb hby d3_32) rfl (flt hc32_20).2.1 (by decide) (by decide) ?_
            show Steps p.tables e below (T19.setTop (mkF m 59 #[.val (.int p1), .val (.int p2), .val (.int (F4 p1)), .val (.long bt), .second, .val (.int lv)] [])) _
            refine XS.lloadN X19.here hx rfl (hb hby d3_59) rfl ?_
            show Steps p.tables e below (T19.setTop (mkF m 60 #[.val (.int p1), .val (.int p2), .val (.int (F4 p1)), .val (.long bt), .second, .val (.int lv)] [(.long bt)])) _
            exact kt
          refine OwnG.st sg24 ?_
          have hv : bt = F3 p1 p2 := by have q := hc32_20; rw [Int32.lt_iff_toInt_lt] at q; unfold F3; rw [if_neg hc6_4, hI, show lv.toInt.toNat = (F5 (F4 p1)).toInt.toNat by omega]
          exact OwnG.retJ X19 hx Bd.returns (BodyLoose.notSynchronized Bd) (hb hby d3_60) ⟨congrArg (fun w => some (Value.long w)) hv, N19, e19⟩ (by decide) (by decide)
    exact lp17 _ T15 _  _ _ X15 e15 N15 rfl (by decide) (by have q := own_l1 (F4 p1); show (0 : Int) ≤ _; omega)  rfl
theorem own_us (x : Int32) (q : Int32) (k : Nat) (P : Int) (hk : q.toBitVec.toNat % 32 = k) (h0 : 0 < k) (hP : P = (2 ^ k : Nat)) (hx : 0 ≤ x.toInt) : ((x.toUInt32 >>> (q &&& 31).toUInt32).toInt32).toInt = x.toInt / P := by
  have h := c_iushr x q k hk h0
  have r := rng32 x
  rw [h, hP, Int.emod_eq_of_lt hx (by omega)]
theorem own_ad8 (x k : Int32) (hx : 0 ≤ x.toInt ∧ x.toInt ≤ 100) (hk : -100 ≤ k.toInt ∧ k.toInt ≤ 100) : (x + k).toInt = x.toInt + k.toInt := by
  have h := c_iadd x k
  have r := rng32 (x + k)
  omega
theorem own_stage (v x y th q k k' : Int32) (P TH : Int) (kk : Nat) (hq : q.toBitVec.toNat % 32 = kk) (h0 : 0 < kk) (hP : P = (2 ^ kk : Nat)) (hTH : th.toInt = TH) (hv : 0 ≤ v.toInt) (hx : 0 ≤ x.toInt ∧ x.toInt ≤ 100) (hy : 0 ≤ y.toInt ∧ y.toInt ≤ 100) (hk : 0 ≤ k.toInt ∧ k.toInt ≤ 16) (hk' : k'.toInt = -k.toInt) :
    (v.toInt < TH ∧ (if v < th then v else ((v.toUInt32 >>> (q &&& 31).toUInt32).toInt32)).toInt = v.toInt ∧ (if v < th then x else (x + k)).toInt = x.toInt ∧ (if v < th then y else (y + k')).toInt = y.toInt) ∨
    (TH ≤ v.toInt ∧ (if v < th then v else ((v.toUInt32 >>> (q &&& 31).toUInt32).toInt32)).toInt = v.toInt / P ∧ (if v < th then x else (x + k)).toInt = x.toInt + k.toInt ∧ (if v < th then y else (y + k')).toInt = y.toInt - k.toInt) := by
  have u := own_us v q kk P hq h0 hP hv
  have a1 := own_ad8 x k hx (by omega)
  have a2 := own_ad8 y k' hy (by omega)
  by_cases c : v < th
  · left; rw [if_pos c, if_pos c, if_pos c]; rw [Int32.lt_iff_toInt_lt] at c; omega
  · right; rw [if_neg c, if_neg c, if_neg c]; rw [Int32.lt_iff_toInt_lt] at c; omega
theorem own_bl (n : Int32) (hn : 0 ≤ n.toInt) : F1 n = ((32 : Int32) - (F6 n)) ∧ 0 ≤ (F1 n).toInt ∧ (F1 n).toInt ≤ 31 := by
  have rn := rng32 n
  have s1 : (n.toInt < 65536 ∧ (J1_16_0 n).toInt = n.toInt ∧ (J1_16_1 n).toInt = 0 ∧ (J6_33_1 n).toInt = 31) ∨ (65536 ≤ n.toInt ∧ (J1_16_0 n).toInt = n.toInt / 65536 ∧ (J1_16_1 n).toInt = 16 ∧ (J6_33_1 n).toInt = 15) := by
    have u := own_us n 16 16 65536 (by decide) (by decide) (by decide) hn
    have e : (65536 : Int32).toInt = 65536 := rfl
    unfold J1_16_0 J1_16_1 J6_33_1
    by_cases c : n < 65536
    · left; rw [if_pos c, if_pos c, if_pos c]; rw [Int32.lt_iff_toInt_lt] at c; exact ⟨by omega, rfl, rfl, rfl⟩
    · right; rw [if_neg c, if_neg c, if_neg c]; rw [Int32.lt_iff_toInt_lt] at c; exact ⟨by omega, u, rfl, rfl⟩
  have s2 : ((J1_16_0 n).toInt < 256 ∧ (J1_31_2 n).toInt = (J1_16_0 n).toInt ∧ (J1_31_3 n).toInt = (J1_16_1 n).toInt ∧ (J6_48_3 n).toInt = (J6_33_1 n).toInt) ∨ (256 ≤ (J1_16_0 n).toInt ∧ (J1_31_2 n).toInt = (J1_16_0 n).toInt / 256 ∧ (J1_31_3 n).toInt = (J1_16_1 n).toInt + 8 ∧ (J6_48_3 n).toInt = (J6_33_1 n).toInt - 8) :=
    own_stage (J1_16_0 n) (J1_16_1 n) (J6_33_1 n) 256 8 8 (-8) 256 256 8 (by decide) (by decide) (by decide) rfl (by omega) (by omega) (by omega) (by decide) (by decide)
  have s3 : ((J1_31_2 n).toInt < 16 ∧ (J1_44_4 n).toInt = (J1_31_2 n).toInt ∧ (J1_44_5 n).toInt = (J1_31_3 n).toInt ∧ (J6_61_5 n).toInt = (J6_48_3 n).toInt) ∨ (16 ≤ (J1_31_2 n).toInt ∧ (J1_44_4 n).toInt = (J1_31_2 n).toInt / 16 ∧ (J1_44_5 n).toInt = (J1_31_3 n).toInt + 4 ∧ (J6_61_5 n).toInt = (J6_48_3 n).toInt - 4) :=
    own_stage (J1_31_2 n) (J1_31_3 n) (J6_48_3 n) 16 4 4 (-4) 16 16 4 (by decide) (by decide) (by decide) rfl (by omega) (by omega) (by omega) (by decide) (by decide)
  have s4 : ((J1_44_4 n).toInt < 4 ∧ (J1_56_6 n).toInt = (J1_44_4 n).toInt ∧ (J1_56_7 n).toInt = (J1_44_5 n).toInt ∧ (J6_73_7 n).toInt = (J6_61_5 n).toInt) ∨ (4 ≤ (J1_44_4 n).toInt ∧ (J1_56_6 n).toInt = (J1_44_4 n).toInt / 4 ∧ (J1_56_7 n).toInt = (J1_44_5 n).toInt + 2 ∧ (J6_73_7 n).toInt = (J6_61_5 n).toInt - 2) :=
    own_stage (J1_44_4 n) (J1_44_5 n) (J6_61_5 n) 4 2 2 (-2) 4 4 2 (by decide) (by decide) (by decide) rfl (by omega) (by omega) (by omega) (by decide) (by decide)
  have h4 : 0 ≤ (J1_56_6 n).toInt ∧ (J1_56_6 n).toInt ≤ 3 := by omega
  have s5 : ((J1_56_6 n).toInt < 2 ∧ (J1_68_8 n).toInt = (J1_56_6 n).toInt ∧ (J1_68_9 n).toInt = (J1_56_7 n).toInt ∧ True) ∨ (2 ≤ (J1_56_6 n).toInt ∧ (J1_68_8 n).toInt = (J1_56_6 n).toInt / 2 ∧ (J1_68_9 n).toInt = (J1_56_7 n).toInt + 1 ∧ True) := by
    have q := own_stage (J1_56_6 n) (J1_56_7 n) 0 2 1 1 (-1) 2 2 1 (by decide) (by decide) (by decide) rfl (by omega) (by omega) (by decide) (by decide) (by decide)
    exact q.imp (fun h => ⟨h.1, h.2.1, h.2.2.1, trivial⟩) (fun h => ⟨h.1, h.2.1, h.2.2.1, trivial⟩)
  have f1 : (F1 n).toInt = (J1_68_9 n).toInt + (J1_68_8 n).toInt := own_ad8 _ _ (by omega) (by omega)
  have hb : 0 ≤ (F1 n).toInt ∧ (F1 n).toInt ≤ 31 := by omega
  refine ⟨?_, hb⟩
  have u := own_us (J1_56_6 n) 1 1 2 (by decide) (by decide) (by decide) h4.1
  have e0 : (0 : Int32).toInt = 0 := rfl
  have e32 : (32 : Int32).toInt = 32 := rfl
  rw [← Int32.toInt_inj]
  have g := c_isub 32 (F6 n)
  have r := rng32 (32 - F6 n)
  by_cases c : (0 : Int32) < n
  · have f6 : F6 n = (J6_73_7 n) - (((J1_56_6 n).toUInt32 >>> ((1 : Int32) &&& 31).toUInt32).toInt32) := by
      show (if (0 : Int32) < n then _ else _) = _
      rw [if_pos c]; rfl
    rw [Int32.lt_iff_toInt_lt] at c
    have g2 := c_isub (J6_73_7 n) (((J1_56_6 n).toUInt32 >>> ((1 : Int32) &&& 31).toUInt32).toInt32)
    rw [← f6] at g2
    have r2 := rng32 (F6 n)
    omega
  · have f6 : F6 n = if n = (0 : Int32) then (32 : Int32) else (0 : Int32) := by
      show (if (0 : Int32) < n then _ else _) = _
      rw [if_neg c]
    rw [Int32.lt_iff_toInt_lt] at c
    have z : n = 0 := Int32.toInt_inj.mp (by omega)
    rw [if_pos z] at f6
    rw [f6] at g r ⊢
    omega
theorem own_sum (b : Int64) (n : Int32) (hb : 0 ≤ b.toInt ∧ b.toInt ≤ 1099511627776) (hn : 0 ≤ n.toInt ∧ n.toInt ≤ 67108864) : ∀ l : Nat, l ≤ 31 → (own_tab b n l).toInt = b.toInt + 8 * (l : Int) + 4 * ((l : Int) * (n.toInt + 1)) - 4 * (((2 ^ l : Nat) : Int) - 1) := by
  intro l
  induction l with
  | zero => intro _; show b.toInt = _; simp
  | succ l ih =>
    intro hl
    have ih' := ih (by omega)
    have hq : (Int32.ofNat l).toBitVec.toNat = l := by
      show (BitVec.ofNat 32 l).toNat = l
      rw [BitVec.toNat_ofNat]; omega
    have a1 := c_ishl 1 (Int32.ofNat l) l (by rw [hq]; omega)
    have p1 : 2 ^ l ≤ 2 ^ 30 := Nat.pow_le_pow_right (by decide) (by omega)
    have p0 : 0 < 2 ^ l := Nat.two_pow_pos l
    have ps : 2 ^ (l + 1) = 2 ^ l * 2 := Nat.pow_succ 2 l
    have e1 : (1 : Int32).toInt = 1 := rfl
    have ml : 0 ≤ (l : Int) * (n.toInt + 1) := Int.mul_nonneg (by omega) (by omega)
    have mu : (l : Int) * (n.toInt + 1) ≤ 31 * 67108865 := Int.mul_le_mul (by omega) (by omega) (by omega) (by decide)
    have ms : ((l + 1 : Nat) : Int) * (n.toInt + 1) = (l : Int) * (n.toInt + 1) + (n.toInt + 1) := by rw [Int.natCast_add, Int.add_mul]; omega
    rw [ms, ps]
    rw [e1] at a1
    generalize hM : (l : Int) * (n.toInt + 1) = M at *
    generalize hP : 2 ^ l = P at *
    have r1 := rng32 ((1 : Int32) <<< ((Int32.ofNat l) &&& 31))
    obtain ⟨w, hw⟩ : ∃ w, w = ((1 : Int32) <<< ((Int32.ofNat l) &&& 31)) := ⟨_, rfl⟩
    rw [← hw] at a1 r1
    have s1 : w.toInt = (P : Int) := by omega
    clear a1 r1
    have a2 := x_isub n w (by omega)
    have a3 := x_iadd (n - w) 1 (by omega)
    have f7 : F7 n (Int32.ofNat l) = (n - w) + 1 := by rw [hw]; rfl
    obtain ⟨y, hy⟩ : ∃ y, y = F7 n (Int32.ofNat l) := ⟨_, rfl⟩
    rw [← f7, ← hy] at a3
    have v7 : y.toInt = n.toInt - P + 1 := by omega
    have a4 := c_i2l y
    have a5 := x_lmul 4 y.toInt64 (4 * (n.toInt - P + 1)) (by rw [a4, v7]; rfl) (by omega)
    have e8 : (8 : Int64).toInt = 8 := rfl
    have a6 := x_ladd 8 ((4 : Int64) * y.toInt64) (by omega)
    have a7 := x_ladd (own_tab b n l) (8 + (4 : Int64) * y.toInt64) (by omega)
    rw [own_ts, ← hy, a7, a6, a5, ih', e8]
    omega
theorem own_size (x s : Int32) : 0 ≤ (((x &&& (2147483647 : Int32)).toUInt32 >>> ((s &&& (31 : Int32)) &&& 31).toUInt32).toInt32).toInt := by
  have h := c_mask x 2147483647 31 (by decide) (by decide)
  obtain ⟨y, hy⟩ : ∃ y, y = x &&& (2147483647 : Int32) := ⟨_, rfl⟩
  rw [← hy] at h ⊢
  obtain ⟨q, hq⟩ : ∃ q, q = s &&& (31 : Int32) := ⟨_, rfl⟩
  rw [← hq]
  by_cases c : q.toBitVec.toNat % 32 = 0
  · have e : ((y.toUInt32 >>> (q &&& 31).toUInt32).toInt32).toBitVec = y.toBitVec >>> 0 := by
      have h1 : (q &&& 31).toBitVec.toNat = 0 := by
        show (q.toBitVec &&& (31 : Int32).toBitVec).toNat = _
        rw [BitVec.toNat_and, show (31 : Int32).toBitVec.toNat = 2 ^ 5 - 1 from by decide, Nat.and_two_pow_sub_one_eq_mod]; exact c
      show y.toBitVec >>> ((q &&& 31).toBitVec % 32) = _
      rw [BitVec.ushiftRight_eq', BitVec.toNat_umod, h1]; rfl
    rw [BitVec.ushiftRight_zero] at e
    rw [Int32.toBitVec_inj.mp e]; omega
  · rw [c_iushr y q _ rfl (by omega)]
    exact Int.ediv_nonneg (by omega) (Int.natCast_nonneg _)
theorem own_f4 (z : Int32) (hz : 0 ≤ z.toInt) : (F4 z).toInt = (z.toInt + 63) / 64 := by
  have rz := rng32 z
  have n1 := c_iadd z 64
  have n2 := c_isub (z + 64) 1
  have e64 : (64 : Int32).toInt = 64 := rfl
  have e1 : (1 : Int32).toInt = 1 := rfl
  have n3 := c_iushr (z + 64 - 1) 6 6 (by decide) (by decide)
  show ((((z + 64) - 1).toUInt32 >>> ((6 : Int32) &&& 31).toUInt32).toInt32).toInt = _
  rw [n3]
  have k : (z + 64 - 1).toInt % 4294967296 = z.toInt + 63 := by omega
  rw [k]; rfl
theorem own_b63 (z : Int32) (hz : 0 ≤ z.toInt) : (z.toInt64 + (63 : Int64)).toInt = z.toInt + 63 := by
  have rz := rng32 z
  have a1 := c_i2l z
  have e63 : (63 : Int64).toInt = 63 := rfl
  rw [x_ladd _ _ (by omega), a1, e63]
theorem own_f8 (z : Int32) (hz : 0 ≤ z.toInt) : (F8 z).toInt = (z.toInt + 63) / 64 := by
  have rz := rng32 z
  have q := own_b63 z hz
  have m1 := c_lushr (z.toInt64 + 63) 6 6 (by decide) (by decide)
  rw [q] at m1
  have k : (z.toInt + 63) % 18446744073709551616 = z.toInt + 63 := by omega
  rw [k] at m1
  have m2 := x_l2i (((z.toInt64 + 63).toUInt64 >>> ((6 : Int32) &&& 0x3f).toInt64.toUInt64).toInt64) (by rw [m1]; omega)
  show ((((z.toInt64 + 63).toUInt64 >>> ((6 : Int32) &&& 0x3f).toInt64.toUInt64).toInt64).toInt32).toInt = _
  rw [m2, m1]; rfl
theorem own_bb (z : Int32) (hz : 0 ≤ z.toInt) : ((z.toInt64 + (63 : Int64)) / (64 : Int64)).toInt = (z.toInt + 63) / 64 := by
  have q := own_b63 z hz
  have a3 := (c_ldiv (z.toInt64 + 63) 64 64 rfl (by decide)).1 (by omega)
  rw [a3, q]
theorem own_shl1 (L : Int32) (h0 : 0 ≤ L.toInt) (h1 : L.toInt ≤ 31) : ((1 : Int64) <<< (L &&& 0x3f).toInt64).toInt = ((2 ^ L.toInt.toNat : Nat) : Int) := by
  have hln : L.toBitVec.toNat = L.toInt.toNat := by
    have q : L.toBitVec.toInt = L.toInt := rfl
    rw [BitVec.toInt_eq_toNat_cond] at q
    have := L.toBitVec.isLt
    split at q <;> omega
  have k8 := c_lshl 1 L L.toInt.toNat (by rw [hln]; omega)
  have p1 : 2 ^ L.toInt.toNat ≤ 2 ^ 31 := Nat.pow_le_pow_right (by decide) (by omega)
  rw [show (1 : Int64).toInt = 1 from rfl] at k8
  generalize 2 ^ L.toInt.toNat = P at *
  have rk8 := rng64 ((1 : Int64) <<< (L &&& 0x3f).toInt64)
  omega
theorem own_exp (b B : Int64) (L : Int32) (hb : 0 ≤ b.toInt ∧ b.toInt ≤ 1099511627776) (hB : 0 ≤ B.toInt ∧ B.toInt ≤ 67108864) (h0 : 0 ≤ L.toInt) (h1 : L.toInt ≤ 31) :
    (((b + ((8 : Int64) * (L.toInt64))) + (((4 : Int64) * (L.toInt64)) * (B + (1 : Int64)))) - ((4 : Int64) * (((1 : Int64) <<< (L &&& 0x3f).toInt64) - (1 : Int64)))).toInt = b.toInt + 8 * (L.toInt.toNat : Int) + 4 * ((L.toInt.toNat : Int) * (B.toInt + 1)) - 4 * (((2 ^ L.toInt.toNat : Nat) : Int) - 1) := by
  have k1 := c_i2l L
  have k8 := own_shl1 L h0 h1
  have p1 : 2 ^ L.toInt.toNat ≤ 2 ^ 31 := Nat.pow_le_pow_right (by decide) (by omega)
  have p0 : 0 < 2 ^ L.toInt.toNat := Nat.two_pow_pos _
  have ml : 0 ≤ (L.toInt.toNat : Int) * (B.toInt + 1) := Int.mul_nonneg (by omega) (by omega)
  have mu : (L.toInt.toNat : Int) * (B.toInt + 1) ≤ 31 * 67108865 := Int.mul_le_mul (by omega) (by omega) (by omega) (by decide)
  have v6 : (4 * L.toInt) * (B.toInt + 1) = 4 * ((L.toInt.toNat : Int) * (B.toInt + 1)) := by rw [Int.toNat_of_nonneg h0, Int.mul_assoc]
  generalize hM : (L.toInt.toNat : Int) * (B.toInt + 1) = M at *
  generalize hP : 2 ^ L.toInt.toNat = P at *
  have el1 : (1 : Int64).toInt = 1 := rfl
  have k2 := x_lmul 8 L.toInt64 (8 * L.toInt) (by rw [k1]; rfl) (by omega)
  have k3 := x_ladd b (8 * L.toInt64) (by omega)
  have k4 := x_lmul 4 L.toInt64 (4 * L.toInt) (by rw [k1]; rfl) (by omega)
  have k5 := x_ladd B 1 (by omega)
  have k6 := x_lmul (4 * L.toInt64) (B + 1) (4 * M) (by rw [k4, k5, el1]; exact v6) (by omega)
  have k7 := x_ladd (b + 8 * L.toInt64) ((4 * L.toInt64) * (B + 1)) (by omega)
  obtain ⟨w, hw⟩ : ∃ w, w = ((1 : Int64) <<< (L &&& 0x3f).toInt64) := ⟨_, rfl⟩
  rw [← hw] at k8 ⊢
  have k9 := x_lsub w 1 (by omega)
  have k10 := x_lmul 4 (w - 1) (4 * (w - 1).toInt) rfl (by omega)
  have k11 := x_lsub ((b + 8 * L.toInt64) + ((4 * L.toInt64) * (B + 1))) (4 * (w - 1)) (by omega)
  rw [k11, k10, k9, k7, k6, k3, k2, k8, el1]
  omega
theorem own_fin (z f L : Int32) (B : Int64) (hz : 0 ≤ z.toInt) (hB : B = ((z.toInt64 + (63 : Int64)) / (64 : Int64))) (hL : L = F2 (1 : Int32) (F1 (B.toInt32))) :
    F3 z f = ((((if f = (0 : Int32) then (0 : Int64) else ((8 : Int64) * B)) + ((8 : Int64) * (L.toInt64))) + (((4 : Int64) * (L.toInt64)) * (B + (1 : Int64)))) - ((4 : Int64) * (((1 : Int64) <<< (L &&& 0x3f).toInt64) - (1 : Int64)))) := by
  have rz := rng32 z
  have hBv := own_bb z hz
  rw [← hB] at hBv
  have f4 := own_f4 z hz
  have f8 := own_f8 z hz
  have a4 := x_l2i B (by omega)
  have eqn : B.toInt32 = F4 z := Int32.toInt_inj.mp (by omega)
  have f8' : (F8 z).toInt64 = B := Int64.toInt_inj.mp (by rw [c_i2l]; omega)
  have bl := own_bl (F4 z) (by omega)
  have hF5 : F5 (F4 z) = L := by rw [hL, eqn, bl.1]; rfl
  have hL1 := own_l1 (F4 z)
  rw [hF5] at hL1
  have hL2 : L.toInt ≤ 31 := by
    rw [hL, eqn]; unfold F2
    by_cases c : (1 : Int32) < F1 (F4 z)
    · rw [if_pos c]; exact bl.2.2
    · rw [if_neg c]; decide
  show own_tab (if f = (0 : Int32) then (0 : Int64) else ((8 : Int64) * ((F8 z).toInt64))) (F4 z) (F5 (F4 z)).toInt.toNat = _
  rw [hF5, f8']
  have hBr : 0 ≤ B.toInt ∧ B.toInt ≤ 67108864 := by omega
  have l8 := x_lmul 8 B (8 * B.toInt) rfl (by omega)
  obtain ⟨b, hb⟩ : ∃ b, b = (if f = (0 : Int32) then (0 : Int64) else ((8 : Int64) * B)) := ⟨_, rfl⟩
  have hbb : 0 ≤ b.toInt ∧ b.toInt ≤ 1099511627776 := by
    by_cases c : f = 0
    · rw [if_pos c] at hb; rw [hb]; decide
    · rw [if_neg c] at hb; rw [hb, l8]; omega
  rw [← hb]
  have sm := own_sum b (F4 z) hbb (by omega) L.toInt.toNat (by omega)
  have ex := own_exp b B L hbb hBr (by omega) hL2
  rw [← Int64.toInt_inj, sm, ex, show (F4 z).toInt = B.toInt by omega]
theorem pn_0 : plainName "com/example/prefixd/prefixd/HighestInRangeTableBytesPinLaw" = true := by first | (simp [plainName, overriddenIn]; done) | decide +kernel
theorem pd_0_0 : parseMethodDescriptor "(I)I" = some ⟨[.int], some .int⟩ := by decide +kernel
theorem pd_0_1 : parseMethodDescriptor "(II)I" = some ⟨[.int, .int], some .int⟩ := by decide +kernel
theorem pd_0_2 : parseMethodDescriptor "(IZ)J" = some ⟨[.int, .boolean], some .long⟩ := by decide +kernel
theorem ef_0 (m : MethodId) (p1 : Int32) (p2 : Int32) (p3 : Int32) : entryFrame m #[(.int p1), (.int p2), (.int p3)] maxLocals = mkF m 0 #[.val (.int p1), .val (.int p2), .val (.int p3), .unset, .unset, .unset, .unset, .unset, .unset, .unset] [] := by first | (simp [entryFrame, mkF, argsToLocals, Value.category, maxLocals]; done) | rfl
def Q0 (Z : State) (p1 : Int32) (p2 : Int32) (p3 : Int32) (h0 : Heap) (n0 : Nat) (v : Option Value) (h : Heap) (L : List Loc) : Prop := v = some (.int 1) ∧ Fr n0 L
set_option maxRecDepth 65536 in
set_option maxHeartbeats 40000000 in
theorem rm0 (l : Launch) (Z : State) (a0 : Array Value) (hw : ∀ d ∈ tables_1, d.before a0 Z = true) (ws : List Jvm.Cond) (p1 : Int32) (p2 : Int32) (p3 : Int32)  (h0 : Heap) (n0 : Nat) (Z0 : n0 ≤ h0.size)  :
    MetFree l x (head1 (Jvm.Cond.code x code maxLocals ret :: ws) room_1) (fun a U => a = #[(.int p1), (.int p2), (.int p3)] ∧ Z.Warmed39 U.vm ∧ U.heap = h0) (fun _ _ _ _ _ => True) (fun _ U o U' => ∃ v L, o = .returned v ∧ Q0 Z p1 p2 p3 h0 n0 v U'.heap L ∧ FrameEnd U o U' L room_1.cells room_1.slots) := by
  refine MetFree.of_bodySF (plainFor_of_name pn_0) hisR ?_
  intro p e s m args below meth c s₁ Bd hml0 hP hK
  obtain ⟨rfl, hZ, hh⟩ := hP
  have hx := Bd.exec
  have hby := Bd.bytes
  have hml : c.maxLocals = 10 := hml0
  have hown : s.vm.findClass "com/example/prefixd/prefixd/HighestInRangeTableBytesPinLaw" = some m.cls := findClass_of_methodNamed Bd.named
  have hnm := (name_of_methodNamed Bd.named Bd.method).1
  have X0 : Stand p l e room_1 s m #[(.int p1), (.int p2), (.int p3)] below meth c s₁ [] 0 0 := Stand.of_body Bd
  have e0 : s₁.heap = h0 := by rw [← hh, Bd.state]; rfl
  have N0 := Fr.nil n0
  suffices hG : OwnG p e below s (Q0 Z p1 p2 p3 h0 n0) room_1.cells room_1.slots s₁ (mkF m 0 #[.val (.int p1), .val (.int p2), .val (.int p3), .unset, .unset, .unset, .unset, .unset, .unset, .unset] []) by
    obtain ⟨s2, o2, g1, g2⟩ := hG
    exact ⟨s2, o2, castTop (ef_0 m p1 p2 p3) g1, g2⟩
  have sg1 : ∀ tgt, Steps p.tables e below (s₁.setTop (mkF m 10 #[.val (.int p1), .val (.int p2), .val (.int p3), .val (.int (((p1 &&& (2147483647 : Int32)).toUInt32 >>> ((p2 &&& (31 : Int32)) &&& 31).toUInt32).toInt32)), .unset, .unset, .unset, .unset, .unset, .unset] [])) tgt → Steps p.tables e below (s₁.setTop (mkF m 0 #[.val (.int p1), .val (.int p2), .val (.int p3), .unset, .unset, .unset, .unset, .unset, .unset, .unset] [])) tgt := by
    intro tgt kt
    refine XS.iloadN X0.here hx rfl (hb hby at_0) rfl ?_
    show Steps p.tables e below (s₁.setTop (mkF m 1 #[.val (.int p1), .val (.int p2), .val (.int p3), .unset, .unset, .unset, .unset, .unset, .unset, .unset] [(.int p1)])) _
    refine X0.ldcInt hx hown (mvT hZ (hw _ (List.mem_of_getElem? (i := 0) rfl))) (g := (mkF m 1 #[.val (.int p1), .val (.int p2), .val (.int p3), .unset, .unset, .unset, .unset, .unset, .unset, .unset] [(.int p1)])) rfl (hb hby at_1) _ ?_
    show Steps p.tables e below (s₁.setTop (mkF m 3 #[.val (.int p1), .val (.int p2), .val (.int p3), .unset, .unset, .unset, .unset, .unset, .unset, .unset] [(.int (2147483647 : Int32)), (.int p1)])) _
    refine XS.iand X0.here hx rfl (hb hby at_3) rfl ?_
    show Steps p.tables e below (s₁.setTop (mkF m 4 #[.val (.int p1), .val (.int p2), .val (.int p3), .unset, .unset, .unset, .unset, .unset, .unset, .unset] [(.int (p1 &&& (2147483647 : Int32)))])) _
    refine XS.iloadN X0.here hx rfl (hb hby at_4) rfl ?_
    show Steps p.tables e below (s₁.setTop (mkF m 5 #[.val (.int p1), .val (.int p2), .val (.int p3), .unset, .unset, .unset, .unset, .unset, .unset, .unset] [(.int p2), (.int (p1 &&& (2147483647 : Int32)))])) _
    refine XS.bipush X0.here hx rfl (hb hby at_5) ?_
    show Steps p.tables e below (s₁.setTop (mkF m 7 #[.val (.int p1), .val (.int p2), .val (.int p3), .unset, .unset, .unset, .unset, .unset, .unset, .unset] [(.int (31 : Int32)), (.int p2), (.int (p1 &&& (2147483647 : Int32)))])) _
    refine XS.iand X0.here hx rfl (hb hby at_7) rfl ?_
    show Steps p.tables e below (s₁.setTop (mkF m 8 #[.val (.int p1), .val (.int p2), .val (.int p3), .unset, .unset, .unset, .unset, .unset, .unset, .unset] [(.int (p2 &&& (31 : Int32))), (.int (p1 &&& (2147483647 : Int32)))])) _
    refine XS.iushr X0.here hx rfl (hb hby at_8) rfl ?_
    show Steps p.tables e below (s₁.setTop (mkF m 9 #[.val (.int p1), .val (.int p2), .val (.int p3), .unset, .unset, .unset, .unset, .unset, .unset, .unset] [(.int (((p1 &&& (2147483647 : Int32)).toUInt32 >>> ((p2 &&& (31 : Int32)) &&& 31).toUInt32).toInt32))])) _
    refine XS.istoreN X0.here hx rfl (hb hby at_9) rfl (l' := #[.val (.int p1), .val (.int p2), .val (.int p3), .val (.int (((p1 &&& (2147483647 : Int32)).toUInt32 >>> ((p2 &&& (31 : Int32)) &&& 31).toUInt32).toInt32)), .unset, .unset, .unset, .unset, .unset, .unset]) rfl ?_
    show Steps p.tables e below (s₁.setTop (mkF m 10 #[.val (.int p1), .val (.int p2), .val (.int p3), .val (.int (((p1 &&& (2147483647 : Int32)).toUInt32 >>> ((p2 &&& (31 : Int32)) &&& 31).toUInt32).toInt32)), .unset, .unset, .unset, .unset, .unset, .unset] [])) _
    exact kt
  refine OwnG.st sg1 ?_
  obtain ⟨z3_2, hz3_2⟩ : ∃ w : Int32, w = (((p1 &&& (2147483647 : Int32)).toUInt32 >>> ((p2 &&& (31 : Int32)) &&& 31).toUInt32).toInt32) := ⟨_, rfl⟩
  rw [← hz3_2]
  show OwnG p e below s _ _ _ s₁ (mkF m 10 #[.val (.int p1), .val (.int p2), .val (.int p3), .val (.int z3_2), .unset, .unset, .unset, .unset, .unset, .unset] [])
  have sg3 : ∀ tgt, Steps p.tables e below (s₁.setTop (mkF m 13 #[.val (.int p1), .val (.int p2), .val (.int p3), .val (.int z3_2), .unset, .unset, .unset, .unset, .unset, .unset] [(.int (p3 &&& (1 : Int32)))])) tgt → Steps p.tables e below (s₁.setTop (mkF m 10 #[.val (.int p1), .val (.int p2), .val (.int p3), .val (.int z3_2), .unset, .unset, .unset, .unset, .unset, .unset] [])) tgt := by
    intro tgt kt
    refine XS.iloadN X0.here hx rfl (hb hby at_10) rfl ?_
    show Steps p.tables e below (s₁.setTop (mkF m 11 #[.val (.int p1), .val (.int p2), .val (.int p3), .val (.int z3_2), .unset, .unset, .unset, .unset, .unset, .unset] [(.int p3)])) _
    refine XS.iconst X0.here hx rfl (hb hby at_11) ?_
    show Steps p.tables e below (s₁.setTop (mkF m 12 #[.val (.int p1), .val (.int p2), .val (.int p3), .val (.int z3_2), .unset, .unset, .unset, .unset, .unset, .unset] [(.int (1 : Int32)), (.int p3)])) _
    refine XS.iand X0.here hx rfl (hb hby at_12) rfl ?_
    show Steps p.tables e below (s₁.setTop (mkF m 13 #[.val (.int p1), .val (.int p2), .val (.int p3), .val (.int z3_2), .unset, .unset, .unset, .unset, .unset, .unset] [(.int (p3 &&& (1 : Int32)))])) _
    exact kt
  refine OwnG.st sg3 ?_
  obtain ⟨z21_5, hz21_5⟩ : ∃ w : Int32, w = (if (p3 &&& (1 : Int32)) = (0 : Int32) then (0 : Int32) else (1 : Int32)) := ⟨_, rfl⟩
  have dj6 : ∀ tgt, Steps p.tables e below (s₁.setTop (mkF m 21 #[.val (.int p1), .val (.int p2), .val (.int p3), .val (.int z3_2), .unset, .unset, .unset, .unset, .unset, .unset] [(.int z21_5)])) tgt → Steps p.tables e below (s₁.setTop (mkF m 13 #[.val (.int p1), .val (.int p2), .val (.int p3), .val (.int z3_2), .unset, .unset, .unset, .unset, .unset, .unset] [(.int (p3 &&& (1 : Int32)))])) tgt := by
    intro tgt kt
    by_cases hc13_4 : (p3 &&& (1 : Int32)) = (0 : Int32)
    · have qz21_5 : z21_5 = (0 : Int32) := by rw [hz21_5, if_pos hc13_4]
      rw [qz21_5] at kt
      refine XS.ifYes X0.here hx rfl (pc0 := 13) (pc' := 20) rfl (hb hby at_13) rfl ((if0 _ _).trans (teq hc13_4).1) (by decide) (by decide) ?_
      show Steps p.tables e below (s₁.setTop (mkF m 20 #[.val (.int p1), .val (.int p2), .val (.int p3), .val (.int z3_2), .unset, .unset, .unset, .unset, .unset, .unset] [])) _
      refine XS.iconst X0.here hx rfl (hb hby at_20) ?_
      show Steps p.tables e below (s₁.setTop (mkF m 21 #[.val (.int p1), .val (.int p2), .val (.int p3), .val (.int z3_2), .unset, .unset, .unset, .unset, .unset, .unset] [(.int (0 : Int32))])) _
      exact kt
    · have qz21_5 : z21_5 = (1 : Int32) := by rw [hz21_5, if_neg hc13_4]
      rw [qz21_5] at kt
      refine XS.ifNo X0.here hx rfl (hb hby at_13) rfl ((if0 _ _).trans (feq hc13_4).1) ?_
      show Steps p.tables e below (s₁.setTop (mkF m 16 #[.val (.int p1), .val (.int p2), .val (.int p3), .val (.int z3_2), .unset, .unset, .unset, .unset, .unset, .unset] [])) _
      refine XS.iconst X0.here hx rfl (hb hby at_16) ?_
      show Steps p.tables e below (s₁.setTop (mkF m 17 #[.val (.int p1), .val (.int p2), .val (.int p3), .val (.int z3_2), .unset, .unset, .unset, .unset, .unset, .unset] [(.int (1 : Int32))])) _
      refine XS.goto X0.here hx rfl (pc0 := 17) (pc' := 21) rfl (hb hby at_17) (by decide) (by decide) ?_
      show Steps p.tables e below (s₁.setTop (mkF m 21 #[.val (.int p1), .val (.int p2), .val (.int p3), .val (.int z3_2), .unset, .unset, .unset, .unset, .unset, .unset] [(.int (1 : Int32))])) _
      exact kt
  refine OwnG.st dj6 ?_
  have sg7 : ∀ tgt, Steps p.tables e below (s₁.setTop (mkF m 35 #[.val (.int p1), .val (.int p2), .val (.int p3), .val (.int z3_2), .val (.int z21_5), .val (.long (((z3_2.toInt64) + (63 : Int64)) / (64 : Int64))), .second, .unset, .unset, .unset] [])) tgt → Steps p.tables e below (s₁.setTop (mkF m 21 #[.val (.int p1), .val (.int p2), .val (.int p3), .val (.int z3_2), .unset, .unset, .unset, .unset, .unset, .unset] [(.int z21_5)])) tgt := by
    intro tgt kt
    refine XS.istore X0.here hx rfl (hb hby at_21) rfl (l' := #[.val (.int p1), .val (.int p2), .val (.int p3), .val (.int z3_2), .val (.int z21_5), .unset, .unset, .unset, .unset, .unset]) rfl ?_
    show Steps p.tables e below (s₁.setTop (mkF m 23 #[.val (.int p1), .val (.int p2), .val (.int p3), .val (.int z3_2), .val (.int z21_5), .unset, .unset, .unset, .unset, .unset] [])) _
    refine XS.iloadN X0.here hx rfl (hb hby at_23) rfl ?_
    show Steps p.tables e below (s₁.setTop (mkF m 24 #[.val (.int p1), .val (.int p2), .val (.int p3), .val (.int z3_2), .val (.int z21_5), .unset, .unset, .unset, .unset, .unset] [(.int z3_2)])) _
    refine XS.i2l X0.here hx rfl (hb hby at_24) rfl ?_
    show Steps p.tables e below (s₁.setTop (mkF m 25 #[.val (.int p1), .val (.int p2), .val (.int p3), .val (.int z3_2), .val (.int z21_5), .unset, .unset, .unset, .unset, .unset] [(.long (z3_2.toInt64))])) _
    refine X0.ldc2Long hx hown (mvT hZ (hw _ (List.mem_of_getElem? (i := 1) rfl))) (g := (mkF m 25 #[.val (.int p1), .val (.int p2), .val (.int p3), .val (.int z3_2), .val (.int z21_5), .unset, .unset, .unset, .unset, .unset] [(.long (z3_2.toInt64))])) rfl (hb hby at_25) _ ?_
    show Steps p.tables e below (s₁.setTop (mkF m 28 #[.val (.int p1), .val (.int p2), .val (.int p3), .val (.int z3_2), .val (.int z21_5), .unset, .unset, .unset, .unset, .unset] [(.long (63 : Int64)), (.long (z3_2.toInt64))])) _
    refine XS.ladd X0.here hx rfl (hb hby at_28) rfl ?_
    show Steps p.tables e below (s₁.setTop (mkF m 29 #[.val (.int p1), .val (.int p2), .val (.int p3), .val (.int z3_2), .val (.int z21_5), .unset, .unset, .unset, .unset, .unset] [(.long ((z3_2.toInt64) + (63 : Int64)))])) _
    refine X0.ldc2Long hx hown (mvT hZ (hw _ (List.mem_of_getElem? (i := 2) rfl))) (g := (mkF m 29 #[.val (.int p1), .val (.int p2), .val (.int p3), .val (.int z3_2), .val (.int z21_5), .unset, .unset, .unset, .unset, .unset] [(.long ((z3_2.toInt64) + (63 : Int64)))])) rfl (hb hby at_29) _ ?_
    show Steps p.tables e below (s₁.setTop (mkF m 32 #[.val (.int p1), .val (.int p2), .val (.int p3), .val (.int z3_2), .val (.int z21_5), .unset, .unset, .unset, .unset, .unset] [(.long (64 : Int64)), (.long ((z3_2.toInt64) + (63 : Int64)))])) _
    refine XS.ldiv X0.here hx rfl (hb hby at_32) rfl (by decide) ?_
    show Steps p.tables e below (s₁.setTop (mkF m 33 #[.val (.int p1), .val (.int p2), .val (.int p3), .val (.int z3_2), .val (.int z21_5), .unset, .unset, .unset, .unset, .unset] [(.long (((z3_2.toInt64) + (63 : Int64)) / (64 : Int64)))])) _
    refine XS.lstore X0.here hx rfl (hb hby at_33) rfl (l' := #[.val (.int p1), .val (.int p2), .val (.int p3), .val (.int z3_2), .val (.int z21_5), .val (.long (((z3_2.toInt64) + (63 : Int64)) / (64 : Int64))), .second, .unset, .unset, .unset]) rfl ?_
    show Steps p.tables e below (s₁.setTop (mkF m 35 #[.val (.int p1), .val (.int p2), .val (.int p3), .val (.int z3_2), .val (.int z21_5), .val (.long (((z3_2.toInt64) + (63 : Int64)) / (64 : Int64))), .second, .unset, .unset, .unset] [])) _
    exact kt
  refine OwnG.st sg7 ?_
  obtain ⟨z5_8, hz5_8⟩ : ∃ w : Int64, w = (((z3_2.toInt64) + (63 : Int64)) / (64 : Int64)) := ⟨_, rfl⟩
  rw [← hz5_8]
  show OwnG p e below s _ _ _ s₁ (mkF m 35 #[.val (.int p1), .val (.int p2), .val (.int p3), .val (.int z3_2), .val (.int z21_5), .val (.long z5_8), .second, .unset, .unset, .unset] [])
  have sg9 : ∀ tgt, Steps p.tables e below (s₁.setTop (mkF m 39 #[.val (.int p1), .val (.int p2), .val (.int p3), .val (.int z3_2), .val (.int z21_5), .val (.long z5_8), .second, .unset, .unset, .unset] [(.int (z5_8.toInt32)), (.int (1 : Int32))])) tgt → Steps p.tables e below (s₁.setTop (mkF m 35 #[.val (.int p1), .val (.int p2), .val (.int p3), .val (.int z3_2), .val (.int z21_5), .val (.long z5_8), .second, .unset, .unset, .unset] [])) tgt := by
    intro tgt kt
    refine XS.iconst X0.here hx rfl (hb hby at_35) ?_
    show Steps p.tables e below (s₁.setTop (mkF m 36 #[.val (.int p1), .val (.int p2), .val (.int p3), .val (.int z3_2), .val (.int z21_5), .val (.long z5_8), .second, .unset, .unset, .unset] [(.int (1 : Int32))])) _
    refine XS.lload X0.here hx rfl (hb hby at_36) rfl ?_
    show Steps p.tables e below (s₁.setTop (mkF m 38 #[.val (.int p1), .val (.int p2), .val (.int p3), .val (.int z3_2), .val (.int z21_5), .val (.long z5_8), .second, .unset, .unset, .unset] [(.long z5_8), (.int (1 : Int32))])) _
    refine XS.l2i X0.here hx rfl (hb hby at_38) rfl ?_
    show Steps p.tables e below (s₁.setTop (mkF m 39 #[.val (.int p1), .val (.int p2), .val (.int p3), .val (.int z3_2), .val (.int z21_5), .val (.long z5_8), .second, .unset, .unset, .unset] [(.int (z5_8.toInt32)), (.int (1 : Int32))])) _
    exact kt
  refine OwnG.st sg9 ?_
  obtain ⟨_, _, ⟨T10, L10, k10, n10⟩, -, X10, ⟨Lc10, hQ10, l10, y10, z10⟩, st10⟩ := Jvm.LawKit.callS X0 hx (y := (⟨"com/example/prefixd/prefixd/HighestInRangeTableBytesPinLaw", "bitLength", "(I)I"⟩ : MethodName)) hown (mvT hZ (hw _ (List.mem_of_getElem? (i := 3) rfl))) (mvT hZ (hw _ (List.mem_of_getElem? (i := 4) rfl))) (mvT hZ (hw _ (List.mem_of_getElem? (i := 5) rfl))) (mvT hZ (hw _ (List.mem_of_getElem? (i := 6) rfl))) (by decide) (backOf (W := 1) (rm1 l Z a0 hw [] (z5_8.toInt32)  h0 n0 Z0 ) hZ (hw _ (List.mem_of_getElem? (i := 6) rfl)) (hw _ (List.mem_of_getElem? (i := 5) rfl)) (by decide) (by decide)) (g := (mkF m 39 #[.val (.int p1), .val (.int p2), .val (.int p3), .val (.int z3_2), .val (.int z21_5), .val (.long z5_8), .second, .unset, .unset, .unset] [(.int (z5_8.toInt32)), (.int (1 : Int32))])) rfl (by rw [hml]; rfl) (argsL := [(.int (z5_8.toInt32))]) (rest := [(.int (1 : Int32))]) (lenOf pd_0_0 rfl) rfl (by show 2 * 0 + _ ≤ _; exact Nat.le_of_eq rfl) (hb hby at_39) (fun _ _ => ⟨rfl, e0, (by decide : 0 + 0 ≤ _), (by decide : 0 + 0 ≤ _)⟩)
  dsimp only [Pt.U, Pt.locs, Pt.cells, Pt.slots] at X10 l10 y10 z10 st10 hQ10
  subst l10 y10 z10
  obtain ⟨rfl, N10q, e10⟩ := hQ10
  have N10 := Fr.app N0 N10q
  refine OwnG.st (fun t k => st10 t k) ?_
  show OwnG p e below s _ _ _ T10 (mkF m 42 #[.val (.int p1), .val (.int p2), .val (.int p3), .val (.int z3_2), .val (.int z21_5), .val (.long z5_8), .second, .unset, .unset, .unset] [(.int (F1 (z5_8.toInt32))), (.int (1 : Int32))])
  obtain ⟨_, _, ⟨T11, L11, k11, n11⟩, -, X11, ⟨Lc11, hQ11, l11, y11, z11⟩, st11⟩ := Jvm.LawKit.callS X10 hx (y := (⟨"java/lang/Math", "max", "(II)I"⟩ : MethodName)) hown (mvT hZ (hw _ (List.mem_of_getElem? (i := 8) rfl))) (mvT hZ (hw _ (List.mem_of_getElem? (i := 9) rfl))) (mvT hZ (hw _ (List.mem_of_getElem? (i := 10) rfl))) (mvT hZ (hw _ (List.mem_of_getElem? (i := 11) rfl))) (by decide) (backOf (W := 0) (rm2 l Z a0 hw [] (1 : Int32) (F1 (z5_8.toInt32))  h0 n0 Z0 ) hZ (hw _ (List.mem_of_getElem? (i := 11) rfl)) (hw _ (List.mem_of_getElem? (i := 10) rfl)) (by decide) (by decide)) (g := (mkF m 42 #[.val (.int p1), .val (.int p2), .val (.int p3), .val (.int z3_2), .val (.int z21_5), .val (.long z5_8), .second, .unset, .unset, .unset] [(.int (F1 (z5_8.toInt32))), (.int (1 : Int32))])) rfl (by rw [hml]; rfl) (argsL := [(.int (1 : Int32)), (.int (F1 (z5_8.toInt32)))]) (rest := []) (lenOf pd_0_1 rfl) rfl (by show 2 * 0 + _ ≤ _; exact Nat.le_of_eq rfl) (hb hby at_42) (fun _ _ => ⟨rfl, e10, (by decide : 0 + 0 ≤ _), (by decide : 0 + 0 ≤ _)⟩)
  dsimp only [Pt.U, Pt.locs, Pt.cells, Pt.slots] at X11 l11 y11 z11 st11 hQ11
  subst l11 y11 z11
  obtain ⟨rfl, N11q, e11⟩ := hQ11
  have N11 := Fr.app N10 N11q
  refine OwnG.st (fun t k => st11 t k) ?_
  show OwnG p e below s _ _ _ T11 (mkF m 45 #[.val (.int p1), .val (.int p2), .val (.int p3), .val (.int z3_2), .val (.int z21_5), .val (.long z5_8), .second, .unset, .unset, .unset] [(.int (F2 (1 : Int32) (F1 (z5_8.toInt32))))])
  have sg12 : ∀ tgt, Steps p.tables e below (T11.setTop (mkF m 47 #[.val (.int p1), .val (.int p2), .val (.int p3), .val (.int z3_2), .val (.int z21_5), .val (.long z5_8), .second, .val (.int (F2 (1 : Int32) (F1 (z5_8.toInt32)))), .unset, .unset] [])) tgt → Steps p.tables e below (T11.setTop (mkF m 45 #[.val (.int p1), .val (.int p2), .val (.int p3), .val (.int z3_2), .val (.int z21_5), .val (.long z5_8), .second, .unset, .unset, .unset] [(.int (F2 (1 : Int32) (F1 (z5_8.toInt32))))])) tgt := by
    intro tgt kt
    refine XS.istore X11.here hx rfl (hb hby at_45) rfl (l' := #[.val (.int p1), .val (.int p2), .val (.int p3), .val (.int z3_2), .val (.int z21_5), .val (.long z5_8), .second, .val (.int (F2 (1 : Int32) (F1 (z5_8.toInt32)))), .unset, .unset]) rfl ?_
    show Steps p.tables e below (T11.setTop (mkF m 47 #[.val (.int p1), .val (.int p2), .val (.int p3), .val (.int z3_2), .val (.int z21_5), .val (.long z5_8), .second, .val (.int (F2 (1 : Int32) (F1 (z5_8.toInt32)))), .unset, .unset] [])) _
    exact kt
  refine OwnG.st sg12 ?_
  obtain ⟨z7_13, hz7_13⟩ : ∃ w : Int32, w = (F2 (1 : Int32) (F1 (z5_8.toInt32))) := ⟨_, rfl⟩
  rw [← hz7_13]
  show OwnG p e below s _ _ _ T11 (mkF m 47 #[.val (.int p1), .val (.int p2), .val (.int p3), .val (.int z3_2), .val (.int z21_5), .val (.long z5_8), .second, .val (.int z7_13), .unset, .unset] [])
  have sg14 : ∀ tgt, Steps p.tables e below (T11.setTop (mkF m 49 #[.val (.int p1), .val (.int p2), .val (.int p3), .val (.int z3_2), .val (.int z21_5), .val (.long z5_8), .second, .val (.int z7_13), .unset, .unset] [(.int z21_5)])) tgt → Steps p.tables e below (T11.setTop (mkF m 47 #[.val (.int p1), .val (.int p2), .val (.int p3), .val (.int z3_2), .val (.int z21_5), .val (.long z5_8), .second, .val (.int z7_13), .unset, .unset] [])) tgt := by
    intro tgt kt
    refine XS.iload X11.here hx rfl (hb hby at_47) rfl ?_
    show Steps p.tables e below (T11.setTop (mkF m 49 #[.val (.int p1), .val (.int p2), .val (.int p3), .val (.int z3_2), .val (.int z21_5), .val (.long z5_8), .second, .val (.int z7_13), .unset, .unset] [(.int z21_5)])) _
    exact kt
  refine OwnG.st sg14 ?_
  obtain ⟨z62_16, hz62_16⟩ : ∃ w : Int64, w = (if z21_5 = (0 : Int32) then (0 : Int64) else ((8 : Int64) * z5_8)) := ⟨_, rfl⟩
  have dj17 : ∀ tgt, Steps p.tables e below (T11.setTop (mkF m 62 #[.val (.int p1), .val (.int p2), .val (.int p3), .val (.int z3_2), .val (.int z21_5), .val (.long z5_8), .second, .val (.int z7_13), .unset, .unset] [(.long z62_16)])) tgt → Steps p.tables e below (T11.setTop (mkF m 49 #[.val (.int p1), .val (.int p2), .val (.int p3), .val (.int z3_2), .val (.int z21_5), .val (.long z5_8), .second, .val (.int z7_13), .unset, .unset] [(.int z21_5)])) tgt := by
    intro tgt kt
    by_cases hc49_15 : z21_5 = (0 : Int32)
    · have qz62_16 : z62_16 = (0 : Int64) := by rw [hz62_16, if_pos hc49_15]
      rw [qz62_16] at kt
      refine XS.ifYes X11.here hx rfl (pc0 := 49) (pc' := 61) rfl (hb hby at_49) rfl ((if0 _ _).trans (teq hc49_15).1) (by decide) (by decide) ?_
      show Steps p.tables e below (T11.setTop (mkF m 61 #[.val (.int p1), .val (.int p2), .val (.int p3), .val (.int z3_2), .val (.int z21_5), .val (.long z5_8), .second, .val (.int z7_13), .unset, .unset] [])) _
      refine XS.lconst X11.here hx rfl (hb hby at_61) ?_
      show Steps p.tables e below (T11.setTop (mkF m 62 #[.val (.int p1), .val (.int p2), .val (.int p3), .val (.int z3_2), .val (.int z21_5), .val (.long z5_8), .second, .val (.int z7_13), .unset, .unset] [(.long (0 : Int64))])) _
      exact kt
    · have qz62_16 : z62_16 = ((8 : Int64) * z5_8) := by rw [hz62_16, if_neg hc49_15]
      rw [qz62_16] at kt
      refine XS.ifNo X11.here hx rfl (hb hby at_49) rfl ((if0 _ _).trans (feq hc49_15).1) ?_
      show Steps p.tables e below (T11.setTop (mkF m 52 #[.val (.int p1), .val (.int p2), .val (.int p3), .val (.int z3_2), .val (.int z21_5), .val (.long z5_8), .second, .val (.int z7_13), .unset, .unset] [])) _
      refine X11.ldc2Long hx hown (mvT hZ (hw _ (List.mem_of_getElem? (i := 12) rfl))) (g := (mkF m 52 #[.val (.int p1), .val (.int p2), .val (.int p3), .val (.int z3_2), .val (.int z21_5), .val (.long z5_8), .second, .val (.int z7_13), .unset, .unset] [])) rfl (hb hby at_52) _ ?_
      show Steps p.tables e below (T11.setTop (mkF m 55 #[.val (.int p1), .val (.int p2), .val (.int p3), .val (.int z3_2), .val (.int z21_5), .val (.long z5_8), .second, .val (.int z7_13), .unset, .unset] [(.long (8 : Int64))])) _
      refine XS.lload X11.here hx rfl (hb hby at_55) rfl ?_
      show Steps p.tables e below (T11.setTop (mkF m 57 #[.val (.int p1), .val (.int p2), .val (.int p3), .val (.int z3_2), .val (.int z21_5), .val (.long z5_8), .second, .val (.int z7_13), .unset, .unset] [(.long z5_8), (.long (8 : Int64))])) _
      refine XS.lmul X11.here hx rfl (hb hby at_57) rfl ?_
      show Steps p.tables e below (T11.setTop (mkF m 58 #[.val (.int p1), .val (.int p2), .val (.int p3), .val (.int z3_2), .val (.int z21_5), .val (.long z5_8), .second, .val (.int z7_13), .unset, .unset] [(.long ((8 : Int64) * z5_8))])) _
      refine XS.goto X11.here hx rfl (pc0 := 58) (pc' := 62) rfl (hb hby at_58) (by decide) (by decide) ?_
      show Steps p.tables e below (T11.setTop (mkF m 62 #[.val (.int p1), .val (.int p2), .val (.int p3), .val (.int z3_2), .val (.int z21_5), .val (.long z5_8), .second, .val (.int z7_13), .unset, .unset] [(.long ((8 : Int64) * z5_8))])) _
      exact kt
  refine OwnG.st dj17 ?_
  have sg18 : ∀ tgt, Steps p.tables e below (T11.setTop (mkF m 99 #[.val (.int p1), .val (.int p2), .val (.int p3), .val (.int z3_2), .val (.int z21_5), .val (.long z5_8), .second, .val (.int z7_13), .val (.long (((z62_16 + ((8 : Int64) * (z7_13.toInt64))) + (((4 : Int64) * (z7_13.toInt64)) * (z5_8 + (1 : Int64)))) - ((4 : Int64) * (((1 : Int64) <<< (z7_13 &&& 0x3f).toInt64) - (1 : Int64))))), .second] [(.int z21_5), (.int z3_2)])) tgt → Steps p.tables e below (T11.setTop (mkF m 62 #[.val (.int p1), .val (.int p2), .val (.int p3), .val (.int z3_2), .val (.int z21_5), .val (.long z5_8), .second, .val (.int z7_13), .unset, .unset] [(.long z62_16)])) tgt := by
    intro tgt kt
    refine X11.ldc2Long hx hown (mvT hZ (hw _ (List.mem_of_getElem? (i := 12) rfl))) (g := (mkF m 62 #[.val (.int p1), .val (.int p2), .val (.int p3), .val (.int z3_2), .val (.int z21_5), .val (.long z5_8), .second, .val (.int z7_13), .unset, .unset] [(.long z62_16)])) rfl (hb hby at_62) _ ?_
    show Steps p.tables e below (T11.setTop (mkF m 65 #[.val (.int p1), .val (.int p2), .val (.int p3), .val (.int z3_2), .val (.int z21_5), .val (.long z5_8), .second, .val (.int z7_13), .unset, .unset] [(.long (8 : Int64)), (.long z62_16)])) _
    refine XS.iload X11.here hx rfl (hb hby at_65) rfl ?_
    show Steps p.tables e below (T11.setTop (mkF m 67 #[.val (.int p1), .val (.int p2), .val (.int p3), .val (.int z3_2), .val (.int z21_5), .val (.long z5_8), .second, .val (.int z7_13), .unset, .unset] [(.int z7_13), (.long (8 : Int64)), (.long z62_16)])) _
    refine XS.i2l X11.here hx rfl (hb hby at_67) rfl ?_
    show Steps p.tables e below (T11.setTop (mkF m 68 #[.val (.int p1), .val (.int p2), .val (.int p3), .val (.int z3_2), .val (.int z21_5), .val (.long z5_8), .second, .val (.int z7_13), .unset, .unset] [(.long (z7_13.toInt64)), (.long (8 : Int64)), (.long z62_16)])) _
    refine XS.lmul X11.here hx rfl (hb hby at_68) rfl ?_
    show Steps p.tables e below (T11.setTop (mkF m 69 #[.val (.int p1), .val (.int p2), .val (.int p3), .val (.int z3_2), .val (.int z21_5), .val (.long z5_8), .second, .val (.int z7_13), .unset, .unset] [(.long ((8 : Int64) * (z7_13.toInt64))), (.long z62_16)])) _
    refine XS.ladd X11.here hx rfl (hb hby at_69) rfl ?_
    show Steps p.tables e below (T11.setTop (mkF m 70 #[.val (.int p1), .val (.int p2), .val (.int p3), .val (.int z3_2), .val (.int z21_5), .val (.long z5_8), .second, .val (.int z7_13), .unset, .unset] [(.long (z62_16 + ((8 : Int64) * (z7_13.toInt64))))])) _
    refine X11.ldc2Long hx hown (mvT hZ (hw _ (List.mem_of_getElem? (i := 13) rfl))) (g := (mkF m 70 #[.val (.int p1), .val (.int p2), .val (.int p3), .val (.int z3_2), .val (.int z21_5), .val (.long z5_8), .second, .val (.int z7_13), .unset, .unset] [(.long (z62_16 + ((8 : Int64) * (z7_13.toInt64))))])) rfl (hb hby at_70) _ ?_
    show Steps p.tables e below (T11.setTop (mkF m 73 #[.val (.int p1), .val (.int p2), .val (.int p3), .val (.int z3_2), .val (.int z21_5), .val (.long z5_8), .second, .val (.int z7_13), .unset, .unset] [(.long (4 : Int64)), (.long (z62_16 + ((8 : Int64) * (z7_13.toInt64))))])) _
    refine XS.iload X11.here hx rfl (hb hby at_73) rfl ?_
    show Steps p.tables e below (T11.setTop (mkF m 75 #[.val (.int p1), .val (.int p2), .val (.int p3), .val (.int z3_2), .val (.int z21_5), .val (.long z5_8), .second, .val (.int z7_13), .unset, .unset] [(.int z7_13), (.long (4 : Int64)), (.long (z62_16 + ((8 : Int64) * (z7_13.toInt64))))])) _
    refine XS.i2l X11.here hx rfl (hb hby at_75) rfl ?_
    show Steps p.tables e below (T11.setTop (mkF m 76 #[.val (.int p1), .val (.int p2), .val (.int p3), .val (.int z3_2), .val (.int z21_5), .val (.long z5_8), .second, .val (.int z7_13), .unset, .unset] [(.long (z7_13.toInt64)), (.long (4 : Int64)), (.long (z62_16 + ((8 : Int64) * (z7_13.toInt64))))])) _
    refine XS.lmul X11.here hx rfl (hb hby at_76) rfl ?_
    show Steps p.tables e below (T11.setTop (mkF m 77 #[.val (.int p1), .val (.int p2), .val (.int p3), .val (.int z3_2), .val (.int z21_5), .val (.long z5_8), .second, .val (.int z7_13), .unset, .unset] [(.long ((4 : Int64) * (z7_13.toInt64))), (.long (z62_16 + ((8 : Int64) * (z7_13.toInt64))))])) _
    refine XS.lload X11.here hx rfl (hb hby at_77) rfl ?_
    show Steps p.tables e below (T11.setTop (mkF m 79 #[.val (.int p1), .val (.int p2), .val (.int p3), .val (.int z3_2), .val (.int z21_5), .val (.long z5_8), .second, .val (.int z7_13), .unset, .unset] [(.long z5_8), (.long ((4 : Int64) * (z7_13.toInt64))), (.long (z62_16 + ((8 : Int64) * (z7_13.toInt64))))])) _
    refine XS.lconst X11.here hx rfl (hb hby at_79) ?_
    show Steps p.tables e below (T11.setTop (mkF m 80 #[.val (.int p1), .val (.int p2), .val (.int p3), .val (.int z3_2), .val (.int z21_5), .val (.long z5_8), .second, .val (.int z7_13), .unset, .unset] [(.long (1 : Int64)), (.long z5_8), (.long ((4 : Int64) * (z7_13.toInt64))), (.long (z62_16 + ((8 : Int64) * (z7_13.toInt64))))])) _
    refine XS.ladd X11.here hx rfl (hb hby at_80) rfl ?_
    show Steps p.tables e below (T11.setTop (mkF m 81 #[.val (.int p1), .val (.int p2), .val (.int p3), .val (.int z3_2), .val (.int z21_5), .val (.long z5_8), .second, .val (.int z7_13), .unset, .unset] [(.long (z5_8 + (1 : Int64))), (.long ((4 : Int64) * (z7_13.toInt64))), (.long (z62_16 + ((8 : Int64) * (z7_13.toInt64))))])) _
    refine XS.lmul X11.here hx rfl (hb hby at_81) rfl ?_
    show Steps p.tables e below (T11.setTop (mkF m 82 #[.val (.int p1), .val (.int p2), .val (.int p3), .val (.int z3_2), .val (.int z21_5), .val (.long z5_8), .second, .val (.int z7_13), .unset, .unset] [(.long (((4 : Int64) * (z7_13.toInt64)) * (z5_8 + (1 : Int64)))), (.long (z62_16 + ((8 : Int64) * (z7_13.toInt64))))])) _
    refine XS.ladd X11.here hx rfl (hb hby at_82) rfl ?_
    show Steps p.tables e below (T11.setTop (mkF m 83 #[.val (.int p1), .val (.int p2), .val (.int p3), .val (.int z3_2), .val (.int z21_5), .val (.long z5_8), .second, .val (.int z7_13), .unset, .unset] [(.long ((z62_16 + ((8 : Int64) * (z7_13.toInt64))) + (((4 : Int64) * (z7_13.toInt64)) * (z5_8 + (1 : Int64)))))])) _
    refine X11.ldc2Long hx hown (mvT hZ (hw _ (List.mem_of_getElem? (i := 13) rfl))) (g := (mkF m 83 #[.val (.int p1), .val (.int p2), .val (.int p3), .val (.int z3_2), .val (.int z21_5), .val (.long z5_8), .second, .val (.int z7_13), .unset, .unset] [(.long ((z62_16 + ((8 : Int64) * (z7_13.toInt64))) + (((4 : Int64) * (z7_13.toInt64)) * (z5_8 + (1 : Int64)))))])) rfl (hb hby at_83) _ ?_
    show Steps p.tables e below (T11.setTop (mkF m 86 #[.val (.int p1), .val (.int p2), .val (.int p3), .val (.int z3_2), .val (.int z21_5), .val (.long z5_8), .second, .val (.int z7_13), .unset, .unset] [(.long (4 : Int64)), (.long ((z62_16 + ((8 : Int64) * (z7_13.toInt64))) + (((4 : Int64) * (z7_13.toInt64)) * (z5_8 + (1 : Int64)))))])) _
    refine XS.lconst X11.here hx rfl (hb hby at_86) ?_
    show Steps p.tables e below (T11.setTop (mkF m 87 #[.val (.int p1), .val (.int p2), .val (.int p3), .val (.int z3_2), .val (.int z21_5), .val (.long z5_8), .second, .val (.int z7_13), .unset, .unset] [(.long (1 : Int64)), (.long (4 : Int64)), (.long ((z62_16 + ((8 : Int64) * (z7_13.toInt64))) + (((4 : Int64) * (z7_13.toInt64)) * (z5_8 + (1 : Int64)))))])) _
    refine XS.iload X11.here hx rfl (hb hby at_87) rfl ?_
    show Steps p.tables e below (T11.setTop (mkF m 89 #[.val (.int p1), .val (.int p2), .val (.int p3), .val (.int z3_2), .val (.int z21_5), .val (.long z5_8), .second, .val (.int z7_13), .unset, .unset] [(.int z7_13), (.long (1 : Int64)), (.long (4 : Int64)), (.long ((z62_16 + ((8 : Int64) * (z7_13.toInt64))) + (((4 : Int64) * (z7_13.toInt64)) * (z5_8 + (1 : Int64)))))])) _
    refine XS.lshl X11.here hx rfl (hb hby at_89) rfl ?_
    show Steps p.tables e below (T11.setTop (mkF m 90 #[.val (.int p1), .val (.int p2), .val (.int p3), .val (.int z3_2), .val (.int z21_5), .val (.long z5_8), .second, .val (.int z7_13), .unset, .unset] [(.long ((1 : Int64) <<< (z7_13 &&& 0x3f).toInt64)), (.long (4 : Int64)), (.long ((z62_16 + ((8 : Int64) * (z7_13.toInt64))) + (((4 : Int64) * (z7_13.toInt64)) * (z5_8 + (1 : Int64)))))])) _
    refine XS.lconst X11.here hx rfl (hb hby at_90) ?_
    show Steps p.tables e below (T11.setTop (mkF m 91 #[.val (.int p1), .val (.int p2), .val (.int p3), .val (.int z3_2), .val (.int z21_5), .val (.long z5_8), .second, .val (.int z7_13), .unset, .unset] [(.long (1 : Int64)), (.long ((1 : Int64) <<< (z7_13 &&& 0x3f).toInt64)), (.long (4 : Int64)), (.long ((z62_16 + ((8 : Int64) * (z7_13.toInt64))) + (((4 : Int64) * (z7_13.toInt64)) * (z5_8 + (1 : Int64)))))])) _
    refine XS.lsub X11.here hx rfl (hb hby at_91) rfl ?_
    show Steps p.tables e below (T11.setTop (mkF m 92 #[.val (.int p1), .val (.int p2), .val (.int p3), .val (.int z3_2), .val (.int z21_5), .val (.long z5_8), .second, .val (.int z7_13), .unset, .unset] [(.long (((1 : Int64) <<< (z7_13 &&& 0x3f).toInt64) - (1 : Int64))), (.long (4 : Int64)), (.long ((z62_16 + ((8 : Int64) * (z7_13.toInt64))) + (((4 : Int64) * (z7_13.toInt64)) * (z5_8 + (1 : Int64)))))])) _
    refine XS.lmul X11.here hx rfl (hb hby at_92) rfl ?_
    show Steps p.tables e below (T11.setTop (mkF m 93 #[.val (.int p1), .val (.int p2), .val (.int p3), .val (.int z3_2), .val (.int z21_5), .val (.long z5_8), .second, .val (.int z7_13), .unset, .unset] [(.long ((4 : Int64) * (((1 : Int64) <<< (z7_13 &&& 0x3f).toInt64) - (1 : Int64)))), (.long ((z62_16 + ((8 : Int64) * (z7_13.toInt64))) + (((4 : Int64) * (z7_13.toInt64)) * (z5_8 + (1 : Int64)))))])) _
    refine XS.lsub X11.here hx rfl (hb hby at_93) rfl ?_
    show Steps p.tables e below (T11.setTop (mkF m 94 #[.val (.int p1), .val (.int p2), .val (.int p3), .val (.int z3_2), .val (.int z21_5), .val (.long z5_8), .second, .val (.int z7_13), .unset, .unset] [(.long (((z62_16 + ((8 : Int64) * (z7_13.toInt64))) + (((4 : Int64) * (z7_13.toInt64)) * (z5_8 + (1 : Int64)))) - ((4 : Int64) * (((1 : Int64) <<< (z7_13 &&& 0x3f).toInt64) - (1 : Int64)))))])) _
    refine XS.lstore X11.here hx rfl (hb hby at_94) rfl (l' := #[.val (.int p1), .val (.int p2), .val (.int p3), .val (.int z3_2), .val (.int z21_5), .val (.long z5_8), .second, .val (.int z7_13), .val (.long (((z62_16 + ((8 : Int64) * (z7_13.toInt64))) + (((4 : Int64) * (z7_13.toInt64)) * (z5_8 + (1 : Int64)))) - ((4 : Int64) * (((1 : Int64) <<< (z7_13 &&& 0x3f).toInt64) - (1 : Int64))))), .second]) rfl ?_
    show Steps p.tables e below (T11.setTop (mkF m 96 #[.val (.int p1), .val (.int p2), .val (.int p3), .val (.int z3_2), .val (.int z21_5), .val (.long z5_8), .second, .val (.int z7_13), .val (.long (((z62_16 + ((8 : Int64) * (z7_13.toInt64))) + (((4 : Int64) * (z7_13.toInt64)) * (z5_8 + (1 : Int64)))) - ((4 : Int64) * (((1 : Int64) <<< (z7_13 &&& 0x3f).toInt64) - (1 : Int64))))), .second] [])) _
    refine XS.iloadN X11.here hx rfl (hb hby at_96) rfl ?_
    show Steps p.tables e below (T11.setTop (mkF m 97 #[.val (.int p1), .val (.int p2), .val (.int p3), .val (.int z3_2), .val (.int z21_5), .val (.long z5_8), .second, .val (.int z7_13), .val (.long (((z62_16 + ((8 : Int64) * (z7_13.toInt64))) + (((4 : Int64) * (z7_13.toInt64)) * (z5_8 + (1 : Int64)))) - ((4 : Int64) * (((1 : Int64) <<< (z7_13 &&& 0x3f).toInt64) - (1 : Int64))))), .second] [(.int z3_2)])) _
    refine XS.iload X11.here hx rfl (hb hby at_97) rfl ?_
    show Steps p.tables e below (T11.setTop (mkF m 99 #[.val (.int p1), .val (.int p2), .val (.int p3), .val (.int z3_2), .val (.int z21_5), .val (.long z5_8), .second, .val (.int z7_13), .val (.long (((z62_16 + ((8 : Int64) * (z7_13.toInt64))) + (((4 : Int64) * (z7_13.toInt64)) * (z5_8 + (1 : Int64)))) - ((4 : Int64) * (((1 : Int64) <<< (z7_13 &&& 0x3f).toInt64) - (1 : Int64))))), .second] [(.int z21_5), (.int z3_2)])) _
    exact kt
  refine OwnG.st sg18 ?_
  obtain ⟨_, _, ⟨T19, L19, k19, n19⟩, -, X19, ⟨Lc19, hQ19, l19, y19, z19⟩, st19⟩ := Jvm.LawKit.callS X11 hx (y := (⟨"com/example/prefixd/prefixd/HighestInRange", "tableBytes", "(IZ)J"⟩ : MethodName)) hown (mvT hZ (hw _ (List.mem_of_getElem? (i := 14) rfl))) (mvT hZ (hw _ (List.mem_of_getElem? (i := 15) rfl))) (mvT hZ (hw _ (List.mem_of_getElem? (i := 16) rfl))) (mvT hZ (hw _ (List.mem_of_getElem? (i := 17) rfl))) (by decide) (backOf (W := 0) (rm3 l Z a0 hw [] z3_2 z21_5  h0 n0 Z0 ) hZ (hw _ (List.mem_of_getElem? (i := 17) rfl)) (hw _ (List.mem_of_getElem? (i := 16) rfl)) (by decide) (by decide)) (g := (mkF m 99 #[.val (.int p1), .val (.int p2), .val (.int p3), .val (.int z3_2), .val (.int z21_5), .val (.long z5_8), .second, .val (.int z7_13), .val (.long (((z62_16 + ((8 : Int64) * (z7_13.toInt64))) + (((4 : Int64) * (z7_13.toInt64)) * (z5_8 + (1 : Int64)))) - ((4 : Int64) * (((1 : Int64) <<< (z7_13 &&& 0x3f).toInt64) - (1 : Int64))))), .second] [(.int z21_5), (.int z3_2)])) rfl (by rw [hml]; rfl) (argsL := [(.int z3_2), (.int z21_5)]) (rest := []) (lenOf pd_0_2 rfl) rfl (by show 2 * 0 + _ ≤ _; exact Nat.le_of_eq rfl) (hb hby at_99) (fun _ _ => ⟨rfl, e11, (by decide : 0 + 0 ≤ _), (by decide : 0 + 0 ≤ _)⟩)
  dsimp only [Pt.U, Pt.locs, Pt.cells, Pt.slots] at X19 l19 y19 z19 st19 hQ19
  subst l19 y19 z19
  obtain ⟨rfl, N19q, e19⟩ := hQ19
  have N19 := Fr.app N11 N19q
  refine OwnG.st (fun t k => st19 t k) ?_
  show OwnG p e below s _ _ _ T19 (mkF m 102 #[.val (.int p1), .val (.int p2), .val (.int p3), .val (.int z3_2), .val (.int z21_5), .val (.long z5_8), .second, .val (.int z7_13), .val (.long (((z62_16 + ((8 : Int64) * (z7_13.toInt64))) + (((4 : Int64) * (z7_13.toInt64)) * (z5_8 + (1 : Int64)))) - ((4 : Int64) * (((1 : Int64) <<< (z7_13 &&& 0x3f).toInt64) - (1 : Int64))))), .second] [(.long (F3 z3_2 z21_5))])
  have hc105_20 : (F3 z3_2 z21_5) = (((z62_16 + ((8 : Int64) * (z7_13.toInt64))) + (((4 : Int64) * (z7_13.toInt64)) * (z5_8 + (1 : Int64)))) - ((4 : Int64) * (((1 : Int64) <<< (z7_13 &&& 0x3f).toInt64) - (1 : Int64)))) := by rw [hz62_16]; exact own_fin _ _ _ _ (by rw [hz3_2]; exact own_size _ _) hz5_8 hz7_13
  have sg21 : ∀ tgt, Steps p.tables e below (T19.setTop (mkF m 113 #[.val (.int p1), .val (.int p2), .val (.int p3), .val (.int z3_2), .val (.int z21_5), .val (.long z5_8), .second, .val (.int z7_13), .val (.long (((z62_16 + ((8 : Int64) * (z7_13.toInt64))) + (((4 : Int64) * (z7_13.toInt64)) * (z5_8 + (1 : Int64)))) - ((4 : Int64) * (((1 : Int64) <<< (z7_13 &&& 0x3f).toInt64) - (1 : Int64))))), .second] [(.int (1 : Int32))])) tgt → Steps p.tables e below (T19.setTop (mkF m 102 #[.val (.int p1), .val (.int p2), .val (.int p3), .val (.int z3_2), .val (.int z21_5), .val (.long z5_8), .second, .val (.int z7_13), .val (.long (((z62_16 + ((8 : Int64) * (z7_13.toInt64))) + (((4 : Int64) * (z7_13.toInt64)) * (z5_8 + (1 : Int64)))) - ((4 : Int64) * (((1 : Int64) <<< (z7_13 &&& 0x3f).toInt64) - (1 : Int64))))), .second] [(.long (F3 z3_2 z21_5))])) tgt := by
    intro tgt kt
    refine XS.lload X19.here hx rfl (hb hby at_102) rfl ?_
    show Steps p.tables e below (T19.setTop (mkF m 104 #[.val (.int p1), .val (.int p2), .val (.int p3), .val (.int z3_2), .val (.int z21_5), .val (.long z5_8), .second, .val (.int z7_13), .val (.long (((z62_16 + ((8 : Int64) * (z7_13.toInt64))) + (((4 : Int64) * (z7_13.toInt64)) * (z5_8 + (1 : Int64)))) - ((4 : Int64) * (((1 : Int64) <<< (z7_13 &&& 0x3f).toInt64) - (1 : Int64))))), .second] [(.long (((z62_16 + ((8 : Int64) * (z7_13.toInt64))) + (((4 : Int64) * (z7_13.toInt64)) * (z5_8 + (1 : Int64)))) - ((4 : Int64) * (((1 : Int64) <<< (z7_13 &&& 0x3f).toInt64) - (1 : Int64))))), (.long (F3 z3_2 z21_5))])) _
    refine XS.lcmp X19.here hx rfl (hb hby at_104) rfl ?_
    show Steps p.tables e below (T19.setTop (mkF m 105 #[.val (.int p1), .val (.int p2), .val (.int p3), .val (.int z3_2), .val (.int z21_5), .val (.long z5_8), .second, .val (.int z7_13), .val (.long (((z62_16 + ((8 : Int64) * (z7_13.toInt64))) + (((4 : Int64) * (z7_13.toInt64)) * (z5_8 + (1 : Int64)))) - ((4 : Int64) * (((1 : Int64) <<< (z7_13 &&& 0x3f).toInt64) - (1 : Int64))))), .second] [(.int (lcmpW (F3 z3_2 z21_5) (((z62_16 + ((8 : Int64) * (z7_13.toInt64))) + (((4 : Int64) * (z7_13.toInt64)) * (z5_8 + (1 : Int64)))) - ((4 : Int64) * (((1 : Int64) <<< (z7_13 &&& 0x3f).toInt64) - (1 : Int64))))))])) _
    refine XS.ifNo X19.here hx rfl (hb hby at_105) rfl ((if0 _ _).trans (teq ((lw_eq (F3 z3_2 z21_5) (((z62_16 + ((8 : Int64) * (z7_13.toInt64))) + (((4 : Int64) * (z7_13.toInt64)) * (z5_8 + (1 : Int64)))) - ((4 : Int64) * (((1 : Int64) <<< (z7_13 &&& 0x3f).toInt64) - (1 : Int64))))).mpr hc105_20)).2) ?_
    show Steps p.tables e below (T19.setTop (mkF m 108 #[.val (.int p1), .val (.int p2), .val (.int p3), .val (.int z3_2), .val (.int z21_5), .val (.long z5_8), .second, .val (.int z7_13), .val (.long (((z62_16 + ((8 : Int64) * (z7_13.toInt64))) + (((4 : Int64) * (z7_13.toInt64)) * (z5_8 + (1 : Int64)))) - ((4 : Int64) * (((1 : Int64) <<< (z7_13 &&& 0x3f).toInt64) - (1 : Int64))))), .second] [])) _
    refine XS.iconst X19.here hx rfl (hb hby at_108) ?_
    show Steps p.tables e below (T19.setTop (mkF m 109 #[.val (.int p1), .val (.int p2), .val (.int p3), .val (.int z3_2), .val (.int z21_5), .val (.long z5_8), .second, .val (.int z7_13), .val (.long (((z62_16 + ((8 : Int64) * (z7_13.toInt64))) + (((4 : Int64) * (z7_13.toInt64)) * (z5_8 + (1 : Int64)))) - ((4 : Int64) * (((1 : Int64) <<< (z7_13 &&& 0x3f).toInt64) - (1 : Int64))))), .second] [(.int (1 : Int32))])) _
    refine XS.goto X19.here hx rfl (pc0 := 109) (pc' := 113) rfl (hb hby at_109) (by decide) (by decide) ?_
    show Steps p.tables e below (T19.setTop (mkF m 113 #[.val (.int p1), .val (.int p2), .val (.int p3), .val (.int z3_2), .val (.int z21_5), .val (.long z5_8), .second, .val (.int z7_13), .val (.long (((z62_16 + ((8 : Int64) * (z7_13.toInt64))) + (((4 : Int64) * (z7_13.toInt64)) * (z5_8 + (1 : Int64)))) - ((4 : Int64) * (((1 : Int64) <<< (z7_13 &&& 0x3f).toInt64) - (1 : Int64))))), .second] [(.int (1 : Int32))])) _
    exact kt
  refine OwnG.st sg21 ?_
  have hv : (1 : Int32) = 1 := rfl
  exact OwnG.retN X19 hx (t := .boolean) (by simp) Bd.returns (BodyLoose.notSynchronized Bd) (hb hby at_113) ⟨congrArg (fun w => some (Value.int (nar .boolean w))) hv, N19⟩ (by decide) (by decide)
set_option maxRecDepth 65536 in
set_option maxHeartbeats 40000000 in
theorem comes_1 {Post : Tables → Env → Array Value → State → Outcome → State → Prop} (hpost : ∀ tb e args s v u, (limb_1_1.after args s (.returned v) u = true ∧ limb_1_2.after args s (.returned v) u = true ∧ True) → FrameEnd s (.returned v) u (Jvm.fieldLocs frame_1_writes args s ++ Jvm.arrayLocs frame_1_arrays args s ++ Jvm.staticLocs frame_1_statics s) 0 0 → Post tb e args s (.returned v) u) :
    ArmFor flags0 classFile x code maxLocals ret World_1 tables_1 room_1 Calls_1 rest_1 Pre_1 Post := by
  intro l hfl _ _ p e ha hc hk s m args below hf hA hF happ hP
  obtain ⟨hcalls, hrest, hpre⟩ := hP
  obtain ⟨-, -, -, hnamed, -, -, -, hat⟩ := (Spec.applies_iff hf).mp happ
  obtain ⟨hg, hn⟩ := and_e (Cond.before_iff.mp (show (Jvm.Cond.and given_1 narrow_1).before args s = true from hpre))
  obtain ⟨g1, g2⟩ := and_e hg
  obtain ⟨g3, g4⟩ := and_e g2
  obtain ⟨g5, g6⟩ := and_e g4
  obtain ⟨w0, w1, w2, rfl⟩ : ∃ w0 w1 w2 : Value, args = #[w0, w1, w2] := by
    have hs : args.size = 3 := by simpa [Cond.value, given_1] using g1
    obtain ⟨L⟩ := args
    match L, hs with
    | [w0, w1, w2], _ => exact ⟨w0, w1, w2, rfl⟩
  have hw := fun d (hd : d ∈ tables_1) => atoms_spec (ws := Jvm.Cond.code x code maxLocals ret :: tables_1) hat d (List.mem_cons_of_mem _ hd)
  obtain ⟨i0, ei0⟩ := is_v g3
  obtain rfl : w0 = (.int i0) := Option.some.inj ei0
  obtain ⟨i1, ei1⟩ := is_v g5
  obtain rfl : w1 = (.int i1) := Option.some.inj ei1
  obtain ⟨i2, ei2⟩ := is_v g6
  obtain rfl : w2 = (.int i2) := Option.some.inj ei2
  obtain ⟨n, o, h1, h2, h3, _, L, rfl, ⟨rfl, N⟩, hq⟩ := rm0 l s _ hw tables_1 i0 i1 i2  s.heap s.heap.size (Nat.le_refl _)  p e ha hc hk s m _ below hf ((Spec.applies_iff_loose hf).mp happ).1 ⟨rfl, State.Warmed39.refl s, rfl⟩ trivial
  refine ⟨n, _, h1, h2, h3, hpost _ _ _ _ _ _ ⟨Cond.after_iff.mpr rfl, Cond.after_iff.mpr (eq_i res_at (Term.int_eval (1)) rfl), trivial⟩ ⟨hq.1, hq.2.1, (hq.2.2.sift fun y hy => Or.inr (N y hy)).mono (by decide) (by decide)⟩⟩
theorem main_1_1 : Claimed_1_1 := comes_1 fun _ _ _ _ _ _ h hF => ⟨h.1, hF⟩
theorem main_1_2 : Claimed_1_2 := comes_1 fun _ _ _ _ _ _ h hF => ⟨h.2.1, hF⟩
end Jvm.Pilot.@@N@@
namespace Jvm.Pilot.@@N@@
open Jvm Jvm.ClassFile Sem Op Lib Jvm.Free Jvm.Stand Jvm.Pilot.@@N@@.Jvm.D
/-! MADE BY PROGRAM (witnessworld.py) out of the Statement's table words and the real class files: 15 classes; the members and pool entries that the words name. The judged class is class 1, her method 1. -/
namespace start1
open Jvm.ClassFile
def u (s : String) : CpInfo := .utf8 (stringToUtf16 s)
/-- a pool by its gaps: so many unusable entries, then the entry; so many at the end -/
def gap : Nat → List CpInfo → List CpInfo
  | 0, r => r
  | n + 1, r => .unusable :: gap n r
def poolList (es : List (Nat × CpInfo)) (last : Nat) : List CpInfo := es.foldr (fun e r => gap e.1 (e.2 :: r)) (gap last [])
def pool (es : List (Nat × CpInfo)) (last : Nat) : Array CpInfo := ⟨poolList es last⟩
def fileOf (pool : Array CpInfo) (this : Nat) (attrs : Array Attribute := #[]) (ms : Array MethodInfo := #[]) (fl : Nat := 33) (sup : Nat := 0) (ifs : Array Nat := #[]) (fds : Array FieldInfo := #[]) : ClassFile where
  minorVersion := 0
  majorVersion := 65
  constantPool := pool
  accessFlags := fl
  thisClass := this
  superClass := sup
  interfaces := ifs
  fields := fds
  methods := ms
  attributes := attrs
def plain (name : String) (sup : Option ClassId) : Class where
  name := name
  kind := .ordinary
  loader := none
  accessFlags := 33
  super := sup
  interfaces := #[]
  cf := none
  fields := #[]
  methods := #[]
  instanceTypes := #[]
  staticTypes := #[]
  resolved := #[]
  callSites := []
  init := .initialized
  statics := none
  mirror := none

def pool0 : Array CpInfo := pool [(5, u "<init>"), (0, u "()V"), (1, .class_ 10), (1, u "java/lang/Object")] 113

def k0m0 : Method := { name := "<init>", desc := "()V", sig := { parameters := [], returnType := none }, accessFlags := 1, code := none }
/-- java/lang/Object -/
def k0 : Class := { plain "java/lang/Object" none with
  accessFlags := 33
  interfaces := #[]
  cf := some (fileOf pool0 8 #[] #[{ accessFlags := 1, nameIndex := 5, descriptorIndex := 6, attributes := #[] }] 33 0 #[] #[])
  fields := #[]
  methods := #[k0m0]
  instanceTypes := #[]
  staticTypes := #[]
  resolved := Array.replicate 124 none
  statics := none }

def pool1 : Array CpInfo := pool [(2, .class_ 4), (1, u "java/lang/Object"), (0, u "<init>"), (0, u "()V"), (0, .integer 2147483647), (0, .long 63), (1, .long 64), (1, .methodref 13 14), (0, .class_ 15), (0, .nameAndType 16 17), (0, u "com/example/prefixd/prefixd/HighestInRangeTableBytesPinLaw"), (0, u "bitLength"), (0, u "(I)I"), (0, .methodref 19 20), (0, .class_ 21), (0, .nameAndType 22 23), (0, u "java/lang/Math"), (0, u "max"), (0, u "(II)I"), (0, .long 8), (1, .long 4), (1, .methodref 29 30), (0, .class_ 31), (0, .nameAndType 32 33), (0, u "com/example/prefixd/prefixd/HighestInRange"), (0, u "tableBytes"), (0, u "(IZ)J"), (0, .integer 65536), (2, u "law"), (0, u "(III)Z")] 3

def k1m0 : Method := { name := "<init>", desc := "()V", sig := { parameters := [], returnType := none }, accessFlags := 1, code := none }
def k1c1 : Code := { maxStack := 8, maxLocals := 10, code := code, exceptionTable := #[], attributes := #[] }
def k1m1 : Method := { name := "law", desc := "(III)Z", sig := { parameters := [.int, .int, .int], returnType := some .boolean }, accessFlags := 9, code := some k1c1 }
def k1c2 : Code := { maxStack := 2, maxLocals := 2, code := method_3_code, exceptionTable := #[], attributes := #[] }
def k1m2 : Method := { name := "bitLength", desc := "(I)I", sig := { parameters := [.int], returnType := some .int }, accessFlags := 10, code := some k1c2 }
/-- com/example/prefixd/prefixd/HighestInRangeTableBytesPinLaw -/
def k1 : Class := { plain "com/example/prefixd/prefixd/HighestInRangeTableBytesPinLaw" (some 0) with
  accessFlags := 49
  interfaces := #[]
  cf := some (fileOf pool1 13 #[] #[{ accessFlags := 1, nameIndex := 5, descriptorIndex := 6, attributes := #[] }, { accessFlags := 9, nameIndex := 37, descriptorIndex := 38, attributes := #[] }, { accessFlags := 10, nameIndex := 16, descriptorIndex := 17, attributes := #[] }] 49 2 #[] #[])
  fields := #[]
  methods := #[k1m0, k1m1, k1m2]
  instanceTypes := #[]
  staticTypes := #[]
  resolved := Array.replicate 42 none
  statics := none }

def pool2 : Array CpInfo := pool [(1, .class_ 2), (0, u "java/lang/Math"), (1, .class_ 6), (1, u "java/lang/Object"), (0, u "<init>"), (0, u "()V"), (89, .class_ 100), (1, u "java/lang/Math$RandomNumberGeneratorHolder"), (71, u "negativeZeroFloatBits"), (0, u "J"), (2, u "negativeZeroDoubleBits"), (21, u "max"), (46, u "$assertionsDisabled"), (0, u "Z"), (88, u "(II)I"), (2, u "twoToTheDoubleScaleDown"), (0, u "D"), (4, u "twoToTheDoubleScaleUp"), (9, u "E"), (3, u "PI"), (2, u "TAU"), (2, u "DEGREES_TO_RADIANS"), (0, u "RADIANS_TO_DEGREES")] 94

def k2m0 : Method := { name := "<init>", desc := "()V", sig := { parameters := [], returnType := none }, accessFlags := 2, code := none }
def k2c1 : Code := { maxStack := 2, maxLocals := 2, code := jdk_29_method_65_code, exceptionTable := #[], attributes := #[] }
def k2m1 : Method := { name := "max", desc := "(II)I", sig := { parameters := [.int, .int], returnType := some .int }, accessFlags := 9, code := some k2c1 }
/-- java/lang/Math -/
def k2 : Class := { plain "java/lang/Math" (some 0) with
  accessFlags := 49
  interfaces := #[]
  cf := some (fileOf pool2 1 #[.nestMembers #[98]] #[{ accessFlags := 2, nameIndex := 7, descriptorIndex := 8, attributes := #[] }, { accessFlags := 9, nameIndex := 198, descriptorIndex := 335, attributes := #[] }] 49 4 #[] #[{ accessFlags := 25, nameIndex := 354, descriptorIndex := 339, attributes := #[] }, { accessFlags := 25, nameIndex := 358, descriptorIndex := 339, attributes := #[] }, { accessFlags := 25, nameIndex := 361, descriptorIndex := 339, attributes := #[] }, { accessFlags := 26, nameIndex := 364, descriptorIndex := 339, attributes := #[] }, { accessFlags := 26, nameIndex := 365, descriptorIndex := 339, attributes := #[] }, { accessFlags := 26, nameIndex := 172, descriptorIndex := 173, attributes := #[] }, { accessFlags := 26, nameIndex := 176, descriptorIndex := 173, attributes := #[] }, { accessFlags := 8, nameIndex := 344, descriptorIndex := 339, attributes := #[] }, { accessFlags := 8, nameIndex := 338, descriptorIndex := 339, attributes := #[] }, { accessFlags := 4120, nameIndex := 245, descriptorIndex := 246, attributes := #[] }])
  fields := #[{ name := "E", type := .double, accessFlags := 25, slot := 0, constantValue := 0 }, { name := "PI", type := .double, accessFlags := 25, slot := 1, constantValue := 0 }, { name := "TAU", type := .double, accessFlags := 25, slot := 2, constantValue := 0 }, { name := "DEGREES_TO_RADIANS", type := .double, accessFlags := 26, slot := 3, constantValue := 0 }, { name := "RADIANS_TO_DEGREES", type := .double, accessFlags := 26, slot := 4, constantValue := 0 }, { name := "negativeZeroFloatBits", type := .long, accessFlags := 26, slot := 5, constantValue := 0 }, { name := "negativeZeroDoubleBits", type := .long, accessFlags := 26, slot := 6, constantValue := 0 }, { name := "twoToTheDoubleScaleUp", type := .double, accessFlags := 8, slot := 7, constantValue := 0 }, { name := "twoToTheDoubleScaleDown", type := .double, accessFlags := 8, slot := 8, constantValue := 0 }, { name := "$assertionsDisabled", type := .boolean, accessFlags := 4120, slot := 9, constantValue := 0 }]
  methods := #[k2m0, k2m1]
  instanceTypes := #[]
  staticTypes := #[.double, .double, .double, .double, .double, .long, .long, .double, .double, .boolean]
  resolved := Array.replicate 460 none
  statics := none }

def pool3 : Array CpInfo := pool [(1, .class_ 2), (0, u "com/example/prefixd/prefixd/HighestInRange"), (1, .class_ 6), (1, u "java/lang/Object"), (4, u "frequencies"), (0, u "Lcom/example/prefixd/prefixd/PackedFrequencies;"), (2, u "leftOut"), (0, u "[J"), (6, .methodref 1 24), (0, .nameAndType 25 26), (0, u "blocksOf"), (0, u "(I)I"), (0, .methodref 1 28), (0, .nameAndType 29 26), (0, u "levelsOf"), (4, u "bestOfBlocks"), (0, u "[[I"), (1, .class_ 39), (1, u "java/lang/Math"), (1, u "(II)I"), (3, .methodref 1 46), (0, .nameAndType 47 41), (0, u "levelLength"), (3, .methodref 52 53), (0, .class_ 54), (0, .nameAndType 55 26), (0, u "java/lang/Integer"), (0, u "numberOfLeadingZeros"), (4, .long 63), (1, .long 8), (1, .methodref 1 65), (0, .nameAndType 66 26), (0, u "leftOutWords"), (0, .long 4), (1, .methodref 37 70), (0, .nameAndType 71 41), (0, u "max"), (9, u "BLOCK_BITS"), (0, u "I"), (2, u "BLOCK"), (9, u "tableBytes"), (0, u "(IZ)J")] 2

def k3c0 : Code := { maxStack := 4, maxLocals := 1, code := prog_5_method_5_code, exceptionTable := #[], attributes := #[] }
def k3m0 : Method := { name := "leftOutWords", desc := "(I)I", sig := { parameters := [.int], returnType := some .int }, accessFlags := 8, code := some k3c0 }
def k3c1 : Code := { maxStack := 8, maxLocals := 6, code := prog_5_method_6_code, exceptionTable := #[], attributes := #[] }
def k3m1 : Method := { name := "tableBytes", desc := "(IZ)J", sig := { parameters := [.int, .boolean], returnType := some .long }, accessFlags := 8, code := some k3c1 }
def k3c2 : Code := { maxStack := 2, maxLocals := 1, code := prog_5_method_7_code, exceptionTable := #[], attributes := #[] }
def k3m2 : Method := { name := "blocksOf", desc := "(I)I", sig := { parameters := [.int], returnType := some .int }, accessFlags := 10, code := some k3c2 }
def k3c3 : Code := { maxStack := 3, maxLocals := 1, code := prog_5_method_8_code, exceptionTable := #[], attributes := #[] }
def k3m3 : Method := { name := "levelsOf", desc := "(I)I", sig := { parameters := [.int], returnType := some .int }, accessFlags := 10, code := some k3c3 }
def k3c4 : Code := { maxStack := 3, maxLocals := 2, code := prog_5_method_9_code, exceptionTable := #[], attributes := #[] }
def k3m4 : Method := { name := "levelLength", desc := "(II)I", sig := { parameters := [.int, .int], returnType := some .int }, accessFlags := 10, code := some k3c4 }
/-- com/example/prefixd/prefixd/HighestInRange -/
def k3 : Class := { plain "com/example/prefixd/prefixd/HighestInRange" (some 0) with
  accessFlags := 32
  interfaces := #[]
  cf := some (fileOf pool3 1 #[] #[{ accessFlags := 8, nameIndex := 66, descriptorIndex := 26, attributes := #[] }, { accessFlags := 8, nameIndex := 95, descriptorIndex := 96, attributes := #[] }, { accessFlags := 10, nameIndex := 25, descriptorIndex := 26, attributes := #[] }, { accessFlags := 10, nameIndex := 29, descriptorIndex := 26, attributes := #[] }, { accessFlags := 10, nameIndex := 47, descriptorIndex := 41, attributes := #[] }] 32 4 #[] #[{ accessFlags := 26, nameIndex := 81, descriptorIndex := 82, attributes := #[] }, { accessFlags := 26, nameIndex := 85, descriptorIndex := 82, attributes := #[] }, { accessFlags := 18, nameIndex := 11, descriptorIndex := 12, attributes := #[] }, { accessFlags := 18, nameIndex := 15, descriptorIndex := 16, attributes := #[] }, { accessFlags := 18, nameIndex := 34, descriptorIndex := 35, attributes := #[] }])
  fields := #[{ name := "BLOCK_BITS", type := .int, accessFlags := 26, slot := 0, constantValue := 0 }, { name := "BLOCK", type := .int, accessFlags := 26, slot := 1, constantValue := 0 }, { name := "frequencies", type := (.object "com/example/prefixd/prefixd/PackedFrequencies"), accessFlags := 18, slot := 0, constantValue := 0 }, { name := "leftOut", type := (.array .long), accessFlags := 18, slot := 1, constantValue := 0 }, { name := "bestOfBlocks", type := (.array (.array .int)), accessFlags := 18, slot := 2, constantValue := 0 }]
  methods := #[k3m0, k3m1, k3m2, k3m3, k3m4]
  instanceTypes := #[(.object "com/example/prefixd/prefixd/PackedFrequencies"), (.array .long), (.array (.array .int))]
  staticTypes := #[.int, .int]
  resolved := Array.replicate 99 none
  statics := none }

def pool4 : Array CpInfo := pool [(1, .class_ 2), (0, u "java/io/Serializable"), (0, .class_ 4), (0, u "java/lang/Object")] 2

/-- java/io/Serializable -/
def k4 : Class := { plain "java/io/Serializable" (some 0) with
  accessFlags := 1537
  interfaces := #[]
  cf := some (fileOf pool4 1 #[] #[] 1537 3 #[] #[])
  fields := #[]
  methods := #[]
  instanceTypes := #[]
  staticTypes := #[]
  resolved := Array.replicate 7 none
  statics := none }

def pool5 : Array CpInfo := pool [(2, .class_ 4), (1, u "java/lang/Object"), (0, u "<init>"), (0, u "()V"), (1, .class_ 10), (1, u "java/lang/Number"), (2, .class_ 14), (0, u "java/io/Serializable"), (0, u "serialVersionUID"), (0, u "J")] 20

def k5m0 : Method := { name := "<init>", desc := "()V", sig := { parameters := [], returnType := none }, accessFlags := 1, code := none }
/-- java/lang/Number -/
def k5 : Class := { plain "java/lang/Number" (some 0) with
  accessFlags := 1057
  interfaces := #[4]
  cf := some (fileOf pool5 8 #[] #[{ accessFlags := 1, nameIndex := 5, descriptorIndex := 6, attributes := #[] }] 1057 2 #[13] #[{ accessFlags := 26, nameIndex := 15, descriptorIndex := 16, attributes := #[] }])
  fields := #[{ name := "serialVersionUID", type := .long, accessFlags := 26, slot := 0, constantValue := 0 }]
  methods := #[k5m0]
  instanceTypes := #[]
  staticTypes := #[.long]
  resolved := Array.replicate 37 none
  statics := none }

def pool6 : Array CpInfo := pool [(1, .class_ 2), (0, u "java/lang/Comparable"), (0, .class_ 4), (0, u "java/lang/Object")] 7

/-- java/lang/Comparable -/
def k6 : Class := { plain "java/lang/Comparable" (some 0) with
  accessFlags := 1537
  interfaces := #[]
  cf := some (fileOf pool6 1 #[] #[] 1537 3 #[] #[])
  fields := #[]
  methods := #[]
  instanceTypes := #[]
  staticTypes := #[]
  resolved := Array.replicate 12 none
  statics := none }

def pool7 : Array CpInfo := pool [(1, .class_ 2), (0, u "java/lang/constant/Constable"), (0, .class_ 4), (0, u "java/lang/Object")] 6

/-- java/lang/constant/Constable -/
def k7 : Class := { plain "java/lang/constant/Constable" (some 0) with
  accessFlags := 1537
  interfaces := #[]
  cf := some (fileOf pool7 1 #[] #[] 1537 3 #[] #[])
  fields := #[]
  methods := #[]
  instanceTypes := #[]
  staticTypes := #[]
  resolved := Array.replicate 11 none
  statics := none }

def pool8 : Array CpInfo := pool [(1, .class_ 2), (0, u "java/lang/constant/ConstantDesc"), (0, .class_ 4), (0, u "java/lang/Object")] 32

/-- java/lang/constant/ConstantDesc -/
def k8 : Class := { plain "java/lang/constant/ConstantDesc" (some 0) with
  accessFlags := 1537
  interfaces := #[]
  cf := some (fileOf pool8 1 #[] #[] 1537 3 #[] #[])
  fields := #[]
  methods := #[]
  instanceTypes := #[]
  staticTypes := #[]
  resolved := Array.replicate 37 none
  statics := none }

def pool9 : Array CpInfo := pool [(1, .class_ 2), (0, u "java/lang/Integer"), (16, u "digits"), (0, u "[C"), (32, u "numberOfLeadingZeros"), (0, u "(I)I"), (30, u "DigitOnes"), (0, u "[B"), (2, u "DigitTens"), (99, .class_ 190), (0, u "java/lang/Integer$IntegerCache"), (3, u "I"), (8, .class_ 204), (0, u "java/lang/Number"), (2, u "value"), (56, .integer 65536), (37, u "TYPE"), (0, u "Ljava/lang/Class;"), (0, .class_ 305), (0, u "java/lang/Comparable"), (0, .class_ 307), (0, u "java/lang/constant/Constable"), (0, .class_ 309), (0, u "java/lang/constant/ConstantDesc"), (0, u "MIN_VALUE"), (1, u "MAX_VALUE"), (3, u "SIZE"), (1, u "BYTES"), (1, u "serialVersionUID"), (0, u "J")] 131

def k9c0 : Code := { maxStack := 3, maxLocals := 2, code := jdk_33_method_47_code, exceptionTable := #[], attributes := #[] }
def k9m0 : Method := { name := "numberOfLeadingZeros", desc := "(I)I", sig := { parameters := [.int], returnType := some .int }, accessFlags := 9, code := some k9c0 }
/-- java/lang/Integer -/
def k9 : Class := { plain "java/lang/Integer" (some 5) with
  accessFlags := 49
  interfaces := #[6, 7, 8]
  cf := some (fileOf pool9 1 #[.nestMembers #[189]] #[{ accessFlags := 9, nameIndex := 53, descriptorIndex := 54, attributes := #[] }] 49 203 #[304, 306, 308] #[{ accessFlags := 25, nameIndex := 310, descriptorIndex := 194, attributes := #[] }, { accessFlags := 25, nameIndex := 312, descriptorIndex := 194, attributes := #[] }, { accessFlags := 25, nameIndex := 302, descriptorIndex := 303, attributes := #[] }, { accessFlags := 24, nameIndex := 19, descriptorIndex := 20, attributes := #[] }, { accessFlags := 24, nameIndex := 89, descriptorIndex := 86, attributes := #[] }, { accessFlags := 24, nameIndex := 85, descriptorIndex := 86, attributes := #[] }, { accessFlags := 18, nameIndex := 207, descriptorIndex := 194, attributes := #[] }, { accessFlags := 25, nameIndex := 316, descriptorIndex := 194, attributes := #[] }, { accessFlags := 25, nameIndex := 318, descriptorIndex := 194, attributes := #[] }, { accessFlags := 26, nameIndex := 320, descriptorIndex := 321, attributes := #[] }])
  fields := #[{ name := "MIN_VALUE", type := .int, accessFlags := 25, slot := 0, constantValue := 0 }, { name := "MAX_VALUE", type := .int, accessFlags := 25, slot := 1, constantValue := 0 }, { name := "TYPE", type := (.object "java/lang/Class"), accessFlags := 25, slot := 2, constantValue := 0 }, { name := "digits", type := (.array .char), accessFlags := 24, slot := 3, constantValue := 0 }, { name := "DigitTens", type := (.array .byte), accessFlags := 24, slot := 4, constantValue := 0 }, { name := "DigitOnes", type := (.array .byte), accessFlags := 24, slot := 5, constantValue := 0 }, { name := "value", type := .int, accessFlags := 18, slot := 0, constantValue := 0 }, { name := "SIZE", type := .int, accessFlags := 25, slot := 6, constantValue := 0 }, { name := "BYTES", type := .int, accessFlags := 25, slot := 7, constantValue := 0 }, { name := "serialVersionUID", type := .long, accessFlags := 26, slot := 8, constantValue := 0 }]
  methods := #[k9m0]
  instanceTypes := #[.int]
  staticTypes := #[.int, .int, (.object "java/lang/Class"), (.array .char), (.array .byte), (.array .byte), .int, .int, .long]
  resolved := Array.replicate 453 none
  statics := none }

def pool10 : Array CpInfo := pool [(1, u "java/lang/Cloneable"), (0, .class_ 1), (0, u "java/lang/Object"), (0, .class_ 3)] 3

/-- java/lang/Cloneable -/
def k10 : Class := { plain "java/lang/Cloneable" (some 0) with
  accessFlags := 1537
  interfaces := #[]
  cf := some (fileOf pool10 2 #[] #[] 1537 4 #[] #[])
  fields := #[]
  methods := #[]
  instanceTypes := #[]
  staticTypes := #[]
  resolved := Array.replicate 8 none
  statics := none }

/-- the primitive byte -/
def k11 : Class := { plain "byte" none with kind := .primitive 'B', accessFlags := 0x411 }
/-- [B -/
def k12 : Class := { plain "[B" (some 0) with kind := .array 11 .byte, interfaces := #[10, 4], accessFlags := 1041 }

/-- the primitive int -/
def k13 : Class := { plain "int" none with kind := .primitive 'I', accessFlags := 0x411 }
/-- [I -/
def k14 : Class := { plain "[I" (some 0) with kind := .array 13 .int, interfaces := #[10, 4], accessFlags := 1041 }

def heap : Heap := #[]
def classes : Array Class := #[k0, k1, k2, k3, k4, k5, k6, k7, k8, k9, k10, k11, k12, k13, k14]
def interned : List (Array UInt16 × Addr) := []
def slotsUsed : Nat := 0
def theMethod : MethodId := ⟨1, 1⟩
def args0 : Array Value := #[.int 5, .int 5, .int 5]
def aboutOver (below : List Frame) : State where
  vm := { classes := classes, interned := interned.toArray }
  heap := heap
  slotsUsed := slotsUsed
  threads := #[{ frames := .invoking theMethod args0 :: below }]
def below0 : List Frame := [.native { method := ⟨0, 0⟩, args := #[] }]
def about1 : State := aboutOver below0
def p0 : Program := .bare "" "" ""
def e0 : Env := launch0.env 0 0 0
theorem w_frames : about1.frames = Frame.invoking theMethod args0 :: below0 := rfl
set_option maxRecDepth 65536 in
theorem w_args : argsFit about1.vm theMethod args0 = true := by decide +kernel
set_option maxRecDepth 65536 in
theorem w_heap : heapFits about1 = true := by decide +kernel
set_option maxRecDepth 65536 in
theorem w_runnable : about1.curStatus? = some .runnable := by decide +kernel
set_option maxRecDepth 65536 in
theorem w_alone : about1.alone = true := by decide +kernel
set_option maxRecDepth 65536 in
theorem w_named : about1.methodNamed? x = some theMethod := by decide +kernel
set_option maxRecDepth 65536 in
theorem w_hears : about1.hears theMethod below0 = true := by decide +kernel
set_option maxRecDepth 65536 in
theorem w_ripe : about1.ripe theMethod args0 below0 = true := by decide +kernel
theorem w_running : about1.status = .running := rfl
set_option maxRecDepth 65536 in
theorem w_room : about1.hasRoom e0.platform room_1 = true :=
  launch0.hasRoom_least _ room_1 (by decide +kernel) (by decide +kernel) (by decide +kernel) (by decide +kernel) (by decide +kernel) (by decide +kernel)
theorem allAtoms_all (ts : List Jvm.Cond) (a : Array Jvm.Value) (st : Jvm.State) : (allAtoms ts).before a st = ts.all (fun c => c.before a st) := by
  induction ts with
  | nil => rfl
  | cons c t ih =>
    show (Jvm.Cond.and c (allAtoms t)).before a st = _
    rw [Jvm.Cond.before_and, ih, List.all_cons]
def words1 : List Jvm.Cond := Jvm.Cond.code x code maxLocals ret :: tables_1
/-- a 'code' word, met by the world's own term for the bytes: nothing is compared byte by byte -/
theorem code_word {y : MethodName} {bytes : ByteArray} {mx : Nat} {rt : Option FieldType} {a : Array Value} {s : State} {m : MethodId} {meth : Method} {c : Code} (h1 : s.methodNamed? y = some m) (h2 : s.vm.method? m = some meth) (h3 : meth.code = some c) (h4 : c.code = bytes)
    (h5 : (c.maxLocals == mx && c.exceptionTable.isEmpty && decide (c.maxStack ≤ mostOperands) && decide (meth.sig.returnType = rt) && !meth.locks && decide (parseMethodDescriptor y.desc = some meth.sig)) = true) : (Jvm.Cond.code y bytes mx rt).before a s = true := by
  simp only [Bool.and_eq_true, beq_iff_eq, Bool.not_eq_true', decide_eq_true_eq] at h5
  obtain ⟨⟨⟨⟨⟨g1, g2⟩, g3⟩, g4⟩, g5⟩, g6⟩ := h5
  simp [Cond.before, Cond.holds, Cond.value, h1, h2, h3, h4, g1, g2, g3, g4, g5, g6]
def isCode : Jvm.Cond → Bool
  | .code _ _ _ _ => true
  | _ => false
theorem all_split {L : List Jvm.Cond} {P : Jvm.Cond → Bool} (h1 : L.all (fun c => isCode c || P c) = true) (h2 : ∀ c ∈ L.filter isCode, P c = true) : L.all P = true := by
  refine List.all_eq_true.mpr fun c hc => ?_
  have h := List.all_eq_true.mp h1 c hc
  rcases Bool.eq_false_or_eq_true (isCode c) with hi | hi
  · exact h2 c (List.mem_filter.mpr ⟨hc, hi⟩)
  · simpa [hi] using h
set_option maxRecDepth 65536 in
theorem w_c0 : (Jvm.Cond.code x code maxLocals ret).before args0 about1 = true := code_word (m := ⟨1, 1⟩) (meth := k1m1) (c := k1c1) (by decide +kernel) rfl rfl rfl (by decide +kernel)
set_option maxRecDepth 65536 in
theorem w_c1 : (Jvm.Cond.code ({ cls := "com/example/prefixd/prefixd/HighestInRangeTableBytesPinLaw", name := "bitLength", desc := "(I)I" } : Jvm.MethodName) method_3_code (2 : Nat) (Option.some Jvm.ClassFile.FieldType.int)).before args0 about1 = true := code_word (m := ⟨1, 2⟩) (meth := k1m2) (c := k1c2) (by decide +kernel) rfl rfl rfl (by decide +kernel)
set_option maxRecDepth 65536 in
theorem w_c2 : (Jvm.Cond.code ({ cls := "java/lang/Math", name := "max", desc := "(II)I" } : Jvm.MethodName) jdk_29_method_65_code (2 : Nat) (Option.some Jvm.ClassFile.FieldType.int)).before args0 about1 = true := code_word (m := ⟨2, 1⟩) (meth := k2m1) (c := k2c1) (by decide +kernel) rfl rfl rfl (by decide +kernel)
set_option maxRecDepth 65536 in
theorem w_c3 : (Jvm.Cond.code ({ cls := "com/example/prefixd/prefixd/HighestInRange", name := "tableBytes", desc := "(IZ)J" } : Jvm.MethodName) prog_5_method_6_code (6 : Nat) (Option.some Jvm.ClassFile.FieldType.long)).before args0 about1 = true := code_word (m := ⟨3, 1⟩) (meth := k3m1) (c := k3c1) (by decide +kernel) rfl rfl rfl (by decide +kernel)
set_option maxRecDepth 65536 in
theorem w_c4 : (Jvm.Cond.code ({ cls := "com/example/prefixd/prefixd/HighestInRange", name := "blocksOf", desc := "(I)I" } : Jvm.MethodName) prog_5_method_7_code (1 : Nat) (Option.some Jvm.ClassFile.FieldType.int)).before args0 about1 = true := code_word (m := ⟨3, 2⟩) (meth := k3m2) (c := k3c2) (by decide +kernel) rfl rfl rfl (by decide +kernel)
set_option maxRecDepth 65536 in
theorem w_c5 : (Jvm.Cond.code ({ cls := "com/example/prefixd/prefixd/HighestInRange", name := "levelsOf", desc := "(I)I" } : Jvm.MethodName) prog_5_method_8_code (1 : Nat) (Option.some Jvm.ClassFile.FieldType.int)).before args0 about1 = true := code_word (m := ⟨3, 3⟩) (meth := k3m3) (c := k3c3) (by decide +kernel) rfl rfl rfl (by decide +kernel)
set_option maxRecDepth 65536 in
theorem w_c6 : (Jvm.Cond.code ({ cls := "java/lang/Integer", name := "numberOfLeadingZeros", desc := "(I)I" } : Jvm.MethodName) jdk_33_method_47_code (2 : Nat) (Option.some Jvm.ClassFile.FieldType.int)).before args0 about1 = true := code_word (m := ⟨9, 0⟩) (meth := k9m0) (c := k9c0) (by decide +kernel) rfl rfl rfl (by decide +kernel)
set_option maxRecDepth 65536 in
theorem w_c7 : (Jvm.Cond.code ({ cls := "com/example/prefixd/prefixd/HighestInRange", name := "levelLength", desc := "(II)I" } : Jvm.MethodName) prog_5_method_9_code (2 : Nat) (Option.some Jvm.ClassFile.FieldType.int)).before args0 about1 = true := code_word (m := ⟨3, 4⟩) (meth := k3m4) (c := k3c4) (by decide +kernel) rfl rfl rfl (by decide +kernel)
set_option maxRecDepth 65536 in
theorem w_c8 : (Jvm.Cond.code ({ cls := "com/example/prefixd/prefixd/HighestInRange", name := "leftOutWords", desc := "(I)I" } : Jvm.MethodName) prog_5_method_5_code (1 : Nat) (Option.some Jvm.ClassFile.FieldType.int)).before args0 about1 = true := code_word (m := ⟨3, 0⟩) (meth := k3m0) (c := k3c0) (by decide +kernel) rfl rfl rfl (by decide +kernel)
def codes1 : List Jvm.Cond := [Jvm.Cond.code x code maxLocals ret, Jvm.Cond.code ({ cls := "com/example/prefixd/prefixd/HighestInRangeTableBytesPinLaw", name := "bitLength", desc := "(I)I" } : Jvm.MethodName) method_3_code (2 : Nat) (Option.some Jvm.ClassFile.FieldType.int), Jvm.Cond.code ({ cls := "java/lang/Math", name := "max", desc := "(II)I" } : Jvm.MethodName) jdk_29_method_65_code (2 : Nat) (Option.some Jvm.ClassFile.FieldType.int), Jvm.Cond.code ({ cls := "com/example/prefixd/prefixd/HighestInRange", name := "tableBytes", desc := "(IZ)J" } : Jvm.MethodName) prog_5_method_6_code (6 : Nat) (Option.some Jvm.ClassFile.FieldType.long), Jvm.Cond.code ({ cls := "com/example/prefixd/prefixd/HighestInRange", name := "blocksOf", desc := "(I)I" } : Jvm.MethodName) prog_5_method_7_code (1 : Nat) (Option.some Jvm.ClassFile.FieldType.int), Jvm.Cond.code ({ cls := "com/example/prefixd/prefixd/HighestInRange", name := "levelsOf", desc := "(I)I" } : Jvm.MethodName) prog_5_method_8_code (1 : Nat) (Option.some Jvm.ClassFile.FieldType.int), Jvm.Cond.code ({ cls := "java/lang/Integer", name := "numberOfLeadingZeros", desc := "(I)I" } : Jvm.MethodName) jdk_33_method_47_code (2 : Nat) (Option.some Jvm.ClassFile.FieldType.int), Jvm.Cond.code ({ cls := "com/example/prefixd/prefixd/HighestInRange", name := "levelLength", desc := "(II)I" } : Jvm.MethodName) prog_5_method_9_code (2 : Nat) (Option.some Jvm.ClassFile.FieldType.int), Jvm.Cond.code ({ cls := "com/example/prefixd/prefixd/HighestInRange", name := "leftOutWords", desc := "(I)I" } : Jvm.MethodName) prog_5_method_5_code (1 : Nat) (Option.some Jvm.ClassFile.FieldType.int)]
set_option maxRecDepth 65536 in
theorem codes_eq : words1.filter isCode = codes1 := rfl
theorem w_codes : ∀ c ∈ words1.filter isCode, c.before args0 about1 = true := by
  rw [codes_eq]
  intro c hc
  simp only [codes1, List.mem_cons, List.not_mem_nil, or_false] at hc
  rcases hc with rfl | rfl | rfl | rfl | rfl | rfl | rfl | rfl | rfl
  · exact w_c0
  · exact w_c1
  · exact w_c2
  · exact w_c3
  · exact w_c4
  · exact w_c5
  · exact w_c6
  · exact w_c7
  · exact w_c8
set_option maxRecDepth 65536 in
theorem w_t1 : (words1.take 24).all (fun c => isCode c || c.before args0 about1) = true := by decide +kernel
set_option maxRecDepth 65536 in
theorem w_t2 : (words1.drop 24).all (fun c => isCode c || c.before args0 about1) = true := by decide +kernel
theorem w_tables : (allAtoms (Jvm.Cond.code x code maxLocals ret :: tables_1)).before args0 about1 = true := by
  rw [allAtoms_all]
  show words1.all (fun c => c.before args0 about1) = true
  refine all_split ?_ w_codes
  rw [← List.take_append_drop 24 words1, List.all_append, w_t1, w_t2]
  rfl
set_option maxRecDepth 65536 in
theorem w_case : (Jvm.Cond.and given_1 narrow_1).before args0 about1 = true := by decide +kernel
theorem w_applies : (headSpec (Jvm.Cond.code x code maxLocals ret :: tables_1) room_1).applies x e0.platform about1 = true :=
  (Spec.applies_iff w_frames).mpr ⟨w_running, w_runnable, w_alone, w_named, w_hears, w_ripe, w_room, w_tables⟩
theorem atStart : AtStart classFile x code maxLocals ret World_1 tables_1 room_1 Calls_1 rest_1 Pre_1 launch0 p0 e0 about1 theMethod args0 below0 :=
  ⟨lists_1, trivial, launch0.admits_env _ _ _, launch0.least_env, fairChoices_fair.cas, fairChoices_fair.clock, w_frames, w_args, w_heap, w_applies, trivial, trivial, w_case⟩
end start1
theorem witness_1 : WitnessClaimed_1 := ⟨start1.p0, start1.e0, start1.about1, start1.theMethod, start1.args0, start1.below0, start1.atStart⟩
end Jvm.Pilot.@@N@@
