import JvmDerived
import JvmDerived.Pilot.@@N@@Statement
import JvmDerived.Pilot.@@N@@Code
set_option linter.unusedVariables false
set_option linter.unusedSimpArgs false
namespace Jvm.OwnKit
open Sem ClassFile Op Lib Jvm.Stand Jvm.Free Jvm.LawKit Jvm.RoadKit
section Own
variable {p : Program} {l : Launch} {e : Env} {R : Room} {s : State} {m : MethodId} {args : Array Value} {below : List Frame} {meth : Method} {c : Code} {T T' : State} {locs : List Loc} {cells slots : Nat}
/-- from the state T with the frame F on top the run comes to the method's end, and what Q says holds there -/
def OwnG (p : Program) (e : Env) (below : List Frame) (s : State) (Q : Option Value → Heap → List Loc → Prop) (k n : Nat) (T : State) (F : JFrame) : Prop :=
  ∃ s₂ o, Steps p.tables e below (T.setTop F) s₂ ∧ s₂.status = .running ∧ Ended s₂ below o ∧ ∃ v L, o = .returned v ∧ Q v s₂.heap L ∧ FrameEnd s o s₂ L k n
theorem OwnG.st {Q : Option Value → Heap → List Loc → Prop} {k n : Nat} {F F' : JFrame} (h : ∀ t, Steps p.tables e below (T'.setTop F') t → Steps p.tables e below (T.setTop F) t) (g : OwnG p e below s Q k n T' F') : OwnG p e below s Q k n T F := by
  obtain ⟨s2, o, h1, r⟩ := g
  exact ⟨s2, o, h _ h1, r⟩
theorem OwnG.leave (X : Stand p l e R s m args below meth c T locs cells slots) {Q : Option Value → Heap → List Loc → Prop} {k n : Nat} {F : JFrame} {v : Option Value} (hv : meth.sig.returnType = none → v = none) (hlk : meth.locks = false)
    (hs : ∀ fs, (∀ (f : JFrame) (acts : List Action), f.method = m → f.locked = none → f.entered = [] → (doReturn e (T.setTop f) acts v).1 = T.setFrames fs) → Steps p.tables e below (T.setTop F) (T.setFrames fs)) (hq : Q v T.heap locs) (hk : cells ≤ k) (hn : slots ≤ n) : OwnG p e below s Q k n T F := by
  obtain ⟨fs, hr, hrun, hended, hW, hsame⟩ := X.leave hv hlk
  exact ⟨_, _, hs fs hr, hrun, hended, _, _, rfl, hq, ⟨_, rfl⟩, hW, hsame.mono hk hn⟩
theorem OwnG.retI (X : Stand p l e R s m args below meth c T locs cells slots) (hx : p.tables.exec = Jvm.exec) {Q : Option Value → Heap → List Loc → Prop} {k n pc : Nat} {Ls : Array Slot} {z : Int32} {rest : List Value} (hret : meth.sig.returnType = some .int) (hlk : meth.locks = false) (hd : decode c.code pc = .ok (.ireturn, 1)) (hq : Q (some (.int z)) T.heap locs) (hk : cells ≤ k) (hn : slots ≤ n) : OwnG p e below s Q k n T (mkF m pc Ls (.int z :: rest)) :=
  OwnG.leave X (fun h => by rw [hret] at h; cases h) hlk (fun fs hr => retOut X hx hret rfl (Or.inl ⟨rfl, Or.inl rfl, z, rfl⟩) hd hr) hq hk hn
theorem OwnG.retJ (X : Stand p l e R s m args below meth c T locs cells slots) (hx : p.tables.exec = Jvm.exec) {Q : Option Value → Heap → List Loc → Prop} {k n pc : Nat} {Ls : Array Slot} {z : Int64} {rest : List Value} (hret : meth.sig.returnType = some .long) (hlk : meth.locks = false) (hd : decode c.code pc = .ok (.lreturn, 1)) (hq : Q (some (.long z)) T.heap locs) (hk : cells ≤ k) (hn : slots ≤ n) : OwnG p e below s Q k n T (mkF m pc Ls (.long z :: rest)) :=
  OwnG.leave X (fun h => by rw [hret] at h; cases h) hlk (fun fs hr => retOut X hx hret rfl (Or.inr (Or.inl ⟨rfl, rfl, z, rfl⟩)) hd hr) hq hk hn
theorem OwnG.retR (X : Stand p l e R s m args below meth c T locs cells slots) (hx : p.tables.exec = Jvm.exec) {Q : Option Value → Heap → List Loc → Prop} {k n pc : Nat} {Ls : Array Slot} {a : Addr} {rest : List Value} {t : FieldType} (hret : meth.sig.returnType = some t) (ht : t.isReference = true) (hnn : narrow t (.ref a) = .ref a) (hlk : meth.locks = false) (hd : decode c.code pc = .ok (.areturn, 1)) (hq : Q (some (.ref a)) T.heap locs) (hk : cells ≤ k) (hn : slots ≤ n) : OwnG p e below s Q k n T (mkF m pc Ls (.ref a :: rest)) :=
  OwnG.leave X (fun h => by rw [hret] at h; cases h) hlk (fun fs hr => retOut X hx hret hnn (Or.inr (Or.inr (Or.inr (Or.inr ⟨rfl, ht, rfl⟩)))) hd hr) hq hk hn
theorem OwnG.retN (X : Stand p l e R s m args below meth c T locs cells slots) (hx : p.tables.exec = Jvm.exec) {Q : Option Value → Heap → List Loc → Prop} {k n pc : Nat} {Ls : Array Slot} {z : Int32} {rest : List Value} {t : FieldType} (ht : t = .boolean ∨ t = .byte ∨ t = .char ∨ t = .short) (hret : meth.sig.returnType = some t) (hlk : meth.locks = false) (hd : decode c.code pc = .ok (.ireturn, 1)) (hq : Q (some (.int (nar t z))) T.heap locs) (hk : cells ≤ k) (hn : slots ≤ n) : OwnG p e below s Q k n T (mkF m pc Ls (.int z :: rest)) :=
  OwnG.leave X (fun h => by rw [hret] at h; cases h) hlk (fun fs hr => Jvm.RoadKit.retN X hx hret ht hd hr) hq hk hn
theorem OwnG.retV (X : Stand p l e R s m args below meth c T locs cells slots) (hx : p.tables.exec = Jvm.exec) {Q : Option Value → Heap → List Loc → Prop} {k n pc : Nat} {Ls : Array Slot} (hret : meth.sig.returnType = none) (hlk : meth.locks = false) (hd : decode c.code pc = .ok (.return_, 1)) (hq : Q none T.heap locs) (hk : cells ≤ k) (hn : slots ≤ n) : OwnG p e below s Q k n T (mkF m pc Ls []) :=
  OwnG.leave X (fun _ => rfl) hlk (fun fs hr => X.returnOut hx hret hd hr) hq hk hn
end Own
end Jvm.OwnKit
namespace Jvm.OwnKit
open Jvm.RoadKit
theorem own_split {w : Nat} (x m : BitVec w) : (x &&& ~~~m) + (x &&& m) = x := by
  rw [BitVec.add_eq_or_of_and_eq_zero]
  · ext i hi
    simp only [BitVec.getElem_or, BitVec.getElem_and, BitVec.getElem_not]
    cases x[i] <;> cases m[i] <;> rfl
  · ext i hi
    simp only [BitVec.getElem_and, BitVec.getElem_not, BitVec.getElem_zero]
    cases x[i] <;> cases m[i] <;> rfl
theorem own_hi (x m m' : Int32) (h : m' = ~~~m) : (x &&& m') + (x &&& m) = x := by
  subst h
  exact Int32.toBitVec_inj.mp (own_split x.toBitVec m.toBitVec)
theorem own_irem (x y : Int32) : x - (x / y) * y = x % y := by
  apply Int32.toInt_inj.mp
  have h1 := rng32 (x % y)
  have e := Int.mul_tdiv_add_tmod x.toInt y.toInt
  rw [Int32.toInt_mod] at h1 ⊢
  rw [Int32.toInt_sub, Int32.toInt_mul, Int32.toInt_div, Int.bmod_mul_bmod, Int.sub_bmod_bmod]
  rw [show x.toInt - x.toInt.tdiv y.toInt * y.toInt = x.toInt.tmod y.toInt by rw [Int.mul_comm]; omega]
  exact Int.bmod_eq_of_le_mul_two (by omega) (by omega)
end Jvm.OwnKit
namespace Jvm.Pilot.@@N@@
open Jvm Jvm.ClassFile Sem Op Lib Jvm.Free Jvm.Stand Jvm.LawKit Jvm.RoadKit Bundle Jvm.Pilot.@@N@@.Jvm.D Jvm.OwnKit
def F1 (p1 : Int32) : Int32 := (if p1 = (0 : Int32) then (-1 : Int32) else (if p1 = (1 : Int32) then (0 : Int32) else (if p1 = (2 : Int32) then (55295 : Int32) else (if p1 = (3 : Int32) then (55296 : Int32) else (if p1 = (4 : Int32) then (57343 : Int32) else (if p1 = (5 : Int32) then (57344 : Int32) else (if p1 = (6 : Int32) then (1114111 : Int32) else (if p1 = (7 : Int32) then (1114112 : Int32) else (if p1 = (8 : Int32) then (-2147483648 : Int32) else (if p1 = (9 : Int32) then (2147483647 : Int32) else (if p1 = (10 : Int32) then (65533 : Int32) else (if p1 = (11 : Int32) then (64976 : Int32) else (if p1 = (12 : Int32) then (65534 : Int32) else (if p1 = (13 : Int32) then (56320 : Int32) else (if p1 = (14 : Int32) then (65536 : Int32) else (65535 : Int32))))))))))))))))
theorem d1_0 : decode method_3_code 0 = .ok (.iload_n 0, 1) := by decide +kernel
theorem d1_1 : decode method_3_code 1 = .ok (.ifCond .ne 5, 3) := by decide +kernel
theorem d1_4 : decode method_3_code 4 = .ok (.iconst (-1), 1) := by decide +kernel
theorem d1_5 : decode method_3_code 5 = .ok (.ireturn, 1) := by decide +kernel
theorem d1_6 : decode method_3_code 6 = .ok (.iload_n 0, 1) := by decide +kernel
theorem d1_7 : decode method_3_code 7 = .ok (.iconst 1, 1) := by decide +kernel
theorem d1_8 : decode method_3_code 8 = .ok (.if_icmp .ne 5, 3) := by decide +kernel
theorem d1_11 : decode method_3_code 11 = .ok (.iconst 0, 1) := by decide +kernel
theorem d1_12 : decode method_3_code 12 = .ok (.ireturn, 1) := by decide +kernel
theorem d1_13 : decode method_3_code 13 = .ok (.iload_n 0, 1) := by decide +kernel
theorem d1_14 : decode method_3_code 14 = .ok (.iconst 2, 1) := by decide +kernel
theorem d1_15 : decode method_3_code 15 = .ok (.if_icmp .ne 6, 3) := by decide +kernel
theorem d1_18 : decode method_3_code 18 = .ok (.ldc 9, 2) := by decide +kernel
theorem d1_20 : decode method_3_code 20 = .ok (.ireturn, 1) := by decide +kernel
theorem d1_21 : decode method_3_code 21 = .ok (.iload_n 0, 1) := by decide +kernel
theorem d1_22 : decode method_3_code 22 = .ok (.iconst 3, 1) := by decide +kernel
theorem d1_23 : decode method_3_code 23 = .ok (.if_icmp .ne 6, 3) := by decide +kernel
theorem d1_26 : decode method_3_code 26 = .ok (.ldc 8, 2) := by decide +kernel
theorem d1_28 : decode method_3_code 28 = .ok (.ireturn, 1) := by decide +kernel
theorem d1_29 : decode method_3_code 29 = .ok (.iload_n 0, 1) := by decide +kernel
theorem d1_30 : decode method_3_code 30 = .ok (.iconst 4, 1) := by decide +kernel
theorem d1_31 : decode method_3_code 31 = .ok (.if_icmp .ne 6, 3) := by decide +kernel
theorem d1_34 : decode method_3_code 34 = .ok (.ldc 10, 2) := by decide +kernel
theorem d1_36 : decode method_3_code 36 = .ok (.ireturn, 1) := by decide +kernel
theorem d1_37 : decode method_3_code 37 = .ok (.iload_n 0, 1) := by decide +kernel
theorem d1_38 : decode method_3_code 38 = .ok (.iconst 5, 1) := by decide +kernel
theorem d1_39 : decode method_3_code 39 = .ok (.if_icmp .ne 6, 3) := by decide +kernel
theorem d1_42 : decode method_3_code 42 = .ok (.ldc 11, 2) := by decide +kernel
theorem d1_44 : decode method_3_code 44 = .ok (.ireturn, 1) := by decide +kernel
theorem d1_45 : decode method_3_code 45 = .ok (.iload_n 0, 1) := by decide +kernel
theorem d1_46 : decode method_3_code 46 = .ok (.bipush 6, 2) := by decide +kernel
theorem d1_48 : decode method_3_code 48 = .ok (.if_icmp .ne 6, 3) := by decide +kernel
theorem d1_51 : decode method_3_code 51 = .ok (.ldc 7, 2) := by decide +kernel
theorem d1_53 : decode method_3_code 53 = .ok (.ireturn, 1) := by decide +kernel
theorem d1_54 : decode method_3_code 54 = .ok (.iload_n 0, 1) := by decide +kernel
theorem d1_55 : decode method_3_code 55 = .ok (.bipush 7, 2) := by decide +kernel
theorem d1_57 : decode method_3_code 57 = .ok (.if_icmp .ne 6, 3) := by decide +kernel
theorem d1_60 : decode method_3_code 60 = .ok (.ldc 12, 2) := by decide +kernel
theorem d1_62 : decode method_3_code 62 = .ok (.ireturn, 1) := by decide +kernel
theorem d1_63 : decode method_3_code 63 = .ok (.iload_n 0, 1) := by decide +kernel
theorem d1_64 : decode method_3_code 64 = .ok (.bipush 8, 2) := by decide +kernel
theorem d1_66 : decode method_3_code 66 = .ok (.if_icmp .ne 6, 3) := by decide +kernel
theorem d1_69 : decode method_3_code 69 = .ok (.ldc 15, 2) := by decide +kernel
theorem d1_71 : decode method_3_code 71 = .ok (.ireturn, 1) := by decide +kernel
theorem d1_72 : decode method_3_code 72 = .ok (.iload_n 0, 1) := by decide +kernel
theorem d1_73 : decode method_3_code 73 = .ok (.bipush 9, 2) := by decide +kernel
theorem d1_75 : decode method_3_code 75 = .ok (.if_icmp .ne 6, 3) := by decide +kernel
theorem d1_78 : decode method_3_code 78 = .ok (.ldc 16, 2) := by decide +kernel
theorem d1_80 : decode method_3_code 80 = .ok (.ireturn, 1) := by decide +kernel
theorem d1_81 : decode method_3_code 81 = .ok (.iload_n 0, 1) := by decide +kernel
theorem d1_82 : decode method_3_code 82 = .ok (.bipush 10, 2) := by decide +kernel
theorem d1_84 : decode method_3_code 84 = .ok (.if_icmp .ne 6, 3) := by decide +kernel
theorem d1_87 : decode method_3_code 87 = .ok (.ldc 17, 2) := by decide +kernel
theorem d1_89 : decode method_3_code 89 = .ok (.ireturn, 1) := by decide +kernel
theorem d1_90 : decode method_3_code 90 = .ok (.iload_n 0, 1) := by decide +kernel
theorem d1_91 : decode method_3_code 91 = .ok (.bipush 11, 2) := by decide +kernel
theorem d1_93 : decode method_3_code 93 = .ok (.if_icmp .ne 6, 3) := by decide +kernel
theorem d1_96 : decode method_3_code 96 = .ok (.ldc 18, 2) := by decide +kernel
theorem d1_98 : decode method_3_code 98 = .ok (.ireturn, 1) := by decide +kernel
theorem d1_99 : decode method_3_code 99 = .ok (.iload_n 0, 1) := by decide +kernel
theorem d1_100 : decode method_3_code 100 = .ok (.bipush 12, 2) := by decide +kernel
theorem d1_102 : decode method_3_code 102 = .ok (.if_icmp .ne 6, 3) := by decide +kernel
theorem d1_105 : decode method_3_code 105 = .ok (.ldc 19, 2) := by decide +kernel
theorem d1_107 : decode method_3_code 107 = .ok (.ireturn, 1) := by decide +kernel
theorem d1_108 : decode method_3_code 108 = .ok (.iload_n 0, 1) := by decide +kernel
theorem d1_109 : decode method_3_code 109 = .ok (.bipush 13, 2) := by decide +kernel
theorem d1_111 : decode method_3_code 111 = .ok (.if_icmp .ne 6, 3) := by decide +kernel
theorem d1_114 : decode method_3_code 114 = .ok (.ldc 20, 2) := by decide +kernel
theorem d1_116 : decode method_3_code 116 = .ok (.ireturn, 1) := by decide +kernel
theorem d1_117 : decode method_3_code 117 = .ok (.iload_n 0, 1) := by decide +kernel
theorem d1_118 : decode method_3_code 118 = .ok (.bipush 14, 2) := by decide +kernel
theorem d1_120 : decode method_3_code 120 = .ok (.if_icmp .ne 6, 3) := by decide +kernel
theorem d1_123 : decode method_3_code 123 = .ok (.ldc 21, 2) := by decide +kernel
theorem d1_125 : decode method_3_code 125 = .ok (.ireturn, 1) := by decide +kernel
theorem d1_126 : decode method_3_code 126 = .ok (.ldc 22, 2) := by decide +kernel
theorem d1_128 : decode method_3_code 128 = .ok (.ireturn, 1) := by decide +kernel
theorem pn_1 : plainName "com/example/units_to_scalars/unitstoscalars/ScalarValuesIsScalarValuePinLaw" = true := by first | (simp [plainName, overriddenIn]; done) | decide +kernel
theorem ef_1 (m : MethodId) (p1 : Int32) : entryFrame m #[(.int p1)] 1 = mkF m 0 #[.val (.int p1)] [] := by first | (simp [entryFrame, mkF, argsToLocals, Value.category]; done) | rfl
def Q1 (Z : State) (p1 : Int32) (h0 : Heap) (n0 : Nat) (v : Option Value) (h : Heap) (L : List Loc) : Prop := v = some (.int (F1 p1)) ∧ Fr n0 L ∧ h = h0
set_option maxRecDepth 65536 in
set_option maxHeartbeats 40000000 in
theorem rm1 (l : Launch) (Z : State) (a0 : Array Value) (hw : ∀ d ∈ tables_1, d.before a0 Z = true) (ws : List Jvm.Cond) (p1 : Int32)  (h0 : Heap) (n0 : Nat) (Z0 : n0 ≤ h0.size)  :
    MetFree l (⟨"com/example/units_to_scalars/unitstoscalars/ScalarValuesIsScalarValuePinLaw", "probe", "(I)I"⟩ : MethodName) (head1 (Jvm.Cond.code (⟨"com/example/units_to_scalars/unitstoscalars/ScalarValuesIsScalarValuePinLaw", "probe", "(I)I"⟩ : MethodName) method_3_code 1 (some .int) :: ws) ({ frames := 0, cells := 0, slots := 0, locals := 0 } : Room)) (fun a U => a = #[(.int p1)] ∧ Z.Warmed39 U.vm ∧ U.heap = h0) (fun _ _ _ _ _ => True) (fun _ U o U' => ∃ v L, o = .returned v ∧ Q1 Z p1 h0 n0 v U'.heap L ∧ FrameEnd U o U' L ({ frames := 0, cells := 0, slots := 0, locals := 0 } : Room).cells ({ frames := 0, cells := 0, slots := 0, locals := 0 } : Room).slots) := by
  refine MetFree.of_bodySF (plainFor_of_name pn_1) hisR ?_
  intro p e s m args below meth c s₁ Bd hml0 hP hK
  obtain ⟨rfl, hZ, hh⟩ := hP
  have hx := Bd.exec
  have hby := Bd.bytes
  have hml : c.maxLocals = 1 := hml0
  have hown : s.vm.findClass "com/example/units_to_scalars/unitstoscalars/ScalarValuesIsScalarValuePinLaw" = some m.cls := findClass_of_methodNamed Bd.named
  have hnm := (name_of_methodNamed Bd.named Bd.method).1
  have X0 : Stand p l e ({ frames := 0, cells := 0, slots := 0, locals := 0 } : Room) s m #[(.int p1)] below meth c s₁ [] 0 0 := Stand.of_body Bd
  have e0 : s₁.heap = h0 := by rw [← hh, Bd.state]; rfl
  have N0 := Fr.nil n0
  suffices hG : OwnG p e below s (Q1 Z p1 h0 n0) ({ frames := 0, cells := 0, slots := 0, locals := 0 } : Room).cells ({ frames := 0, cells := 0, slots := 0, locals := 0 } : Room).slots s₁ (mkF m 0 #[.val (.int p1)] []) by
    obtain ⟨s2, o2, g1, g2⟩ := hG
    exact ⟨s2, o2, castTop (ef_1 m p1) g1, g2⟩
  have sg1 : ∀ t, Steps p.tables e below (s₁.setTop (mkF m 1 #[.val (.int p1)] [(.int p1)])) t → Steps p.tables e below (s₁.setTop (mkF m 0 #[.val (.int p1)] [])) t := by
    intro t k
    refine XS.iloadN X0.here hx rfl (hb hby d1_0) rfl ?_
    show Steps p.tables e below (s₁.setTop (mkF m 1 #[.val (.int p1)] [(.int p1)])) _
    exact k
  refine OwnG.st sg1 ?_
  by_cases hc1_2 : p1 = (0 : Int32)
  · have sg3 : ∀ t, Steps p.tables e below (s₁.setTop (mkF m 5 #[.val (.int p1)] [(.int (-1 : Int32))])) t → Steps p.tables e below (s₁.setTop (mkF m 1 #[.val (.int p1)] [(.int p1)])) t := by
      intro t k
      refine XS.ifNo X0.here hx rfl (hb hby d1_1) rfl ((if0 _ _).trans (teq hc1_2).2) ?_
      show Steps p.tables e below (s₁.setTop (mkF m 4 #[.val (.int p1)] [])) _
      refine XS.iconst X0.here hx rfl (hb hby d1_4) ?_
      show Steps p.tables e below (s₁.setTop (mkF m 5 #[.val (.int p1)] [(.int (-1 : Int32))])) _
      exact k
    refine OwnG.st sg3 ?_
    have hv : (-1 : Int32) = F1 p1 := by simp only [F1, if_pos hc1_2]
    exact OwnG.retI X0 hx Bd.returns (BodyLoose.notSynchronized Bd) (hb hby d1_5) ⟨congrArg (fun w => some (Value.int w)) hv, N0, e0⟩ (by decide) (by decide)
  · have sg4 : ∀ t, Steps p.tables e below (s₁.setTop (mkF m 8 #[.val (.int p1)] [(.int (1 : Int32)), (.int p1)])) t → Steps p.tables e below (s₁.setTop (mkF m 1 #[.val (.int p1)] [(.int p1)])) t := by
      intro t k
      refine XS.ifYes X0.here hx rfl (pc0 := 1) (pc' := 6) rfl (hb hby d1_1) rfl ((if0 _ _).trans (feq hc1_2).2) (by decide) (by decide) ?_
      show Steps p.tables e below (s₁.setTop (mkF m 6 #[.val (.int p1)] [])) _
      refine XS.iloadN X0.here hx rfl (hb hby d1_6) rfl ?_
      show Steps p.tables e below (s₁.setTop (mkF m 7 #[.val (.int p1)] [(.int p1)])) _
      refine XS.iconst X0.here hx rfl (hb hby d1_7) ?_
      show Steps p.tables e below (s₁.setTop (mkF m 8 #[.val (.int p1)] [(.int (1 : Int32)), (.int p1)])) _
      exact k
    refine OwnG.st sg4 ?_
    by_cases hc8_5 : p1 = (1 : Int32)
    · have sg6 : ∀ t, Steps p.tables e below (s₁.setTop (mkF m 12 #[.val (.int p1)] [(.int (0 : Int32))])) t → Steps p.tables e below (s₁.setTop (mkF m 8 #[.val (.int p1)] [(.int (1 : Int32)), (.int p1)])) t := by
        intro t k
        refine XS.icmpNo X0.here hx rfl (hb hby d1_8) rfl (teq hc8_5).2 ?_
        show Steps p.tables e below (s₁.setTop (mkF m 11 #[.val (.int p1)] [])) _
        refine XS.iconst X0.here hx rfl (hb hby d1_11) ?_
        show Steps p.tables e below (s₁.setTop (mkF m 12 #[.val (.int p1)] [(.int (0 : Int32))])) _
        exact k
      refine OwnG.st sg6 ?_
      have hv : (0 : Int32) = F1 p1 := by simp only [F1, if_neg hc1_2, if_pos hc8_5]
      exact OwnG.retI X0 hx Bd.returns (BodyLoose.notSynchronized Bd) (hb hby d1_12) ⟨congrArg (fun w => some (Value.int w)) hv, N0, e0⟩ (by decide) (by decide)
    · have sg7 : ∀ t, Steps p.tables e below (s₁.setTop (mkF m 15 #[.val (.int p1)] [(.int (2 : Int32)), (.int p1)])) t → Steps p.tables e below (s₁.setTop (mkF m 8 #[.val (.int p1)] [(.int (1 : Int32)), (.int p1)])) t := by
        intro t k
        refine XS.icmpYes X0.here hx rfl (pc0 := 8) (pc' := 13) rfl (hb hby d1_8) rfl (feq hc8_5).2 (by decide) (by decide) ?_
        show Steps p.tables e below (s₁.setTop (mkF m 13 #[.val (.int p1)] [])) _
        refine XS.iloadN X0.here hx rfl (hb hby d1_13) rfl ?_
        show Steps p.tables e below (s₁.setTop (mkF m 14 #[.val (.int p1)] [(.int p1)])) _
        refine XS.iconst X0.here hx rfl (hb hby d1_14) ?_
        show Steps p.tables e below (s₁.setTop (mkF m 15 #[.val (.int p1)] [(.int (2 : Int32)), (.int p1)])) _
        exact k
      refine OwnG.st sg7 ?_
      by_cases hc15_8 : p1 = (2 : Int32)
      · have sg9 : ∀ t, Steps p.tables e below (s₁.setTop (mkF m 20 #[.val (.int p1)] [(.int (55295 : Int32))])) t → Steps p.tables e below (s₁.setTop (mkF m 15 #[.val (.int p1)] [(.int (2 : Int32)), (.int p1)])) t := by
          intro t k
          refine XS.icmpNo X0.here hx rfl (hb hby d1_15) rfl (teq hc15_8).2 ?_
          show Steps p.tables e below (s₁.setTop (mkF m 18 #[.val (.int p1)] [])) _
          refine X0.ldcInt hx hown (mvT hZ (hw _ (List.mem_of_getElem? (i := 25) rfl))) (g := (mkF m 18 #[.val (.int p1)] [])) rfl (hb hby d1_18) _ ?_
          show Steps p.tables e below (s₁.setTop (mkF m 20 #[.val (.int p1)] [(.int (55295 : Int32))])) _
          exact k
        refine OwnG.st sg9 ?_
        have hv : (55295 : Int32) = F1 p1 := by simp only [F1, if_neg hc1_2, if_neg hc8_5, if_pos hc15_8]
        exact OwnG.retI X0 hx Bd.returns (BodyLoose.notSynchronized Bd) (hb hby d1_20) ⟨congrArg (fun w => some (Value.int w)) hv, N0, e0⟩ (by decide) (by decide)
      · have sg10 : ∀ t, Steps p.tables e below (s₁.setTop (mkF m 23 #[.val (.int p1)] [(.int (3 : Int32)), (.int p1)])) t → Steps p.tables e below (s₁.setTop (mkF m 15 #[.val (.int p1)] [(.int (2 : Int32)), (.int p1)])) t := by
          intro t k
          refine XS.icmpYes X0.here hx rfl (pc0 := 15) (pc' := 21) rfl (hb hby d1_15) rfl (feq hc15_8).2 (by decide) (by decide) ?_
          show Steps p.tables e below (s₁.setTop (mkF m 21 #[.val (.int p1)] [])) _
          refine XS.iloadN X0.here hx rfl (hb hby d1_21) rfl ?_
          show Steps p.tables e below (s₁.setTop (mkF m 22 #[.val (.int p1)] [(.int p1)])) _
          refine XS.iconst X0.here hx rfl (hb hby d1_22) ?_
          show Steps p.tables e below (s₁.setTop (mkF m 23 #[.val (.int p1)] [(.int (3 : Int32)), (.int p1)])) _
          exact k
        refine OwnG.st sg10 ?_
        by_cases hc23_11 : p1 = (3 : Int32)
        · have sg12 : ∀ t, Steps p.tables e below (s₁.setTop (mkF m 28 #[.val (.int p1)] [(.int (55296 : Int32))])) t → Steps p.tables e below (s₁.setTop (mkF m 23 #[.val (.int p1)] [(.int (3 : Int32)), (.int p1)])) t := by
            intro t k
            refine XS.icmpNo X0.here hx rfl (hb hby d1_23) rfl (teq hc23_11).2 ?_
            show Steps p.tables e below (s₁.setTop (mkF m 26 #[.val (.int p1)] [])) _
            refine X0.ldcInt hx hown (mvT hZ (hw _ (List.mem_of_getElem? (i := 4) rfl))) (g := (mkF m 26 #[.val (.int p1)] [])) rfl (hb hby d1_26) _ ?_
            show Steps p.tables e below (s₁.setTop (mkF m 28 #[.val (.int p1)] [(.int (55296 : Int32))])) _
            exact k
          refine OwnG.st sg12 ?_
          have hv : (55296 : Int32) = F1 p1 := by simp only [F1, if_neg hc1_2, if_neg hc8_5, if_neg hc15_8, if_pos hc23_11]
          exact OwnG.retI X0 hx Bd.returns (BodyLoose.notSynchronized Bd) (hb hby d1_28) ⟨congrArg (fun w => some (Value.int w)) hv, N0, e0⟩ (by decide) (by decide)
        · have sg13 : ∀ t, Steps p.tables e below (s₁.setTop (mkF m 31 #[.val (.int p1)] [(.int (4 : Int32)), (.int p1)])) t → Steps p.tables e below (s₁.setTop (mkF m 23 #[.val (.int p1)] [(.int (3 : Int32)), (.int p1)])) t := by
            intro t k
            refine XS.icmpYes X0.here hx rfl (pc0 := 23) (pc' := 29) rfl (hb hby d1_23) rfl (feq hc23_11).2 (by decide) (by decide) ?_
            show Steps p.tables e below (s₁.setTop (mkF m 29 #[.val (.int p1)] [])) _
            refine XS.iloadN X0.here hx rfl (hb hby d1_29) rfl ?_
            show Steps p.tables e below (s₁.setTop (mkF m 30 #[.val (.int p1)] [(.int p1)])) _
            refine XS.iconst X0.here hx rfl (hb hby d1_30) ?_
            show Steps p.tables e below (s₁.setTop (mkF m 31 #[.val (.int p1)] [(.int (4 : Int32)), (.int p1)])) _
            exact k
          refine OwnG.st sg13 ?_
          by_cases hc31_14 : p1 = (4 : Int32)
          · have sg15 : ∀ t, Steps p.tables e below (s₁.setTop (mkF m 36 #[.val (.int p1)] [(.int (57343 : Int32))])) t → Steps p.tables e below (s₁.setTop (mkF m 31 #[.val (.int p1)] [(.int (4 : Int32)), (.int p1)])) t := by
              intro t k
              refine XS.icmpNo X0.here hx rfl (hb hby d1_31) rfl (teq hc31_14).2 ?_
              show Steps p.tables e below (s₁.setTop (mkF m 34 #[.val (.int p1)] [])) _
              refine X0.ldcInt hx hown (mvT hZ (hw _ (List.mem_of_getElem? (i := 18) rfl))) (g := (mkF m 34 #[.val (.int p1)] [])) rfl (hb hby d1_34) _ ?_
              show Steps p.tables e below (s₁.setTop (mkF m 36 #[.val (.int p1)] [(.int (57343 : Int32))])) _
              exact k
            refine OwnG.st sg15 ?_
            have hv : (57343 : Int32) = F1 p1 := by simp only [F1, if_neg hc1_2, if_neg hc8_5, if_neg hc15_8, if_neg hc23_11, if_pos hc31_14]
            exact OwnG.retI X0 hx Bd.returns (BodyLoose.notSynchronized Bd) (hb hby d1_36) ⟨congrArg (fun w => some (Value.int w)) hv, N0, e0⟩ (by decide) (by decide)
          · have sg16 : ∀ t, Steps p.tables e below (s₁.setTop (mkF m 39 #[.val (.int p1)] [(.int (5 : Int32)), (.int p1)])) t → Steps p.tables e below (s₁.setTop (mkF m 31 #[.val (.int p1)] [(.int (4 : Int32)), (.int p1)])) t := by
              intro t k
              refine XS.icmpYes X0.here hx rfl (pc0 := 31) (pc' := 37) rfl (hb hby d1_31) rfl (feq hc31_14).2 (by decide) (by decide) ?_
              show Steps p.tables e below (s₁.setTop (mkF m 37 #[.val (.int p1)] [])) _
              refine XS.iloadN X0.here hx rfl (hb hby d1_37) rfl ?_
              show Steps p.tables e below (s₁.setTop (mkF m 38 #[.val (.int p1)] [(.int p1)])) _
              refine XS.iconst X0.here hx rfl (hb hby d1_38) ?_
              show Steps p.tables e below (s₁.setTop (mkF m 39 #[.val (.int p1)] [(.int (5 : Int32)), (.int p1)])) _
              exact k
            refine OwnG.st sg16 ?_
            by_cases hc39_17 : p1 = (5 : Int32)
            · have sg18 : ∀ t, Steps p.tables e below (s₁.setTop (mkF m 44 #[.val (.int p1)] [(.int (57344 : Int32))])) t → Steps p.tables e below (s₁.setTop (mkF m 39 #[.val (.int p1)] [(.int (5 : Int32)), (.int p1)])) t := by
                intro t k
                refine XS.icmpNo X0.here hx rfl (hb hby d1_39) rfl (teq hc39_17).2 ?_
                show Steps p.tables e below (s₁.setTop (mkF m 42 #[.val (.int p1)] [])) _
                refine X0.ldcInt hx hown (mvT hZ (hw _ (List.mem_of_getElem? (i := 22) rfl))) (g := (mkF m 42 #[.val (.int p1)] [])) rfl (hb hby d1_42) _ ?_
                show Steps p.tables e below (s₁.setTop (mkF m 44 #[.val (.int p1)] [(.int (57344 : Int32))])) _
                exact k
              refine OwnG.st sg18 ?_
              have hv : (57344 : Int32) = F1 p1 := by simp only [F1, if_neg hc1_2, if_neg hc8_5, if_neg hc15_8, if_neg hc23_11, if_neg hc31_14, if_pos hc39_17]
              exact OwnG.retI X0 hx Bd.returns (BodyLoose.notSynchronized Bd) (hb hby d1_44) ⟨congrArg (fun w => some (Value.int w)) hv, N0, e0⟩ (by decide) (by decide)
            · have sg19 : ∀ t, Steps p.tables e below (s₁.setTop (mkF m 48 #[.val (.int p1)] [(.int (6 : Int32)), (.int p1)])) t → Steps p.tables e below (s₁.setTop (mkF m 39 #[.val (.int p1)] [(.int (5 : Int32)), (.int p1)])) t := by
                intro t k
                refine XS.icmpYes X0.here hx rfl (pc0 := 39) (pc' := 45) rfl (hb hby d1_39) rfl (feq hc39_17).2 (by decide) (by decide) ?_
                show Steps p.tables e below (s₁.setTop (mkF m 45 #[.val (.int p1)] [])) _
                refine XS.iloadN X0.here hx rfl (hb hby d1_45) rfl ?_
                show Steps p.tables e below (s₁.setTop (mkF m 46 #[.val (.int p1)] [(.int p1)])) _
                refine XS.bipush X0.here hx rfl (hb hby d1_46) ?_
                show Steps p.tables e below (s₁.setTop (mkF m 48 #[.val (.int p1)] [(.int (6 : Int32)), (.int p1)])) _
                exact k
              refine OwnG.st sg19 ?_
              by_cases hc48_20 : p1 = (6 : Int32)
              · have sg21 : ∀ t, Steps p.tables e below (s₁.setTop (mkF m 53 #[.val (.int p1)] [(.int (1114111 : Int32))])) t → Steps p.tables e below (s₁.setTop (mkF m 48 #[.val (.int p1)] [(.int (6 : Int32)), (.int p1)])) t := by
                  intro t k
                  refine XS.icmpNo X0.here hx rfl (hb hby d1_48) rfl (teq hc48_20).2 ?_
                  show Steps p.tables e below (s₁.setTop (mkF m 51 #[.val (.int p1)] [])) _
                  refine X0.ldcInt hx hown (mvT hZ (hw _ (List.mem_of_getElem? (i := 16) rfl))) (g := (mkF m 51 #[.val (.int p1)] [])) rfl (hb hby d1_51) _ ?_
                  show Steps p.tables e below (s₁.setTop (mkF m 53 #[.val (.int p1)] [(.int (1114111 : Int32))])) _
                  exact k
                refine OwnG.st sg21 ?_
                have hv : (1114111 : Int32) = F1 p1 := by simp only [F1, if_neg hc1_2, if_neg hc8_5, if_neg hc15_8, if_neg hc23_11, if_neg hc31_14, if_neg hc39_17, if_pos hc48_20]
                exact OwnG.retI X0 hx Bd.returns (BodyLoose.notSynchronized Bd) (hb hby d1_53) ⟨congrArg (fun w => some (Value.int w)) hv, N0, e0⟩ (by decide) (by decide)
              · have sg22 : ∀ t, Steps p.tables e below (s₁.setTop (mkF m 57 #[.val (.int p1)] [(.int (7 : Int32)), (.int p1)])) t → Steps p.tables e below (s₁.setTop (mkF m 48 #[.val (.int p1)] [(.int (6 : Int32)), (.int p1)])) t := by
                  intro t k
                  refine XS.icmpYes X0.here hx rfl (pc0 := 48) (pc' := 54) rfl (hb hby d1_48) rfl (feq hc48_20).2 (by decide) (by decide) ?_
                  show Steps p.tables e below (s₁.setTop (mkF m 54 #[.val (.int p1)] [])) _
                  refine XS.iloadN X0.here hx rfl (hb hby d1_54) rfl ?_
                  show Steps p.tables e below (s₁.setTop (mkF m 55 #[.val (.int p1)] [(.int p1)])) _
                  refine XS.bipush X0.here hx rfl (hb hby d1_55) ?_
                  show Steps p.tables e below (s₁.setTop (mkF m 57 #[.val (.int p1)] [(.int (7 : Int32)), (.int p1)])) _
                  exact k
                refine OwnG.st sg22 ?_
                by_cases hc57_23 : p1 = (7 : Int32)
                · have sg24 : ∀ t, Steps p.tables e below (s₁.setTop (mkF m 62 #[.val (.int p1)] [(.int (1114112 : Int32))])) t → Steps p.tables e below (s₁.setTop (mkF m 57 #[.val (.int p1)] [(.int (7 : Int32)), (.int p1)])) t := by
                    intro t k
                    refine XS.icmpNo X0.here hx rfl (hb hby d1_57) rfl (teq hc57_23).2 ?_
                    show Steps p.tables e below (s₁.setTop (mkF m 60 #[.val (.int p1)] [])) _
                    refine X0.ldcInt hx hown (mvT hZ (hw _ (List.mem_of_getElem? (i := 24) rfl))) (g := (mkF m 60 #[.val (.int p1)] [])) rfl (hb hby d1_60) _ ?_
                    show Steps p.tables e below (s₁.setTop (mkF m 62 #[.val (.int p1)] [(.int (1114112 : Int32))])) _
                    exact k
                  refine OwnG.st sg24 ?_
                  have hv : (1114112 : Int32) = F1 p1 := by simp only [F1, if_neg hc1_2, if_neg hc8_5, if_neg hc15_8, if_neg hc23_11, if_neg hc31_14, if_neg hc39_17, if_neg hc48_20, if_pos hc57_23]
                  exact OwnG.retI X0 hx Bd.returns (BodyLoose.notSynchronized Bd) (hb hby d1_62) ⟨congrArg (fun w => some (Value.int w)) hv, N0, e0⟩ (by decide) (by decide)
                · have sg25 : ∀ t, Steps p.tables e below (s₁.setTop (mkF m 66 #[.val (.int p1)] [(.int (8 : Int32)), (.int p1)])) t → Steps p.tables e below (s₁.setTop (mkF m 57 #[.val (.int p1)] [(.int (7 : Int32)), (.int p1)])) t := by
                    intro t k
                    refine XS.icmpYes X0.here hx rfl (pc0 := 57) (pc' := 63) rfl (hb hby d1_57) rfl (feq hc57_23).2 (by decide) (by decide) ?_
                    show Steps p.tables e below (s₁.setTop (mkF m 63 #[.val (.int p1)] [])) _
                    refine XS.iloadN X0.here hx rfl (hb hby d1_63) rfl ?_
                    show Steps p.tables e below (s₁.setTop (mkF m 64 #[.val (.int p1)] [(.int p1)])) _
                    refine XS.bipush X0.here hx rfl (hb hby d1_64) ?_
                    show Steps p.tables e below (s₁.setTop (mkF m 66 #[.val (.int p1)] [(.int (8 : Int32)), (.int p1)])) _
                    exact k
                  refine OwnG.st sg25 ?_
                  by_cases hc66_26 : p1 = (8 : Int32)
                  · have sg27 : ∀ t, Steps p.tables e below (s₁.setTop (mkF m 71 #[.val (.int p1)] [(.int (-2147483648 : Int32))])) t → Steps p.tables e below (s₁.setTop (mkF m 66 #[.val (.int p1)] [(.int (8 : Int32)), (.int p1)])) t := by
                      intro t k
                      refine XS.icmpNo X0.here hx rfl (hb hby d1_66) rfl (teq hc66_26).2 ?_
                      show Steps p.tables e below (s₁.setTop (mkF m 69 #[.val (.int p1)] [])) _
                      refine X0.ldcInt hx hown (mvT hZ (hw _ (List.mem_of_getElem? (i := 29) rfl))) (g := (mkF m 69 #[.val (.int p1)] [])) rfl (hb hby d1_69) _ ?_
                      show Steps p.tables e below (s₁.setTop (mkF m 71 #[.val (.int p1)] [(.int (-2147483648 : Int32))])) _
                      exact k
                    refine OwnG.st sg27 ?_
                    have hv : (-2147483648 : Int32) = F1 p1 := by simp only [F1, if_neg hc1_2, if_neg hc8_5, if_neg hc15_8, if_neg hc23_11, if_neg hc31_14, if_neg hc39_17, if_neg hc48_20, if_neg hc57_23, if_pos hc66_26]
                    exact OwnG.retI X0 hx Bd.returns (BodyLoose.notSynchronized Bd) (hb hby d1_71) ⟨congrArg (fun w => some (Value.int w)) hv, N0, e0⟩ (by decide) (by decide)
                  · have sg28 : ∀ t, Steps p.tables e below (s₁.setTop (mkF m 75 #[.val (.int p1)] [(.int (9 : Int32)), (.int p1)])) t → Steps p.tables e below (s₁.setTop (mkF m 66 #[.val (.int p1)] [(.int (8 : Int32)), (.int p1)])) t := by
                      intro t k
                      refine XS.icmpYes X0.here hx rfl (pc0 := 66) (pc' := 72) rfl (hb hby d1_66) rfl (feq hc66_26).2 (by decide) (by decide) ?_
                      show Steps p.tables e below (s₁.setTop (mkF m 72 #[.val (.int p1)] [])) _
                      refine XS.iloadN X0.here hx rfl (hb hby d1_72) rfl ?_
                      show Steps p.tables e below (s₁.setTop (mkF m 73 #[.val (.int p1)] [(.int p1)])) _
                      refine XS.bipush X0.here hx rfl (hb hby d1_73) ?_
                      show Steps p.tables e below (s₁.setTop (mkF m 75 #[.val (.int p1)] [(.int (9 : Int32)), (.int p1)])) _
                      exact k
                    refine OwnG.st sg28 ?_
                    by_cases hc75_29 : p1 = (9 : Int32)
                    · have sg30 : ∀ t, Steps p.tables e below (s₁.setTop (mkF m 80 #[.val (.int p1)] [(.int (2147483647 : Int32))])) t → Steps p.tables e below (s₁.setTop (mkF m 75 #[.val (.int p1)] [(.int (9 : Int32)), (.int p1)])) t := by
                        intro t k
                        refine XS.icmpNo X0.here hx rfl (hb hby d1_75) rfl (teq hc75_29).2 ?_
                        show Steps p.tables e below (s₁.setTop (mkF m 78 #[.val (.int p1)] [])) _
                        refine X0.ldcInt hx hown (mvT hZ (hw _ (List.mem_of_getElem? (i := 26) rfl))) (g := (mkF m 78 #[.val (.int p1)] [])) rfl (hb hby d1_78) _ ?_
                        show Steps p.tables e below (s₁.setTop (mkF m 80 #[.val (.int p1)] [(.int (2147483647 : Int32))])) _
                        exact k
                      refine OwnG.st sg30 ?_
                      have hv : (2147483647 : Int32) = F1 p1 := by simp only [F1, if_neg hc1_2, if_neg hc8_5, if_neg hc15_8, if_neg hc23_11, if_neg hc31_14, if_neg hc39_17, if_neg hc48_20, if_neg hc57_23, if_neg hc66_26, if_pos hc75_29]
                      exact OwnG.retI X0 hx Bd.returns (BodyLoose.notSynchronized Bd) (hb hby d1_80) ⟨congrArg (fun w => some (Value.int w)) hv, N0, e0⟩ (by decide) (by decide)
                    · have sg31 : ∀ t, Steps p.tables e below (s₁.setTop (mkF m 84 #[.val (.int p1)] [(.int (10 : Int32)), (.int p1)])) t → Steps p.tables e below (s₁.setTop (mkF m 75 #[.val (.int p1)] [(.int (9 : Int32)), (.int p1)])) t := by
                        intro t k
                        refine XS.icmpYes X0.here hx rfl (pc0 := 75) (pc' := 81) rfl (hb hby d1_75) rfl (feq hc75_29).2 (by decide) (by decide) ?_
                        show Steps p.tables e below (s₁.setTop (mkF m 81 #[.val (.int p1)] [])) _
                        refine XS.iloadN X0.here hx rfl (hb hby d1_81) rfl ?_
                        show Steps p.tables e below (s₁.setTop (mkF m 82 #[.val (.int p1)] [(.int p1)])) _
                        refine XS.bipush X0.here hx rfl (hb hby d1_82) ?_
                        show Steps p.tables e below (s₁.setTop (mkF m 84 #[.val (.int p1)] [(.int (10 : Int32)), (.int p1)])) _
                        exact k
                      refine OwnG.st sg31 ?_
                      by_cases hc84_32 : p1 = (10 : Int32)
                      · have sg33 : ∀ t, Steps p.tables e below (s₁.setTop (mkF m 89 #[.val (.int p1)] [(.int (65533 : Int32))])) t → Steps p.tables e below (s₁.setTop (mkF m 84 #[.val (.int p1)] [(.int (10 : Int32)), (.int p1)])) t := by
                          intro t k
                          refine XS.icmpNo X0.here hx rfl (hb hby d1_84) rfl (teq hc84_32).2 ?_
                          show Steps p.tables e below (s₁.setTop (mkF m 87 #[.val (.int p1)] [])) _
                          refine X0.ldcInt hx hown (mvT hZ (hw _ (List.mem_of_getElem? (i := 28) rfl))) (g := (mkF m 87 #[.val (.int p1)] [])) rfl (hb hby d1_87) _ ?_
                          show Steps p.tables e below (s₁.setTop (mkF m 89 #[.val (.int p1)] [(.int (65533 : Int32))])) _
                          exact k
                        refine OwnG.st sg33 ?_
                        have hv : (65533 : Int32) = F1 p1 := by simp only [F1, if_neg hc1_2, if_neg hc8_5, if_neg hc15_8, if_neg hc23_11, if_neg hc31_14, if_neg hc39_17, if_neg hc48_20, if_neg hc57_23, if_neg hc66_26, if_neg hc75_29, if_pos hc84_32]
                        exact OwnG.retI X0 hx Bd.returns (BodyLoose.notSynchronized Bd) (hb hby d1_89) ⟨congrArg (fun w => some (Value.int w)) hv, N0, e0⟩ (by decide) (by decide)
                      · have sg34 : ∀ t, Steps p.tables e below (s₁.setTop (mkF m 93 #[.val (.int p1)] [(.int (11 : Int32)), (.int p1)])) t → Steps p.tables e below (s₁.setTop (mkF m 84 #[.val (.int p1)] [(.int (10 : Int32)), (.int p1)])) t := by
                          intro t k
                          refine XS.icmpYes X0.here hx rfl (pc0 := 84) (pc' := 90) rfl (hb hby d1_84) rfl (feq hc84_32).2 (by decide) (by decide) ?_
                          show Steps p.tables e below (s₁.setTop (mkF m 90 #[.val (.int p1)] [])) _
                          refine XS.iloadN X0.here hx rfl (hb hby d1_90) rfl ?_
                          show Steps p.tables e below (s₁.setTop (mkF m 91 #[.val (.int p1)] [(.int p1)])) _
                          refine XS.bipush X0.here hx rfl (hb hby d1_91) ?_
                          show Steps p.tables e below (s₁.setTop (mkF m 93 #[.val (.int p1)] [(.int (11 : Int32)), (.int p1)])) _
                          exact k
                        refine OwnG.st sg34 ?_
                        by_cases hc93_35 : p1 = (11 : Int32)
                        · have sg36 : ∀ t, Steps p.tables e below (s₁.setTop (mkF m 98 #[.val (.int p1)] [(.int (64976 : Int32))])) t → Steps p.tables e below (s₁.setTop (mkF m 93 #[.val (.int p1)] [(.int (11 : Int32)), (.int p1)])) t := by
                            intro t k
                            refine XS.icmpNo X0.here hx rfl (hb hby d1_93) rfl (teq hc93_35).2 ?_
                            show Steps p.tables e below (s₁.setTop (mkF m 96 #[.val (.int p1)] [])) _
                            refine X0.ldcInt hx hown (mvT hZ (hw _ (List.mem_of_getElem? (i := 30) rfl))) (g := (mkF m 96 #[.val (.int p1)] [])) rfl (hb hby d1_96) _ ?_
                            show Steps p.tables e below (s₁.setTop (mkF m 98 #[.val (.int p1)] [(.int (64976 : Int32))])) _
                            exact k
                          refine OwnG.st sg36 ?_
                          have hv : (64976 : Int32) = F1 p1 := by simp only [F1, if_neg hc1_2, if_neg hc8_5, if_neg hc15_8, if_neg hc23_11, if_neg hc31_14, if_neg hc39_17, if_neg hc48_20, if_neg hc57_23, if_neg hc66_26, if_neg hc75_29, if_neg hc84_32, if_pos hc93_35]
                          exact OwnG.retI X0 hx Bd.returns (BodyLoose.notSynchronized Bd) (hb hby d1_98) ⟨congrArg (fun w => some (Value.int w)) hv, N0, e0⟩ (by decide) (by decide)
                        · have sg37 : ∀ t, Steps p.tables e below (s₁.setTop (mkF m 102 #[.val (.int p1)] [(.int (12 : Int32)), (.int p1)])) t → Steps p.tables e below (s₁.setTop (mkF m 93 #[.val (.int p1)] [(.int (11 : Int32)), (.int p1)])) t := by
                            intro t k
                            refine XS.icmpYes X0.here hx rfl (pc0 := 93) (pc' := 99) rfl (hb hby d1_93) rfl (feq hc93_35).2 (by decide) (by decide) ?_
                            show Steps p.tables e below (s₁.setTop (mkF m 99 #[.val (.int p1)] [])) _
                            refine XS.iloadN X0.here hx rfl (hb hby d1_99) rfl ?_
                            show Steps p.tables e below (s₁.setTop (mkF m 100 #[.val (.int p1)] [(.int p1)])) _
                            refine XS.bipush X0.here hx rfl (hb hby d1_100) ?_
                            show Steps p.tables e below (s₁.setTop (mkF m 102 #[.val (.int p1)] [(.int (12 : Int32)), (.int p1)])) _
                            exact k
                          refine OwnG.st sg37 ?_
                          by_cases hc102_38 : p1 = (12 : Int32)
                          · have sg39 : ∀ t, Steps p.tables e below (s₁.setTop (mkF m 107 #[.val (.int p1)] [(.int (65534 : Int32))])) t → Steps p.tables e below (s₁.setTop (mkF m 102 #[.val (.int p1)] [(.int (12 : Int32)), (.int p1)])) t := by
                              intro t k
                              refine XS.icmpNo X0.here hx rfl (hb hby d1_102) rfl (teq hc102_38).2 ?_
                              show Steps p.tables e below (s₁.setTop (mkF m 105 #[.val (.int p1)] [])) _
                              refine X0.ldcInt hx hown (mvT hZ (hw _ (List.mem_of_getElem? (i := 27) rfl))) (g := (mkF m 105 #[.val (.int p1)] [])) rfl (hb hby d1_105) _ ?_
                              show Steps p.tables e below (s₁.setTop (mkF m 107 #[.val (.int p1)] [(.int (65534 : Int32))])) _
                              exact k
                            refine OwnG.st sg39 ?_
                            have hv : (65534 : Int32) = F1 p1 := by simp only [F1, if_neg hc1_2, if_neg hc8_5, if_neg hc15_8, if_neg hc23_11, if_neg hc31_14, if_neg hc39_17, if_neg hc48_20, if_neg hc57_23, if_neg hc66_26, if_neg hc75_29, if_neg hc84_32, if_neg hc93_35, if_pos hc102_38]
                            exact OwnG.retI X0 hx Bd.returns (BodyLoose.notSynchronized Bd) (hb hby d1_107) ⟨congrArg (fun w => some (Value.int w)) hv, N0, e0⟩ (by decide) (by decide)
                          · have sg40 : ∀ t, Steps p.tables e below (s₁.setTop (mkF m 111 #[.val (.int p1)] [(.int (13 : Int32)), (.int p1)])) t → Steps p.tables e below (s₁.setTop (mkF m 102 #[.val (.int p1)] [(.int (12 : Int32)), (.int p1)])) t := by
                              intro t k
                              refine XS.icmpYes X0.here hx rfl (pc0 := 102) (pc' := 108) rfl (hb hby d1_102) rfl (feq hc102_38).2 (by decide) (by decide) ?_
                              show Steps p.tables e below (s₁.setTop (mkF m 108 #[.val (.int p1)] [])) _
                              refine XS.iloadN X0.here hx rfl (hb hby d1_108) rfl ?_
                              show Steps p.tables e below (s₁.setTop (mkF m 109 #[.val (.int p1)] [(.int p1)])) _
                              refine XS.bipush X0.here hx rfl (hb hby d1_109) ?_
                              show Steps p.tables e below (s₁.setTop (mkF m 111 #[.val (.int p1)] [(.int (13 : Int32)), (.int p1)])) _
                              exact k
                            refine OwnG.st sg40 ?_
                            by_cases hc111_41 : p1 = (13 : Int32)
                            · have sg42 : ∀ t, Steps p.tables e below (s₁.setTop (mkF m 116 #[.val (.int p1)] [(.int (56320 : Int32))])) t → Steps p.tables e below (s₁.setTop (mkF m 111 #[.val (.int p1)] [(.int (13 : Int32)), (.int p1)])) t := by
                                intro t k
                                refine XS.icmpNo X0.here hx rfl (hb hby d1_111) rfl (teq hc111_41).2 ?_
                                show Steps p.tables e below (s₁.setTop (mkF m 114 #[.val (.int p1)] [])) _
                                refine X0.ldcInt hx hown (mvT hZ (hw _ (List.mem_of_getElem? (i := 19) rfl))) (g := (mkF m 114 #[.val (.int p1)] [])) rfl (hb hby d1_114) _ ?_
                                show Steps p.tables e below (s₁.setTop (mkF m 116 #[.val (.int p1)] [(.int (56320 : Int32))])) _
                                exact k
                              refine OwnG.st sg42 ?_
                              have hv : (56320 : Int32) = F1 p1 := by simp only [F1, if_neg hc1_2, if_neg hc8_5, if_neg hc15_8, if_neg hc23_11, if_neg hc31_14, if_neg hc39_17, if_neg hc48_20, if_neg hc57_23, if_neg hc66_26, if_neg hc75_29, if_neg hc84_32, if_neg hc93_35, if_neg hc102_38, if_pos hc111_41]
                              exact OwnG.retI X0 hx Bd.returns (BodyLoose.notSynchronized Bd) (hb hby d1_116) ⟨congrArg (fun w => some (Value.int w)) hv, N0, e0⟩ (by decide) (by decide)
                            · have sg43 : ∀ t, Steps p.tables e below (s₁.setTop (mkF m 120 #[.val (.int p1)] [(.int (14 : Int32)), (.int p1)])) t → Steps p.tables e below (s₁.setTop (mkF m 111 #[.val (.int p1)] [(.int (13 : Int32)), (.int p1)])) t := by
                                intro t k
                                refine XS.icmpYes X0.here hx rfl (pc0 := 111) (pc' := 117) rfl (hb hby d1_111) rfl (feq hc111_41).2 (by decide) (by decide) ?_
                                show Steps p.tables e below (s₁.setTop (mkF m 117 #[.val (.int p1)] [])) _
                                refine XS.iloadN X0.here hx rfl (hb hby d1_117) rfl ?_
                                show Steps p.tables e below (s₁.setTop (mkF m 118 #[.val (.int p1)] [(.int p1)])) _
                                refine XS.bipush X0.here hx rfl (hb hby d1_118) ?_
                                show Steps p.tables e below (s₁.setTop (mkF m 120 #[.val (.int p1)] [(.int (14 : Int32)), (.int p1)])) _
                                exact k
                              refine OwnG.st sg43 ?_
                              by_cases hc120_44 : p1 = (14 : Int32)
                              · have sg45 : ∀ t, Steps p.tables e below (s₁.setTop (mkF m 125 #[.val (.int p1)] [(.int (65536 : Int32))])) t → Steps p.tables e below (s₁.setTop (mkF m 120 #[.val (.int p1)] [(.int (14 : Int32)), (.int p1)])) t := by
                                  intro t k
                                  refine XS.icmpNo X0.here hx rfl (hb hby d1_120) rfl (teq hc120_44).2 ?_
                                  show Steps p.tables e below (s₁.setTop (mkF m 123 #[.val (.int p1)] [])) _
                                  refine X0.ldcInt hx hown (mvT hZ (hw _ (List.mem_of_getElem? (i := 23) rfl))) (g := (mkF m 123 #[.val (.int p1)] [])) rfl (hb hby d1_123) _ ?_
                                  show Steps p.tables e below (s₁.setTop (mkF m 125 #[.val (.int p1)] [(.int (65536 : Int32))])) _
                                  exact k
                                refine OwnG.st sg45 ?_
                                have hv : (65536 : Int32) = F1 p1 := by simp only [F1, if_neg hc1_2, if_neg hc8_5, if_neg hc15_8, if_neg hc23_11, if_neg hc31_14, if_neg hc39_17, if_neg hc48_20, if_neg hc57_23, if_neg hc66_26, if_neg hc75_29, if_neg hc84_32, if_neg hc93_35, if_neg hc102_38, if_neg hc111_41, if_pos hc120_44]
                                exact OwnG.retI X0 hx Bd.returns (BodyLoose.notSynchronized Bd) (hb hby d1_125) ⟨congrArg (fun w => some (Value.int w)) hv, N0, e0⟩ (by decide) (by decide)
                              · have sg46 : ∀ t, Steps p.tables e below (s₁.setTop (mkF m 128 #[.val (.int p1)] [(.int (65535 : Int32))])) t → Steps p.tables e below (s₁.setTop (mkF m 120 #[.val (.int p1)] [(.int (14 : Int32)), (.int p1)])) t := by
                                  intro t k
                                  refine XS.icmpYes X0.here hx rfl (pc0 := 120) (pc' := 126) rfl (hb hby d1_120) rfl (feq hc120_44).2 (by decide) (by decide) ?_
                                  show Steps p.tables e below (s₁.setTop (mkF m 126 #[.val (.int p1)] [])) _
                                  refine X0.ldcInt hx hown (mvT hZ (hw _ (List.mem_of_getElem? (i := 20) rfl))) (g := (mkF m 126 #[.val (.int p1)] [])) rfl (hb hby d1_126) _ ?_
                                  show Steps p.tables e below (s₁.setTop (mkF m 128 #[.val (.int p1)] [(.int (65535 : Int32))])) _
                                  exact k
                                refine OwnG.st sg46 ?_
                                have hv : (65535 : Int32) = F1 p1 := by simp only [F1, if_neg hc1_2, if_neg hc8_5, if_neg hc15_8, if_neg hc23_11, if_neg hc31_14, if_neg hc39_17, if_neg hc48_20, if_neg hc57_23, if_neg hc66_26, if_neg hc75_29, if_neg hc84_32, if_neg hc93_35, if_neg hc102_38, if_neg hc111_41, if_neg hc120_44]
                                exact OwnG.retI X0 hx Bd.returns (BodyLoose.notSynchronized Bd) (hb hby d1_128) ⟨congrArg (fun w => some (Value.int w)) hv, N0, e0⟩ (by decide) (by decide)
def F2 (p1 : Int32) : Int32 := (if p1 = (0 : Int32) then (0 : Int32) else (if p1 = (1 : Int32) then (1 : Int32) else (if p1 = (2 : Int32) then (1 : Int32) else (if p1 = (3 : Int32) then (0 : Int32) else (if p1 = (4 : Int32) then (0 : Int32) else (if p1 = (5 : Int32) then (1 : Int32) else (if p1 = (6 : Int32) then (1 : Int32) else (if p1 = (7 : Int32) then (0 : Int32) else (if p1 = (8 : Int32) then (0 : Int32) else (if p1 = (9 : Int32) then (0 : Int32) else (if p1 = (10 : Int32) then (1 : Int32) else (if p1 = (11 : Int32) then (1 : Int32) else (if p1 = (12 : Int32) then (1 : Int32) else (if p1 = (13 : Int32) then (0 : Int32) else (if p1 = (14 : Int32) then (1 : Int32) else (1 : Int32))))))))))))))))
theorem d2_0 : decode method_4_code 0 = .ok (.iload_n 0, 1) := by decide +kernel
theorem d2_1 : decode method_4_code 1 = .ok (.ifCond .ne 5, 3) := by decide +kernel
theorem d2_4 : decode method_4_code 4 = .ok (.iconst 0, 1) := by decide +kernel
theorem d2_5 : decode method_4_code 5 = .ok (.ireturn, 1) := by decide +kernel
theorem d2_6 : decode method_4_code 6 = .ok (.iload_n 0, 1) := by decide +kernel
theorem d2_7 : decode method_4_code 7 = .ok (.iconst 1, 1) := by decide +kernel
theorem d2_8 : decode method_4_code 8 = .ok (.if_icmp .ne 5, 3) := by decide +kernel
theorem d2_11 : decode method_4_code 11 = .ok (.iconst 1, 1) := by decide +kernel
theorem d2_12 : decode method_4_code 12 = .ok (.ireturn, 1) := by decide +kernel
theorem d2_13 : decode method_4_code 13 = .ok (.iload_n 0, 1) := by decide +kernel
theorem d2_14 : decode method_4_code 14 = .ok (.iconst 2, 1) := by decide +kernel
theorem d2_15 : decode method_4_code 15 = .ok (.if_icmp .ne 5, 3) := by decide +kernel
theorem d2_18 : decode method_4_code 18 = .ok (.iconst 1, 1) := by decide +kernel
theorem d2_19 : decode method_4_code 19 = .ok (.ireturn, 1) := by decide +kernel
theorem d2_20 : decode method_4_code 20 = .ok (.iload_n 0, 1) := by decide +kernel
theorem d2_21 : decode method_4_code 21 = .ok (.iconst 3, 1) := by decide +kernel
theorem d2_22 : decode method_4_code 22 = .ok (.if_icmp .ne 5, 3) := by decide +kernel
theorem d2_25 : decode method_4_code 25 = .ok (.iconst 0, 1) := by decide +kernel
theorem d2_26 : decode method_4_code 26 = .ok (.ireturn, 1) := by decide +kernel
theorem d2_27 : decode method_4_code 27 = .ok (.iload_n 0, 1) := by decide +kernel
theorem d2_28 : decode method_4_code 28 = .ok (.iconst 4, 1) := by decide +kernel
theorem d2_29 : decode method_4_code 29 = .ok (.if_icmp .ne 5, 3) := by decide +kernel
theorem d2_32 : decode method_4_code 32 = .ok (.iconst 0, 1) := by decide +kernel
theorem d2_33 : decode method_4_code 33 = .ok (.ireturn, 1) := by decide +kernel
theorem d2_34 : decode method_4_code 34 = .ok (.iload_n 0, 1) := by decide +kernel
theorem d2_35 : decode method_4_code 35 = .ok (.iconst 5, 1) := by decide +kernel
theorem d2_36 : decode method_4_code 36 = .ok (.if_icmp .ne 5, 3) := by decide +kernel
theorem d2_39 : decode method_4_code 39 = .ok (.iconst 1, 1) := by decide +kernel
theorem d2_40 : decode method_4_code 40 = .ok (.ireturn, 1) := by decide +kernel
theorem d2_41 : decode method_4_code 41 = .ok (.iload_n 0, 1) := by decide +kernel
theorem d2_42 : decode method_4_code 42 = .ok (.bipush 6, 2) := by decide +kernel
theorem d2_44 : decode method_4_code 44 = .ok (.if_icmp .ne 5, 3) := by decide +kernel
theorem d2_47 : decode method_4_code 47 = .ok (.iconst 1, 1) := by decide +kernel
theorem d2_48 : decode method_4_code 48 = .ok (.ireturn, 1) := by decide +kernel
theorem d2_49 : decode method_4_code 49 = .ok (.iload_n 0, 1) := by decide +kernel
theorem d2_50 : decode method_4_code 50 = .ok (.bipush 7, 2) := by decide +kernel
theorem d2_52 : decode method_4_code 52 = .ok (.if_icmp .ne 5, 3) := by decide +kernel
theorem d2_55 : decode method_4_code 55 = .ok (.iconst 0, 1) := by decide +kernel
theorem d2_56 : decode method_4_code 56 = .ok (.ireturn, 1) := by decide +kernel
theorem d2_57 : decode method_4_code 57 = .ok (.iload_n 0, 1) := by decide +kernel
theorem d2_58 : decode method_4_code 58 = .ok (.bipush 8, 2) := by decide +kernel
theorem d2_60 : decode method_4_code 60 = .ok (.if_icmp .ne 5, 3) := by decide +kernel
theorem d2_63 : decode method_4_code 63 = .ok (.iconst 0, 1) := by decide +kernel
theorem d2_64 : decode method_4_code 64 = .ok (.ireturn, 1) := by decide +kernel
theorem d2_65 : decode method_4_code 65 = .ok (.iload_n 0, 1) := by decide +kernel
theorem d2_66 : decode method_4_code 66 = .ok (.bipush 9, 2) := by decide +kernel
theorem d2_68 : decode method_4_code 68 = .ok (.if_icmp .ne 5, 3) := by decide +kernel
theorem d2_71 : decode method_4_code 71 = .ok (.iconst 0, 1) := by decide +kernel
theorem d2_72 : decode method_4_code 72 = .ok (.ireturn, 1) := by decide +kernel
theorem d2_73 : decode method_4_code 73 = .ok (.iload_n 0, 1) := by decide +kernel
theorem d2_74 : decode method_4_code 74 = .ok (.bipush 10, 2) := by decide +kernel
theorem d2_76 : decode method_4_code 76 = .ok (.if_icmp .ne 5, 3) := by decide +kernel
theorem d2_79 : decode method_4_code 79 = .ok (.iconst 1, 1) := by decide +kernel
theorem d2_80 : decode method_4_code 80 = .ok (.ireturn, 1) := by decide +kernel
theorem d2_81 : decode method_4_code 81 = .ok (.iload_n 0, 1) := by decide +kernel
theorem d2_82 : decode method_4_code 82 = .ok (.bipush 11, 2) := by decide +kernel
theorem d2_84 : decode method_4_code 84 = .ok (.if_icmp .ne 5, 3) := by decide +kernel
theorem d2_87 : decode method_4_code 87 = .ok (.iconst 1, 1) := by decide +kernel
theorem d2_88 : decode method_4_code 88 = .ok (.ireturn, 1) := by decide +kernel
theorem d2_89 : decode method_4_code 89 = .ok (.iload_n 0, 1) := by decide +kernel
theorem d2_90 : decode method_4_code 90 = .ok (.bipush 12, 2) := by decide +kernel
theorem d2_92 : decode method_4_code 92 = .ok (.if_icmp .ne 5, 3) := by decide +kernel
theorem d2_95 : decode method_4_code 95 = .ok (.iconst 1, 1) := by decide +kernel
theorem d2_96 : decode method_4_code 96 = .ok (.ireturn, 1) := by decide +kernel
theorem d2_97 : decode method_4_code 97 = .ok (.iload_n 0, 1) := by decide +kernel
theorem d2_98 : decode method_4_code 98 = .ok (.bipush 13, 2) := by decide +kernel
theorem d2_100 : decode method_4_code 100 = .ok (.if_icmp .ne 5, 3) := by decide +kernel
theorem d2_103 : decode method_4_code 103 = .ok (.iconst 0, 1) := by decide +kernel
theorem d2_104 : decode method_4_code 104 = .ok (.ireturn, 1) := by decide +kernel
theorem d2_105 : decode method_4_code 105 = .ok (.iload_n 0, 1) := by decide +kernel
theorem d2_106 : decode method_4_code 106 = .ok (.bipush 14, 2) := by decide +kernel
theorem d2_108 : decode method_4_code 108 = .ok (.if_icmp .ne 5, 3) := by decide +kernel
theorem d2_111 : decode method_4_code 111 = .ok (.iconst 1, 1) := by decide +kernel
theorem d2_112 : decode method_4_code 112 = .ok (.ireturn, 1) := by decide +kernel
theorem d2_113 : decode method_4_code 113 = .ok (.iconst 1, 1) := by decide +kernel
theorem d2_114 : decode method_4_code 114 = .ok (.ireturn, 1) := by decide +kernel
theorem pn_2 : plainName "com/example/units_to_scalars/unitstoscalars/ScalarValuesIsScalarValuePinLaw" = true := by first | (simp [plainName, overriddenIn]; done) | decide +kernel
theorem ef_2 (m : MethodId) (p1 : Int32) : entryFrame m #[(.int p1)] 1 = mkF m 0 #[.val (.int p1)] [] := by first | (simp [entryFrame, mkF, argsToLocals, Value.category]; done) | rfl
def Q2 (Z : State) (p1 : Int32) (h0 : Heap) (n0 : Nat) (v : Option Value) (h : Heap) (L : List Loc) : Prop := v = some (.int (F2 p1)) ∧ Fr n0 L ∧ h = h0
set_option maxRecDepth 65536 in
set_option maxHeartbeats 40000000 in
theorem rm2 (l : Launch) (Z : State) (a0 : Array Value) (hw : ∀ d ∈ tables_1, d.before a0 Z = true) (ws : List Jvm.Cond) (p1 : Int32)  (h0 : Heap) (n0 : Nat) (Z0 : n0 ≤ h0.size)  :
    MetFree l (⟨"com/example/units_to_scalars/unitstoscalars/ScalarValuesIsScalarValuePinLaw", "expected", "(I)Z"⟩ : MethodName) (head1 (Jvm.Cond.code (⟨"com/example/units_to_scalars/unitstoscalars/ScalarValuesIsScalarValuePinLaw", "expected", "(I)Z"⟩ : MethodName) method_4_code 1 (some .boolean) :: ws) ({ frames := 0, cells := 0, slots := 0, locals := 0 } : Room)) (fun a U => a = #[(.int p1)] ∧ Z.Warmed39 U.vm ∧ U.heap = h0) (fun _ _ _ _ _ => True) (fun _ U o U' => ∃ v L, o = .returned v ∧ Q2 Z p1 h0 n0 v U'.heap L ∧ FrameEnd U o U' L ({ frames := 0, cells := 0, slots := 0, locals := 0 } : Room).cells ({ frames := 0, cells := 0, slots := 0, locals := 0 } : Room).slots) := by
  refine MetFree.of_bodySF (plainFor_of_name pn_2) hisR ?_
  intro p e s m args below meth c s₁ Bd hml0 hP hK
  obtain ⟨rfl, hZ, hh⟩ := hP
  have hx := Bd.exec
  have hby := Bd.bytes
  have hml : c.maxLocals = 1 := hml0
  have hown : s.vm.findClass "com/example/units_to_scalars/unitstoscalars/ScalarValuesIsScalarValuePinLaw" = some m.cls := findClass_of_methodNamed Bd.named
  have hnm := (name_of_methodNamed Bd.named Bd.method).1
  have X0 : Stand p l e ({ frames := 0, cells := 0, slots := 0, locals := 0 } : Room) s m #[(.int p1)] below meth c s₁ [] 0 0 := Stand.of_body Bd
  have e0 : s₁.heap = h0 := by rw [← hh, Bd.state]; rfl
  have N0 := Fr.nil n0
  suffices hG : OwnG p e below s (Q2 Z p1 h0 n0) ({ frames := 0, cells := 0, slots := 0, locals := 0 } : Room).cells ({ frames := 0, cells := 0, slots := 0, locals := 0 } : Room).slots s₁ (mkF m 0 #[.val (.int p1)] []) by
    obtain ⟨s2, o2, g1, g2⟩ := hG
    exact ⟨s2, o2, castTop (ef_2 m p1) g1, g2⟩
  have sg1 : ∀ t, Steps p.tables e below (s₁.setTop (mkF m 1 #[.val (.int p1)] [(.int p1)])) t → Steps p.tables e below (s₁.setTop (mkF m 0 #[.val (.int p1)] [])) t := by
    intro t k
    refine XS.iloadN X0.here hx rfl (hb hby d2_0) rfl ?_
    show Steps p.tables e below (s₁.setTop (mkF m 1 #[.val (.int p1)] [(.int p1)])) _
    exact k
  refine OwnG.st sg1 ?_
  by_cases hc1_2 : p1 = (0 : Int32)
  · have sg3 : ∀ t, Steps p.tables e below (s₁.setTop (mkF m 5 #[.val (.int p1)] [(.int (0 : Int32))])) t → Steps p.tables e below (s₁.setTop (mkF m 1 #[.val (.int p1)] [(.int p1)])) t := by
      intro t k
      refine XS.ifNo X0.here hx rfl (hb hby d2_1) rfl ((if0 _ _).trans (teq hc1_2).2) ?_
      show Steps p.tables e below (s₁.setTop (mkF m 4 #[.val (.int p1)] [])) _
      refine XS.iconst X0.here hx rfl (hb hby d2_4) ?_
      show Steps p.tables e below (s₁.setTop (mkF m 5 #[.val (.int p1)] [(.int (0 : Int32))])) _
      exact k
    refine OwnG.st sg3 ?_
    have hv : (0 : Int32) = F2 p1 := by simp only [F2, if_pos hc1_2]
    exact OwnG.retN X0 hx (t := .boolean) (by simp) Bd.returns (BodyLoose.notSynchronized Bd) (hb hby d2_5) ⟨congrArg (fun w => some (Value.int w)) ((show nar .boolean (0 : Int32) = (0 : Int32) from rfl).trans hv), N0, e0⟩ (by decide) (by decide)
  · have sg4 : ∀ t, Steps p.tables e below (s₁.setTop (mkF m 8 #[.val (.int p1)] [(.int (1 : Int32)), (.int p1)])) t → Steps p.tables e below (s₁.setTop (mkF m 1 #[.val (.int p1)] [(.int p1)])) t := by
      intro t k
      refine XS.ifYes X0.here hx rfl (pc0 := 1) (pc' := 6) rfl (hb hby d2_1) rfl ((if0 _ _).trans (feq hc1_2).2) (by decide) (by decide) ?_
      show Steps p.tables e below (s₁.setTop (mkF m 6 #[.val (.int p1)] [])) _
      refine XS.iloadN X0.here hx rfl (hb hby d2_6) rfl ?_
      show Steps p.tables e below (s₁.setTop (mkF m 7 #[.val (.int p1)] [(.int p1)])) _
      refine XS.iconst X0.here hx rfl (hb hby d2_7) ?_
      show Steps p.tables e below (s₁.setTop (mkF m 8 #[.val (.int p1)] [(.int (1 : Int32)), (.int p1)])) _
      exact k
    refine OwnG.st sg4 ?_
    by_cases hc8_5 : p1 = (1 : Int32)
    · have sg6 : ∀ t, Steps p.tables e below (s₁.setTop (mkF m 12 #[.val (.int p1)] [(.int (1 : Int32))])) t → Steps p.tables e below (s₁.setTop (mkF m 8 #[.val (.int p1)] [(.int (1 : Int32)), (.int p1)])) t := by
        intro t k
        refine XS.icmpNo X0.here hx rfl (hb hby d2_8) rfl (teq hc8_5).2 ?_
        show Steps p.tables e below (s₁.setTop (mkF m 11 #[.val (.int p1)] [])) _
        refine XS.iconst X0.here hx rfl (hb hby d2_11) ?_
        show Steps p.tables e below (s₁.setTop (mkF m 12 #[.val (.int p1)] [(.int (1 : Int32))])) _
        exact k
      refine OwnG.st sg6 ?_
      have hv : (1 : Int32) = F2 p1 := by simp only [F2, if_neg hc1_2, if_pos hc8_5]
      exact OwnG.retN X0 hx (t := .boolean) (by simp) Bd.returns (BodyLoose.notSynchronized Bd) (hb hby d2_12) ⟨congrArg (fun w => some (Value.int w)) ((show nar .boolean (1 : Int32) = (1 : Int32) from rfl).trans hv), N0, e0⟩ (by decide) (by decide)
    · have sg7 : ∀ t, Steps p.tables e below (s₁.setTop (mkF m 15 #[.val (.int p1)] [(.int (2 : Int32)), (.int p1)])) t → Steps p.tables e below (s₁.setTop (mkF m 8 #[.val (.int p1)] [(.int (1 : Int32)), (.int p1)])) t := by
        intro t k
        refine XS.icmpYes X0.here hx rfl (pc0 := 8) (pc' := 13) rfl (hb hby d2_8) rfl (feq hc8_5).2 (by decide) (by decide) ?_
        show Steps p.tables e below (s₁.setTop (mkF m 13 #[.val (.int p1)] [])) _
        refine XS.iloadN X0.here hx rfl (hb hby d2_13) rfl ?_
        show Steps p.tables e below (s₁.setTop (mkF m 14 #[.val (.int p1)] [(.int p1)])) _
        refine XS.iconst X0.here hx rfl (hb hby d2_14) ?_
        show Steps p.tables e below (s₁.setTop (mkF m 15 #[.val (.int p1)] [(.int (2 : Int32)), (.int p1)])) _
        exact k
      refine OwnG.st sg7 ?_
      by_cases hc15_8 : p1 = (2 : Int32)
      · have sg9 : ∀ t, Steps p.tables e below (s₁.setTop (mkF m 19 #[.val (.int p1)] [(.int (1 : Int32))])) t → Steps p.tables e below (s₁.setTop (mkF m 15 #[.val (.int p1)] [(.int (2 : Int32)), (.int p1)])) t := by
          intro t k
          refine XS.icmpNo X0.here hx rfl (hb hby d2_15) rfl (teq hc15_8).2 ?_
          show Steps p.tables e below (s₁.setTop (mkF m 18 #[.val (.int p1)] [])) _
          refine XS.iconst X0.here hx rfl (hb hby d2_18) ?_
          show Steps p.tables e below (s₁.setTop (mkF m 19 #[.val (.int p1)] [(.int (1 : Int32))])) _
          exact k
        refine OwnG.st sg9 ?_
        have hv : (1 : Int32) = F2 p1 := by simp only [F2, if_neg hc1_2, if_neg hc8_5, if_pos hc15_8]
        exact OwnG.retN X0 hx (t := .boolean) (by simp) Bd.returns (BodyLoose.notSynchronized Bd) (hb hby d2_19) ⟨congrArg (fun w => some (Value.int w)) ((show nar .boolean (1 : Int32) = (1 : Int32) from rfl).trans hv), N0, e0⟩ (by decide) (by decide)
      · have sg10 : ∀ t, Steps p.tables e below (s₁.setTop (mkF m 22 #[.val (.int p1)] [(.int (3 : Int32)), (.int p1)])) t → Steps p.tables e below (s₁.setTop (mkF m 15 #[.val (.int p1)] [(.int (2 : Int32)), (.int p1)])) t := by
          intro t k
          refine XS.icmpYes X0.here hx rfl (pc0 := 15) (pc' := 20) rfl (hb hby d2_15) rfl (feq hc15_8).2 (by decide) (by decide) ?_
          show Steps p.tables e below (s₁.setTop (mkF m 20 #[.val (.int p1)] [])) _
          refine XS.iloadN X0.here hx rfl (hb hby d2_20) rfl ?_
          show Steps p.tables e below (s₁.setTop (mkF m 21 #[.val (.int p1)] [(.int p1)])) _
          refine XS.iconst X0.here hx rfl (hb hby d2_21) ?_
          show Steps p.tables e below (s₁.setTop (mkF m 22 #[.val (.int p1)] [(.int (3 : Int32)), (.int p1)])) _
          exact k
        refine OwnG.st sg10 ?_
        by_cases hc22_11 : p1 = (3 : Int32)
        · have sg12 : ∀ t, Steps p.tables e below (s₁.setTop (mkF m 26 #[.val (.int p1)] [(.int (0 : Int32))])) t → Steps p.tables e below (s₁.setTop (mkF m 22 #[.val (.int p1)] [(.int (3 : Int32)), (.int p1)])) t := by
            intro t k
            refine XS.icmpNo X0.here hx rfl (hb hby d2_22) rfl (teq hc22_11).2 ?_
            show Steps p.tables e below (s₁.setTop (mkF m 25 #[.val (.int p1)] [])) _
            refine XS.iconst X0.here hx rfl (hb hby d2_25) ?_
            show Steps p.tables e below (s₁.setTop (mkF m 26 #[.val (.int p1)] [(.int (0 : Int32))])) _
            exact k
          refine OwnG.st sg12 ?_
          have hv : (0 : Int32) = F2 p1 := by simp only [F2, if_neg hc1_2, if_neg hc8_5, if_neg hc15_8, if_pos hc22_11]
          exact OwnG.retN X0 hx (t := .boolean) (by simp) Bd.returns (BodyLoose.notSynchronized Bd) (hb hby d2_26) ⟨congrArg (fun w => some (Value.int w)) ((show nar .boolean (0 : Int32) = (0 : Int32) from rfl).trans hv), N0, e0⟩ (by decide) (by decide)
        · have sg13 : ∀ t, Steps p.tables e below (s₁.setTop (mkF m 29 #[.val (.int p1)] [(.int (4 : Int32)), (.int p1)])) t → Steps p.tables e below (s₁.setTop (mkF m 22 #[.val (.int p1)] [(.int (3 : Int32)), (.int p1)])) t := by
            intro t k
            refine XS.icmpYes X0.here hx rfl (pc0 := 22) (pc' := 27) rfl (hb hby d2_22) rfl (feq hc22_11).2 (by decide) (by decide) ?_
            show Steps p.tables e below (s₁.setTop (mkF m 27 #[.val (.int p1)] [])) _
            refine XS.iloadN X0.here hx rfl (hb hby d2_27) rfl ?_
            show Steps p.tables e below (s₁.setTop (mkF m 28 #[.val (.int p1)] [(.int p1)])) _
            refine XS.iconst X0.here hx rfl (hb hby d2_28) ?_
            show Steps p.tables e below (s₁.setTop (mkF m 29 #[.val (.int p1)] [(.int (4 : Int32)), (.int p1)])) _
            exact k
          refine OwnG.st sg13 ?_
          by_cases hc29_14 : p1 = (4 : Int32)
          · have sg15 : ∀ t, Steps p.tables e below (s₁.setTop (mkF m 33 #[.val (.int p1)] [(.int (0 : Int32))])) t → Steps p.tables e below (s₁.setTop (mkF m 29 #[.val (.int p1)] [(.int (4 : Int32)), (.int p1)])) t := by
              intro t k
              refine XS.icmpNo X0.here hx rfl (hb hby d2_29) rfl (teq hc29_14).2 ?_
              show Steps p.tables e below (s₁.setTop (mkF m 32 #[.val (.int p1)] [])) _
              refine XS.iconst X0.here hx rfl (hb hby d2_32) ?_
              show Steps p.tables e below (s₁.setTop (mkF m 33 #[.val (.int p1)] [(.int (0 : Int32))])) _
              exact k
            refine OwnG.st sg15 ?_
            have hv : (0 : Int32) = F2 p1 := by simp only [F2, if_neg hc1_2, if_neg hc8_5, if_neg hc15_8, if_neg hc22_11, if_pos hc29_14]
            exact OwnG.retN X0 hx (t := .boolean) (by simp) Bd.returns (BodyLoose.notSynchronized Bd) (hb hby d2_33) ⟨congrArg (fun w => some (Value.int w)) ((show nar .boolean (0 : Int32) = (0 : Int32) from rfl).trans hv), N0, e0⟩ (by decide) (by decide)
          · have sg16 : ∀ t, Steps p.tables e below (s₁.setTop (mkF m 36 #[.val (.int p1)] [(.int (5 : Int32)), (.int p1)])) t → Steps p.tables e below (s₁.setTop (mkF m 29 #[.val (.int p1)] [(.int (4 : Int32)), (.int p1)])) t := by
              intro t k
              refine XS.icmpYes X0.here hx rfl (pc0 := 29) (pc' := 34) rfl (hb hby d2_29) rfl (feq hc29_14).2 (by decide) (by decide) ?_
              show Steps p.tables e below (s₁.setTop (mkF m 34 #[.val (.int p1)] [])) _
              refine XS.iloadN X0.here hx rfl (hb hby d2_34) rfl ?_
              show Steps p.tables e below (s₁.setTop (mkF m 35 #[.val (.int p1)] [(.int p1)])) _
              refine XS.iconst X0.here hx rfl (hb hby d2_35) ?_
              show Steps p.tables e below (s₁.setTop (mkF m 36 #[.val (.int p1)] [(.int (5 : Int32)), (.int p1)])) _
              exact k
            refine OwnG.st sg16 ?_
            by_cases hc36_17 : p1 = (5 : Int32)
            · have sg18 : ∀ t, Steps p.tables e below (s₁.setTop (mkF m 40 #[.val (.int p1)] [(.int (1 : Int32))])) t → Steps p.tables e below (s₁.setTop (mkF m 36 #[.val (.int p1)] [(.int (5 : Int32)), (.int p1)])) t := by
                intro t k
                refine XS.icmpNo X0.here hx rfl (hb hby d2_36) rfl (teq hc36_17).2 ?_
                show Steps p.tables e below (s₁.setTop (mkF m 39 #[.val (.int p1)] [])) _
                refine XS.iconst X0.here hx rfl (hb hby d2_39) ?_
                show Steps p.tables e below (s₁.setTop (mkF m 40 #[.val (.int p1)] [(.int (1 : Int32))])) _
                exact k
              refine OwnG.st sg18 ?_
              have hv : (1 : Int32) = F2 p1 := by simp only [F2, if_neg hc1_2, if_neg hc8_5, if_neg hc15_8, if_neg hc22_11, if_neg hc29_14, if_pos hc36_17]
              exact OwnG.retN X0 hx (t := .boolean) (by simp) Bd.returns (BodyLoose.notSynchronized Bd) (hb hby d2_40) ⟨congrArg (fun w => some (Value.int w)) ((show nar .boolean (1 : Int32) = (1 : Int32) from rfl).trans hv), N0, e0⟩ (by decide) (by decide)
            · have sg19 : ∀ t, Steps p.tables e below (s₁.setTop (mkF m 44 #[.val (.int p1)] [(.int (6 : Int32)), (.int p1)])) t → Steps p.tables e below (s₁.setTop (mkF m 36 #[.val (.int p1)] [(.int (5 : Int32)), (.int p1)])) t := by
                intro t k
                refine XS.icmpYes X0.here hx rfl (pc0 := 36) (pc' := 41) rfl (hb hby d2_36) rfl (feq hc36_17).2 (by decide) (by decide) ?_
                show Steps p.tables e below (s₁.setTop (mkF m 41 #[.val (.int p1)] [])) _
                refine XS.iloadN X0.here hx rfl (hb hby d2_41) rfl ?_
                show Steps p.tables e below (s₁.setTop (mkF m 42 #[.val (.int p1)] [(.int p1)])) _
                refine XS.bipush X0.here hx rfl (hb hby d2_42) ?_
                show Steps p.tables e below (s₁.setTop (mkF m 44 #[.val (.int p1)] [(.int (6 : Int32)), (.int p1)])) _
                exact k
              refine OwnG.st sg19 ?_
              by_cases hc44_20 : p1 = (6 : Int32)
              · have sg21 : ∀ t, Steps p.tables e below (s₁.setTop (mkF m 48 #[.val (.int p1)] [(.int (1 : Int32))])) t → Steps p.tables e below (s₁.setTop (mkF m 44 #[.val (.int p1)] [(.int (6 : Int32)), (.int p1)])) t := by
                  intro t k
                  refine XS.icmpNo X0.here hx rfl (hb hby d2_44) rfl (teq hc44_20).2 ?_
                  show Steps p.tables e below (s₁.setTop (mkF m 47 #[.val (.int p1)] [])) _
                  refine XS.iconst X0.here hx rfl (hb hby d2_47) ?_
                  show Steps p.tables e below (s₁.setTop (mkF m 48 #[.val (.int p1)] [(.int (1 : Int32))])) _
                  exact k
                refine OwnG.st sg21 ?_
                have hv : (1 : Int32) = F2 p1 := by simp only [F2, if_neg hc1_2, if_neg hc8_5, if_neg hc15_8, if_neg hc22_11, if_neg hc29_14, if_neg hc36_17, if_pos hc44_20]
                exact OwnG.retN X0 hx (t := .boolean) (by simp) Bd.returns (BodyLoose.notSynchronized Bd) (hb hby d2_48) ⟨congrArg (fun w => some (Value.int w)) ((show nar .boolean (1 : Int32) = (1 : Int32) from rfl).trans hv), N0, e0⟩ (by decide) (by decide)
              · have sg22 : ∀ t, Steps p.tables e below (s₁.setTop (mkF m 52 #[.val (.int p1)] [(.int (7 : Int32)), (.int p1)])) t → Steps p.tables e below (s₁.setTop (mkF m 44 #[.val (.int p1)] [(.int (6 : Int32)), (.int p1)])) t := by
                  intro t k
                  refine XS.icmpYes X0.here hx rfl (pc0 := 44) (pc' := 49) rfl (hb hby d2_44) rfl (feq hc44_20).2 (by decide) (by decide) ?_
                  show Steps p.tables e below (s₁.setTop (mkF m 49 #[.val (.int p1)] [])) _
                  refine XS.iloadN X0.here hx rfl (hb hby d2_49) rfl ?_
                  show Steps p.tables e below (s₁.setTop (mkF m 50 #[.val (.int p1)] [(.int p1)])) _
                  refine XS.bipush X0.here hx rfl (hb hby d2_50) ?_
                  show Steps p.tables e below (s₁.setTop (mkF m 52 #[.val (.int p1)] [(.int (7 : Int32)), (.int p1)])) _
                  exact k
                refine OwnG.st sg22 ?_
                by_cases hc52_23 : p1 = (7 : Int32)
                · have sg24 : ∀ t, Steps p.tables e below (s₁.setTop (mkF m 56 #[.val (.int p1)] [(.int (0 : Int32))])) t → Steps p.tables e below (s₁.setTop (mkF m 52 #[.val (.int p1)] [(.int (7 : Int32)), (.int p1)])) t := by
                    intro t k
                    refine XS.icmpNo X0.here hx rfl (hb hby d2_52) rfl (teq hc52_23).2 ?_
                    show Steps p.tables e below (s₁.setTop (mkF m 55 #[.val (.int p1)] [])) _
                    refine XS.iconst X0.here hx rfl (hb hby d2_55) ?_
                    show Steps p.tables e below (s₁.setTop (mkF m 56 #[.val (.int p1)] [(.int (0 : Int32))])) _
                    exact k
                  refine OwnG.st sg24 ?_
                  have hv : (0 : Int32) = F2 p1 := by simp only [F2, if_neg hc1_2, if_neg hc8_5, if_neg hc15_8, if_neg hc22_11, if_neg hc29_14, if_neg hc36_17, if_neg hc44_20, if_pos hc52_23]
                  exact OwnG.retN X0 hx (t := .boolean) (by simp) Bd.returns (BodyLoose.notSynchronized Bd) (hb hby d2_56) ⟨congrArg (fun w => some (Value.int w)) ((show nar .boolean (0 : Int32) = (0 : Int32) from rfl).trans hv), N0, e0⟩ (by decide) (by decide)
                · have sg25 : ∀ t, Steps p.tables e below (s₁.setTop (mkF m 60 #[.val (.int p1)] [(.int (8 : Int32)), (.int p1)])) t → Steps p.tables e below (s₁.setTop (mkF m 52 #[.val (.int p1)] [(.int (7 : Int32)), (.int p1)])) t := by
                    intro t k
                    refine XS.icmpYes X0.here hx rfl (pc0 := 52) (pc' := 57) rfl (hb hby d2_52) rfl (feq hc52_23).2 (by decide) (by decide) ?_
                    show Steps p.tables e below (s₁.setTop (mkF m 57 #[.val (.int p1)] [])) _
                    refine XS.iloadN X0.here hx rfl (hb hby d2_57) rfl ?_
                    show Steps p.tables e below (s₁.setTop (mkF m 58 #[.val (.int p1)] [(.int p1)])) _
                    refine XS.bipush X0.here hx rfl (hb hby d2_58) ?_
                    show Steps p.tables e below (s₁.setTop (mkF m 60 #[.val (.int p1)] [(.int (8 : Int32)), (.int p1)])) _
                    exact k
                  refine OwnG.st sg25 ?_
                  by_cases hc60_26 : p1 = (8 : Int32)
                  · have sg27 : ∀ t, Steps p.tables e below (s₁.setTop (mkF m 64 #[.val (.int p1)] [(.int (0 : Int32))])) t → Steps p.tables e below (s₁.setTop (mkF m 60 #[.val (.int p1)] [(.int (8 : Int32)), (.int p1)])) t := by
                      intro t k
                      refine XS.icmpNo X0.here hx rfl (hb hby d2_60) rfl (teq hc60_26).2 ?_
                      show Steps p.tables e below (s₁.setTop (mkF m 63 #[.val (.int p1)] [])) _
                      refine XS.iconst X0.here hx rfl (hb hby d2_63) ?_
                      show Steps p.tables e below (s₁.setTop (mkF m 64 #[.val (.int p1)] [(.int (0 : Int32))])) _
                      exact k
                    refine OwnG.st sg27 ?_
                    have hv : (0 : Int32) = F2 p1 := by simp only [F2, if_neg hc1_2, if_neg hc8_5, if_neg hc15_8, if_neg hc22_11, if_neg hc29_14, if_neg hc36_17, if_neg hc44_20, if_neg hc52_23, if_pos hc60_26]
                    exact OwnG.retN X0 hx (t := .boolean) (by simp) Bd.returns (BodyLoose.notSynchronized Bd) (hb hby d2_64) ⟨congrArg (fun w => some (Value.int w)) ((show nar .boolean (0 : Int32) = (0 : Int32) from rfl).trans hv), N0, e0⟩ (by decide) (by decide)
                  · have sg28 : ∀ t, Steps p.tables e below (s₁.setTop (mkF m 68 #[.val (.int p1)] [(.int (9 : Int32)), (.int p1)])) t → Steps p.tables e below (s₁.setTop (mkF m 60 #[.val (.int p1)] [(.int (8 : Int32)), (.int p1)])) t := by
                      intro t k
                      refine XS.icmpYes X0.here hx rfl (pc0 := 60) (pc' := 65) rfl (hb hby d2_60) rfl (feq hc60_26).2 (by decide) (by decide) ?_
                      show Steps p.tables e below (s₁.setTop (mkF m 65 #[.val (.int p1)] [])) _
                      refine XS.iloadN X0.here hx rfl (hb hby d2_65) rfl ?_
                      show Steps p.tables e below (s₁.setTop (mkF m 66 #[.val (.int p1)] [(.int p1)])) _
                      refine XS.bipush X0.here hx rfl (hb hby d2_66) ?_
                      show Steps p.tables e below (s₁.setTop (mkF m 68 #[.val (.int p1)] [(.int (9 : Int32)), (.int p1)])) _
                      exact k
                    refine OwnG.st sg28 ?_
                    by_cases hc68_29 : p1 = (9 : Int32)
                    · have sg30 : ∀ t, Steps p.tables e below (s₁.setTop (mkF m 72 #[.val (.int p1)] [(.int (0 : Int32))])) t → Steps p.tables e below (s₁.setTop (mkF m 68 #[.val (.int p1)] [(.int (9 : Int32)), (.int p1)])) t := by
                        intro t k
                        refine XS.icmpNo X0.here hx rfl (hb hby d2_68) rfl (teq hc68_29).2 ?_
                        show Steps p.tables e below (s₁.setTop (mkF m 71 #[.val (.int p1)] [])) _
                        refine XS.iconst X0.here hx rfl (hb hby d2_71) ?_
                        show Steps p.tables e below (s₁.setTop (mkF m 72 #[.val (.int p1)] [(.int (0 : Int32))])) _
                        exact k
                      refine OwnG.st sg30 ?_
                      have hv : (0 : Int32) = F2 p1 := by simp only [F2, if_neg hc1_2, if_neg hc8_5, if_neg hc15_8, if_neg hc22_11, if_neg hc29_14, if_neg hc36_17, if_neg hc44_20, if_neg hc52_23, if_neg hc60_26, if_pos hc68_29]
                      exact OwnG.retN X0 hx (t := .boolean) (by simp) Bd.returns (BodyLoose.notSynchronized Bd) (hb hby d2_72) ⟨congrArg (fun w => some (Value.int w)) ((show nar .boolean (0 : Int32) = (0 : Int32) from rfl).trans hv), N0, e0⟩ (by decide) (by decide)
                    · have sg31 : ∀ t, Steps p.tables e below (s₁.setTop (mkF m 76 #[.val (.int p1)] [(.int (10 : Int32)), (.int p1)])) t → Steps p.tables e below (s₁.setTop (mkF m 68 #[.val (.int p1)] [(.int (9 : Int32)), (.int p1)])) t := by
                        intro t k
                        refine XS.icmpYes X0.here hx rfl (pc0 := 68) (pc' := 73) rfl (hb hby d2_68) rfl (feq hc68_29).2 (by decide) (by decide) ?_
                        show Steps p.tables e below (s₁.setTop (mkF m 73 #[.val (.int p1)] [])) _
                        refine XS.iloadN X0.here hx rfl (hb hby d2_73) rfl ?_
                        show Steps p.tables e below (s₁.setTop (mkF m 74 #[.val (.int p1)] [(.int p1)])) _
                        refine XS.bipush X0.here hx rfl (hb hby d2_74) ?_
                        show Steps p.tables e below (s₁.setTop (mkF m 76 #[.val (.int p1)] [(.int (10 : Int32)), (.int p1)])) _
                        exact k
                      refine OwnG.st sg31 ?_
                      by_cases hc76_32 : p1 = (10 : Int32)
                      · have sg33 : ∀ t, Steps p.tables e below (s₁.setTop (mkF m 80 #[.val (.int p1)] [(.int (1 : Int32))])) t → Steps p.tables e below (s₁.setTop (mkF m 76 #[.val (.int p1)] [(.int (10 : Int32)), (.int p1)])) t := by
                          intro t k
                          refine XS.icmpNo X0.here hx rfl (hb hby d2_76) rfl (teq hc76_32).2 ?_
                          show Steps p.tables e below (s₁.setTop (mkF m 79 #[.val (.int p1)] [])) _
                          refine XS.iconst X0.here hx rfl (hb hby d2_79) ?_
                          show Steps p.tables e below (s₁.setTop (mkF m 80 #[.val (.int p1)] [(.int (1 : Int32))])) _
                          exact k
                        refine OwnG.st sg33 ?_
                        have hv : (1 : Int32) = F2 p1 := by simp only [F2, if_neg hc1_2, if_neg hc8_5, if_neg hc15_8, if_neg hc22_11, if_neg hc29_14, if_neg hc36_17, if_neg hc44_20, if_neg hc52_23, if_neg hc60_26, if_neg hc68_29, if_pos hc76_32]
                        exact OwnG.retN X0 hx (t := .boolean) (by simp) Bd.returns (BodyLoose.notSynchronized Bd) (hb hby d2_80) ⟨congrArg (fun w => some (Value.int w)) ((show nar .boolean (1 : Int32) = (1 : Int32) from rfl).trans hv), N0, e0⟩ (by decide) (by decide)
                      · have sg34 : ∀ t, Steps p.tables e below (s₁.setTop (mkF m 84 #[.val (.int p1)] [(.int (11 : Int32)), (.int p1)])) t → Steps p.tables e below (s₁.setTop (mkF m 76 #[.val (.int p1)] [(.int (10 : Int32)), (.int p1)])) t := by
                          intro t k
                          refine XS.icmpYes X0.here hx rfl (pc0 := 76) (pc' := 81) rfl (hb hby d2_76) rfl (feq hc76_32).2 (by decide) (by decide) ?_
                          show Steps p.tables e below (s₁.setTop (mkF m 81 #[.val (.int p1)] [])) _
                          refine XS.iloadN X0.here hx rfl (hb hby d2_81) rfl ?_
                          show Steps p.tables e below (s₁.setTop (mkF m 82 #[.val (.int p1)] [(.int p1)])) _
                          refine XS.bipush X0.here hx rfl (hb hby d2_82) ?_
                          show Steps p.tables e below (s₁.setTop (mkF m 84 #[.val (.int p1)] [(.int (11 : Int32)), (.int p1)])) _
                          exact k
                        refine OwnG.st sg34 ?_
                        by_cases hc84_35 : p1 = (11 : Int32)
                        · have sg36 : ∀ t, Steps p.tables e below (s₁.setTop (mkF m 88 #[.val (.int p1)] [(.int (1 : Int32))])) t → Steps p.tables e below (s₁.setTop (mkF m 84 #[.val (.int p1)] [(.int (11 : Int32)), (.int p1)])) t := by
                            intro t k
                            refine XS.icmpNo X0.here hx rfl (hb hby d2_84) rfl (teq hc84_35).2 ?_
                            show Steps p.tables e below (s₁.setTop (mkF m 87 #[.val (.int p1)] [])) _
                            refine XS.iconst X0.here hx rfl (hb hby d2_87) ?_
                            show Steps p.tables e below (s₁.setTop (mkF m 88 #[.val (.int p1)] [(.int (1 : Int32))])) _
                            exact k
                          refine OwnG.st sg36 ?_
                          have hv : (1 : Int32) = F2 p1 := by simp only [F2, if_neg hc1_2, if_neg hc8_5, if_neg hc15_8, if_neg hc22_11, if_neg hc29_14, if_neg hc36_17, if_neg hc44_20, if_neg hc52_23, if_neg hc60_26, if_neg hc68_29, if_neg hc76_32, if_pos hc84_35]
                          exact OwnG.retN X0 hx (t := .boolean) (by simp) Bd.returns (BodyLoose.notSynchronized Bd) (hb hby d2_88) ⟨congrArg (fun w => some (Value.int w)) ((show nar .boolean (1 : Int32) = (1 : Int32) from rfl).trans hv), N0, e0⟩ (by decide) (by decide)
                        · have sg37 : ∀ t, Steps p.tables e below (s₁.setTop (mkF m 92 #[.val (.int p1)] [(.int (12 : Int32)), (.int p1)])) t → Steps p.tables e below (s₁.setTop (mkF m 84 #[.val (.int p1)] [(.int (11 : Int32)), (.int p1)])) t := by
                            intro t k
                            refine XS.icmpYes X0.here hx rfl (pc0 := 84) (pc' := 89) rfl (hb hby d2_84) rfl (feq hc84_35).2 (by decide) (by decide) ?_
                            show Steps p.tables e below (s₁.setTop (mkF m 89 #[.val (.int p1)] [])) _
                            refine XS.iloadN X0.here hx rfl (hb hby d2_89) rfl ?_
                            show Steps p.tables e below (s₁.setTop (mkF m 90 #[.val (.int p1)] [(.int p1)])) _
                            refine XS.bipush X0.here hx rfl (hb hby d2_90) ?_
                            show Steps p.tables e below (s₁.setTop (mkF m 92 #[.val (.int p1)] [(.int (12 : Int32)), (.int p1)])) _
                            exact k
                          refine OwnG.st sg37 ?_
                          by_cases hc92_38 : p1 = (12 : Int32)
                          · have sg39 : ∀ t, Steps p.tables e below (s₁.setTop (mkF m 96 #[.val (.int p1)] [(.int (1 : Int32))])) t → Steps p.tables e below (s₁.setTop (mkF m 92 #[.val (.int p1)] [(.int (12 : Int32)), (.int p1)])) t := by
                              intro t k
                              refine XS.icmpNo X0.here hx rfl (hb hby d2_92) rfl (teq hc92_38).2 ?_
                              show Steps p.tables e below (s₁.setTop (mkF m 95 #[.val (.int p1)] [])) _
                              refine XS.iconst X0.here hx rfl (hb hby d2_95) ?_
                              show Steps p.tables e below (s₁.setTop (mkF m 96 #[.val (.int p1)] [(.int (1 : Int32))])) _
                              exact k
                            refine OwnG.st sg39 ?_
                            have hv : (1 : Int32) = F2 p1 := by simp only [F2, if_neg hc1_2, if_neg hc8_5, if_neg hc15_8, if_neg hc22_11, if_neg hc29_14, if_neg hc36_17, if_neg hc44_20, if_neg hc52_23, if_neg hc60_26, if_neg hc68_29, if_neg hc76_32, if_neg hc84_35, if_pos hc92_38]
                            exact OwnG.retN X0 hx (t := .boolean) (by simp) Bd.returns (BodyLoose.notSynchronized Bd) (hb hby d2_96) ⟨congrArg (fun w => some (Value.int w)) ((show nar .boolean (1 : Int32) = (1 : Int32) from rfl).trans hv), N0, e0⟩ (by decide) (by decide)
                          · have sg40 : ∀ t, Steps p.tables e below (s₁.setTop (mkF m 100 #[.val (.int p1)] [(.int (13 : Int32)), (.int p1)])) t → Steps p.tables e below (s₁.setTop (mkF m 92 #[.val (.int p1)] [(.int (12 : Int32)), (.int p1)])) t := by
                              intro t k
                              refine XS.icmpYes X0.here hx rfl (pc0 := 92) (pc' := 97) rfl (hb hby d2_92) rfl (feq hc92_38).2 (by decide) (by decide) ?_
                              show Steps p.tables e below (s₁.setTop (mkF m 97 #[.val (.int p1)] [])) _
                              refine XS.iloadN X0.here hx rfl (hb hby d2_97) rfl ?_
                              show Steps p.tables e below (s₁.setTop (mkF m 98 #[.val (.int p1)] [(.int p1)])) _
                              refine XS.bipush X0.here hx rfl (hb hby d2_98) ?_
                              show Steps p.tables e below (s₁.setTop (mkF m 100 #[.val (.int p1)] [(.int (13 : Int32)), (.int p1)])) _
                              exact k
                            refine OwnG.st sg40 ?_
                            by_cases hc100_41 : p1 = (13 : Int32)
                            · have sg42 : ∀ t, Steps p.tables e below (s₁.setTop (mkF m 104 #[.val (.int p1)] [(.int (0 : Int32))])) t → Steps p.tables e below (s₁.setTop (mkF m 100 #[.val (.int p1)] [(.int (13 : Int32)), (.int p1)])) t := by
                                intro t k
                                refine XS.icmpNo X0.here hx rfl (hb hby d2_100) rfl (teq hc100_41).2 ?_
                                show Steps p.tables e below (s₁.setTop (mkF m 103 #[.val (.int p1)] [])) _
                                refine XS.iconst X0.here hx rfl (hb hby d2_103) ?_
                                show Steps p.tables e below (s₁.setTop (mkF m 104 #[.val (.int p1)] [(.int (0 : Int32))])) _
                                exact k
                              refine OwnG.st sg42 ?_
                              have hv : (0 : Int32) = F2 p1 := by simp only [F2, if_neg hc1_2, if_neg hc8_5, if_neg hc15_8, if_neg hc22_11, if_neg hc29_14, if_neg hc36_17, if_neg hc44_20, if_neg hc52_23, if_neg hc60_26, if_neg hc68_29, if_neg hc76_32, if_neg hc84_35, if_neg hc92_38, if_pos hc100_41]
                              exact OwnG.retN X0 hx (t := .boolean) (by simp) Bd.returns (BodyLoose.notSynchronized Bd) (hb hby d2_104) ⟨congrArg (fun w => some (Value.int w)) ((show nar .boolean (0 : Int32) = (0 : Int32) from rfl).trans hv), N0, e0⟩ (by decide) (by decide)
                            · have sg43 : ∀ t, Steps p.tables e below (s₁.setTop (mkF m 108 #[.val (.int p1)] [(.int (14 : Int32)), (.int p1)])) t → Steps p.tables e below (s₁.setTop (mkF m 100 #[.val (.int p1)] [(.int (13 : Int32)), (.int p1)])) t := by
                                intro t k
                                refine XS.icmpYes X0.here hx rfl (pc0 := 100) (pc' := 105) rfl (hb hby d2_100) rfl (feq hc100_41).2 (by decide) (by decide) ?_
                                show Steps p.tables e below (s₁.setTop (mkF m 105 #[.val (.int p1)] [])) _
                                refine XS.iloadN X0.here hx rfl (hb hby d2_105) rfl ?_
                                show Steps p.tables e below (s₁.setTop (mkF m 106 #[.val (.int p1)] [(.int p1)])) _
                                refine XS.bipush X0.here hx rfl (hb hby d2_106) ?_
                                show Steps p.tables e below (s₁.setTop (mkF m 108 #[.val (.int p1)] [(.int (14 : Int32)), (.int p1)])) _
                                exact k
                              refine OwnG.st sg43 ?_
                              by_cases hc108_44 : p1 = (14 : Int32)
                              · have sg45 : ∀ t, Steps p.tables e below (s₁.setTop (mkF m 112 #[.val (.int p1)] [(.int (1 : Int32))])) t → Steps p.tables e below (s₁.setTop (mkF m 108 #[.val (.int p1)] [(.int (14 : Int32)), (.int p1)])) t := by
                                  intro t k
                                  refine XS.icmpNo X0.here hx rfl (hb hby d2_108) rfl (teq hc108_44).2 ?_
                                  show Steps p.tables e below (s₁.setTop (mkF m 111 #[.val (.int p1)] [])) _
                                  refine XS.iconst X0.here hx rfl (hb hby d2_111) ?_
                                  show Steps p.tables e below (s₁.setTop (mkF m 112 #[.val (.int p1)] [(.int (1 : Int32))])) _
                                  exact k
                                refine OwnG.st sg45 ?_
                                have hv : (1 : Int32) = F2 p1 := by simp only [F2, if_neg hc1_2, if_neg hc8_5, if_neg hc15_8, if_neg hc22_11, if_neg hc29_14, if_neg hc36_17, if_neg hc44_20, if_neg hc52_23, if_neg hc60_26, if_neg hc68_29, if_neg hc76_32, if_neg hc84_35, if_neg hc92_38, if_neg hc100_41, if_pos hc108_44]
                                exact OwnG.retN X0 hx (t := .boolean) (by simp) Bd.returns (BodyLoose.notSynchronized Bd) (hb hby d2_112) ⟨congrArg (fun w => some (Value.int w)) ((show nar .boolean (1 : Int32) = (1 : Int32) from rfl).trans hv), N0, e0⟩ (by decide) (by decide)
                              · have sg46 : ∀ t, Steps p.tables e below (s₁.setTop (mkF m 114 #[.val (.int p1)] [(.int (1 : Int32))])) t → Steps p.tables e below (s₁.setTop (mkF m 108 #[.val (.int p1)] [(.int (14 : Int32)), (.int p1)])) t := by
                                  intro t k
                                  refine XS.icmpYes X0.here hx rfl (pc0 := 108) (pc' := 113) rfl (hb hby d2_108) rfl (feq hc108_44).2 (by decide) (by decide) ?_
                                  show Steps p.tables e below (s₁.setTop (mkF m 113 #[.val (.int p1)] [])) _
                                  refine XS.iconst X0.here hx rfl (hb hby d2_113) ?_
                                  show Steps p.tables e below (s₁.setTop (mkF m 114 #[.val (.int p1)] [(.int (1 : Int32))])) _
                                  exact k
                                refine OwnG.st sg46 ?_
                                have hv : (1 : Int32) = F2 p1 := by simp only [F2, if_neg hc1_2, if_neg hc8_5, if_neg hc15_8, if_neg hc22_11, if_neg hc29_14, if_neg hc36_17, if_neg hc44_20, if_neg hc52_23, if_neg hc60_26, if_neg hc68_29, if_neg hc76_32, if_neg hc84_35, if_neg hc92_38, if_neg hc100_41, if_neg hc108_44]
                                exact OwnG.retN X0 hx (t := .boolean) (by simp) Bd.returns (BodyLoose.notSynchronized Bd) (hb hby d2_114) ⟨congrArg (fun w => some (Value.int w)) ((show nar .boolean (1 : Int32) = (1 : Int32) from rfl).trans hv), N0, e0⟩ (by decide) (by decide)
def F3 (p1 : Int32) : Int32 := (if p1 < (0 : Int32) then (if (57343 : Int32) < p1 then (if (1114111 : Int32) < p1 then (0 : Int32) else (1 : Int32)) else (0 : Int32)) else (if p1 < (55296 : Int32) then (1 : Int32) else (if (57343 : Int32) < p1 then (if (1114111 : Int32) < p1 then (0 : Int32) else (1 : Int32)) else (0 : Int32))))
theorem d3_0 : decode prog_15_method_2_code 0 = .ok (.iload_n 0, 1) := by decide +kernel
theorem d3_1 : decode prog_15_method_2_code 1 = .ok (.ifCond .lt 9, 3) := by decide +kernel
theorem d3_4 : decode prog_15_method_2_code 4 = .ok (.iload_n 0, 1) := by decide +kernel
theorem d3_5 : decode prog_15_method_2_code 5 = .ok (.ldc 9, 2) := by decide +kernel
theorem d3_7 : decode prog_15_method_2_code 7 = .ok (.if_icmp .lt 15, 3) := by decide +kernel
theorem d3_10 : decode prog_15_method_2_code 10 = .ok (.iload_n 0, 1) := by decide +kernel
theorem d3_11 : decode prog_15_method_2_code 11 = .ok (.ldc 10, 2) := by decide +kernel
theorem d3_13 : decode prog_15_method_2_code 13 = .ok (.if_icmp .le 13, 3) := by decide +kernel
theorem d3_16 : decode prog_15_method_2_code 16 = .ok (.iload_n 0, 1) := by decide +kernel
theorem d3_17 : decode prog_15_method_2_code 17 = .ok (.ldc 11, 2) := by decide +kernel
theorem d3_19 : decode prog_15_method_2_code 19 = .ok (.if_icmp .gt 7, 3) := by decide +kernel
theorem d3_22 : decode prog_15_method_2_code 22 = .ok (.iconst 1, 1) := by decide +kernel
theorem d3_23 : decode prog_15_method_2_code 23 = .ok (.goto 4, 3) := by decide +kernel
theorem d3_26 : decode prog_15_method_2_code 26 = .ok (.iconst 0, 1) := by decide +kernel
theorem d3_27 : decode prog_15_method_2_code 27 = .ok (.ireturn, 1) := by decide +kernel
theorem pn_3 : plainName "com/example/units_to_scalars/unitstoscalars/ScalarValues" = true := by first | (simp [plainName, overriddenIn]; done) | decide +kernel
theorem ef_3 (m : MethodId) (p1 : Int32) : entryFrame m #[(.int p1)] 1 = mkF m 0 #[.val (.int p1)] [] := by first | (simp [entryFrame, mkF, argsToLocals, Value.category]; done) | rfl
def Q3 (Z : State) (p1 : Int32) (h0 : Heap) (n0 : Nat) (v : Option Value) (h : Heap) (L : List Loc) : Prop := v = some (.int (F3 p1)) ∧ Fr n0 L ∧ h = h0
set_option maxRecDepth 65536 in
set_option maxHeartbeats 40000000 in
theorem rm3 (l : Launch) (Z : State) (a0 : Array Value) (hw : ∀ d ∈ tables_1, d.before a0 Z = true) (ws : List Jvm.Cond) (p1 : Int32)  (h0 : Heap) (n0 : Nat) (Z0 : n0 ≤ h0.size)  :
    MetFree l (⟨"com/example/units_to_scalars/unitstoscalars/ScalarValues", "isScalarValue", "(I)Z"⟩ : MethodName) (head1 (Jvm.Cond.code (⟨"com/example/units_to_scalars/unitstoscalars/ScalarValues", "isScalarValue", "(I)Z"⟩ : MethodName) prog_15_method_2_code 1 (some .boolean) :: ws) ({ frames := 0, cells := 0, slots := 0, locals := 0 } : Room)) (fun a U => a = #[(.int p1)] ∧ Z.Warmed39 U.vm ∧ U.heap = h0) (fun _ _ _ _ _ => True) (fun _ U o U' => ∃ v L, o = .returned v ∧ Q3 Z p1 h0 n0 v U'.heap L ∧ FrameEnd U o U' L ({ frames := 0, cells := 0, slots := 0, locals := 0 } : Room).cells ({ frames := 0, cells := 0, slots := 0, locals := 0 } : Room).slots) := by
  refine MetFree.of_bodySF (plainFor_of_name pn_3) hisR ?_
  intro p e s m args below meth c s₁ Bd hml0 hP hK
  obtain ⟨rfl, hZ, hh⟩ := hP
  have hx := Bd.exec
  have hby := Bd.bytes
  have hml : c.maxLocals = 1 := hml0
  have hown : s.vm.findClass "com/example/units_to_scalars/unitstoscalars/ScalarValues" = some m.cls := findClass_of_methodNamed Bd.named
  have hnm := (name_of_methodNamed Bd.named Bd.method).1
  have X0 : Stand p l e ({ frames := 0, cells := 0, slots := 0, locals := 0 } : Room) s m #[(.int p1)] below meth c s₁ [] 0 0 := Stand.of_body Bd
  have e0 : s₁.heap = h0 := by rw [← hh, Bd.state]; rfl
  have N0 := Fr.nil n0
  suffices hG : OwnG p e below s (Q3 Z p1 h0 n0) ({ frames := 0, cells := 0, slots := 0, locals := 0 } : Room).cells ({ frames := 0, cells := 0, slots := 0, locals := 0 } : Room).slots s₁ (mkF m 0 #[.val (.int p1)] []) by
    obtain ⟨s2, o2, g1, g2⟩ := hG
    exact ⟨s2, o2, castTop (ef_3 m p1) g1, g2⟩
  have sg1 : ∀ t, Steps p.tables e below (s₁.setTop (mkF m 1 #[.val (.int p1)] [(.int p1)])) t → Steps p.tables e below (s₁.setTop (mkF m 0 #[.val (.int p1)] [])) t := by
    intro t k
    refine XS.iloadN X0.here hx rfl (hb hby d3_0) rfl ?_
    show Steps p.tables e below (s₁.setTop (mkF m 1 #[.val (.int p1)] [(.int p1)])) _
    exact k
  refine OwnG.st sg1 ?_
  by_cases hc1_2 : p1 < (0 : Int32)
  · have sg3 : ∀ t, Steps p.tables e below (s₁.setTop (mkF m 13 #[.val (.int p1)] [(.int (57343 : Int32)), (.int p1)])) t → Steps p.tables e below (s₁.setTop (mkF m 1 #[.val (.int p1)] [(.int p1)])) t := by
      intro t k
      refine XS.ifYes X0.here hx rfl (pc0 := 1) (pc' := 10) rfl (hb hby d3_1) rfl ((if0 _ _).trans (tlt hc1_2).1) (by decide) (by decide) ?_
      show Steps p.tables e below (s₁.setTop (mkF m 10 #[.val (.int p1)] [])) _
      refine XS.iloadN X0.here hx rfl (hb hby d3_10) rfl ?_
      show Steps p.tables e below (s₁.setTop (mkF m 11 #[.val (.int p1)] [(.int p1)])) _
      refine X0.ldcInt hx hown (mvT hZ (hw _ (List.mem_of_getElem? (i := 17) rfl))) (g := (mkF m 11 #[.val (.int p1)] [(.int p1)])) rfl (hb hby d3_11) _ ?_
      show Steps p.tables e below (s₁.setTop (mkF m 13 #[.val (.int p1)] [(.int (57343 : Int32)), (.int p1)])) _
      exact k
    refine OwnG.st sg3 ?_
    by_cases hc13_4 : (57343 : Int32) < p1
    · have sg5 : ∀ t, Steps p.tables e below (s₁.setTop (mkF m 19 #[.val (.int p1)] [(.int (1114111 : Int32)), (.int p1)])) t → Steps p.tables e below (s₁.setTop (mkF m 13 #[.val (.int p1)] [(.int (57343 : Int32)), (.int p1)])) t := by
        intro t k
        refine XS.icmpNo X0.here hx rfl (hb hby d3_13) rfl (tlt hc13_4).2.2.2 ?_
        show Steps p.tables e below (s₁.setTop (mkF m 16 #[.val (.int p1)] [])) _
        refine XS.iloadN X0.here hx rfl (hb hby d3_16) rfl ?_
        show Steps p.tables e below (s₁.setTop (mkF m 17 #[.val (.int p1)] [(.int p1)])) _
        refine X0.ldcInt hx hown (mvT hZ (hw _ (List.mem_of_getElem? (i := 21) rfl))) (g := (mkF m 17 #[.val (.int p1)] [(.int p1)])) rfl (hb hby d3_17) _ ?_
        show Steps p.tables e below (s₁.setTop (mkF m 19 #[.val (.int p1)] [(.int (1114111 : Int32)), (.int p1)])) _
        exact k
      refine OwnG.st sg5 ?_
      by_cases hc19_6 : (1114111 : Int32) < p1
      · have sg7 : ∀ t, Steps p.tables e below (s₁.setTop (mkF m 27 #[.val (.int p1)] [(.int (0 : Int32))])) t → Steps p.tables e below (s₁.setTop (mkF m 19 #[.val (.int p1)] [(.int (1114111 : Int32)), (.int p1)])) t := by
          intro t k
          refine XS.icmpYes X0.here hx rfl (pc0 := 19) (pc' := 26) rfl (hb hby d3_19) rfl (tlt hc19_6).2.2.1 (by decide) (by decide) ?_
          show Steps p.tables e below (s₁.setTop (mkF m 26 #[.val (.int p1)] [])) _
          refine XS.iconst X0.here hx rfl (hb hby d3_26) ?_
          show Steps p.tables e below (s₁.setTop (mkF m 27 #[.val (.int p1)] [(.int (0 : Int32))])) _
          exact k
        refine OwnG.st sg7 ?_
        have hv : (0 : Int32) = F3 p1 := by simp only [F3, if_pos hc1_2, if_pos hc13_4, if_pos hc19_6]
        exact OwnG.retN X0 hx (t := .boolean) (by simp) Bd.returns (BodyLoose.notSynchronized Bd) (hb hby d3_27) ⟨congrArg (fun w => some (Value.int w)) ((show nar .boolean (0 : Int32) = (0 : Int32) from rfl).trans hv), N0, e0⟩ (by decide) (by decide)
      · have sg8 : ∀ t, Steps p.tables e below (s₁.setTop (mkF m 27 #[.val (.int p1)] [(.int (1 : Int32))])) t → Steps p.tables e below (s₁.setTop (mkF m 19 #[.val (.int p1)] [(.int (1114111 : Int32)), (.int p1)])) t := by
          intro t k
          refine XS.icmpNo X0.here hx rfl (hb hby d3_19) rfl (flt hc19_6).2.2.1 ?_
          show Steps p.tables e below (s₁.setTop (mkF m 22 #[.val (.int p1)] [])) _
          refine XS.iconst X0.here hx rfl (hb hby d3_22) ?_
          show Steps p.tables e below (s₁.setTop (mkF m 23 #[.val (.int p1)] [(.int (1 : Int32))])) _
          refine XS.goto X0.here hx rfl (pc0 := 23) (pc' := 27) rfl (hb hby d3_23) (by decide) (by decide) ?_
          show Steps p.tables e below (s₁.setTop (mkF m 27 #[.val (.int p1)] [(.int (1 : Int32))])) _
          exact k
        refine OwnG.st sg8 ?_
        have hv : (1 : Int32) = F3 p1 := by simp only [F3, if_pos hc1_2, if_pos hc13_4, if_neg hc19_6]
        exact OwnG.retN X0 hx (t := .boolean) (by simp) Bd.returns (BodyLoose.notSynchronized Bd) (hb hby d3_27) ⟨congrArg (fun w => some (Value.int w)) ((show nar .boolean (1 : Int32) = (1 : Int32) from rfl).trans hv), N0, e0⟩ (by decide) (by decide)
    · have sg9 : ∀ t, Steps p.tables e below (s₁.setTop (mkF m 27 #[.val (.int p1)] [(.int (0 : Int32))])) t → Steps p.tables e below (s₁.setTop (mkF m 13 #[.val (.int p1)] [(.int (57343 : Int32)), (.int p1)])) t := by
        intro t k
        refine XS.icmpYes X0.here hx rfl (pc0 := 13) (pc' := 26) rfl (hb hby d3_13) rfl (flt hc13_4).2.2.2 (by decide) (by decide) ?_
        show Steps p.tables e below (s₁.setTop (mkF m 26 #[.val (.int p1)] [])) _
        refine XS.iconst X0.here hx rfl (hb hby d3_26) ?_
        show Steps p.tables e below (s₁.setTop (mkF m 27 #[.val (.int p1)] [(.int (0 : Int32))])) _
        exact k
      refine OwnG.st sg9 ?_
      have hv : (0 : Int32) = F3 p1 := by simp only [F3, if_pos hc1_2, if_neg hc13_4]
      exact OwnG.retN X0 hx (t := .boolean) (by simp) Bd.returns (BodyLoose.notSynchronized Bd) (hb hby d3_27) ⟨congrArg (fun w => some (Value.int w)) ((show nar .boolean (0 : Int32) = (0 : Int32) from rfl).trans hv), N0, e0⟩ (by decide) (by decide)
  · have sg10 : ∀ t, Steps p.tables e below (s₁.setTop (mkF m 7 #[.val (.int p1)] [(.int (55296 : Int32)), (.int p1)])) t → Steps p.tables e below (s₁.setTop (mkF m 1 #[.val (.int p1)] [(.int p1)])) t := by
      intro t k
      refine XS.ifNo X0.here hx rfl (hb hby d3_1) rfl ((if0 _ _).trans (flt hc1_2).1) ?_
      show Steps p.tables e below (s₁.setTop (mkF m 4 #[.val (.int p1)] [])) _
      refine XS.iloadN X0.here hx rfl (hb hby d3_4) rfl ?_
      show Steps p.tables e below (s₁.setTop (mkF m 5 #[.val (.int p1)] [(.int p1)])) _
      refine X0.ldcInt hx hown (mvT hZ (hw _ (List.mem_of_getElem? (i := 12) rfl))) (g := (mkF m 5 #[.val (.int p1)] [(.int p1)])) rfl (hb hby d3_5) _ ?_
      show Steps p.tables e below (s₁.setTop (mkF m 7 #[.val (.int p1)] [(.int (55296 : Int32)), (.int p1)])) _
      exact k
    refine OwnG.st sg10 ?_
    by_cases hc7_11 : p1 < (55296 : Int32)
    · have sg12 : ∀ t, Steps p.tables e below (s₁.setTop (mkF m 27 #[.val (.int p1)] [(.int (1 : Int32))])) t → Steps p.tables e below (s₁.setTop (mkF m 7 #[.val (.int p1)] [(.int (55296 : Int32)), (.int p1)])) t := by
        intro t k
        refine XS.icmpYes X0.here hx rfl (pc0 := 7) (pc' := 22) rfl (hb hby d3_7) rfl (tlt hc7_11).1 (by decide) (by decide) ?_
        show Steps p.tables e below (s₁.setTop (mkF m 22 #[.val (.int p1)] [])) _
        refine XS.iconst X0.here hx rfl (hb hby d3_22) ?_
        show Steps p.tables e below (s₁.setTop (mkF m 23 #[.val (.int p1)] [(.int (1 : Int32))])) _
        refine XS.goto X0.here hx rfl (pc0 := 23) (pc' := 27) rfl (hb hby d3_23) (by decide) (by decide) ?_
        show Steps p.tables e below (s₁.setTop (mkF m 27 #[.val (.int p1)] [(.int (1 : Int32))])) _
        exact k
      refine OwnG.st sg12 ?_
      have hv : (1 : Int32) = F3 p1 := by simp only [F3, if_neg hc1_2, if_pos hc7_11]
      exact OwnG.retN X0 hx (t := .boolean) (by simp) Bd.returns (BodyLoose.notSynchronized Bd) (hb hby d3_27) ⟨congrArg (fun w => some (Value.int w)) ((show nar .boolean (1 : Int32) = (1 : Int32) from rfl).trans hv), N0, e0⟩ (by decide) (by decide)
    · have sg13 : ∀ t, Steps p.tables e below (s₁.setTop (mkF m 13 #[.val (.int p1)] [(.int (57343 : Int32)), (.int p1)])) t → Steps p.tables e below (s₁.setTop (mkF m 7 #[.val (.int p1)] [(.int (55296 : Int32)), (.int p1)])) t := by
        intro t k
        refine XS.icmpNo X0.here hx rfl (hb hby d3_7) rfl (flt hc7_11).1 ?_
        show Steps p.tables e below (s₁.setTop (mkF m 10 #[.val (.int p1)] [])) _
        refine XS.iloadN X0.here hx rfl (hb hby d3_10) rfl ?_
        show Steps p.tables e below (s₁.setTop (mkF m 11 #[.val (.int p1)] [(.int p1)])) _
        refine X0.ldcInt hx hown (mvT hZ (hw _ (List.mem_of_getElem? (i := 17) rfl))) (g := (mkF m 11 #[.val (.int p1)] [(.int p1)])) rfl (hb hby d3_11) _ ?_
        show Steps p.tables e below (s₁.setTop (mkF m 13 #[.val (.int p1)] [(.int (57343 : Int32)), (.int p1)])) _
        exact k
      refine OwnG.st sg13 ?_
      by_cases hc13_14 : (57343 : Int32) < p1
      · have sg15 : ∀ t, Steps p.tables e below (s₁.setTop (mkF m 19 #[.val (.int p1)] [(.int (1114111 : Int32)), (.int p1)])) t → Steps p.tables e below (s₁.setTop (mkF m 13 #[.val (.int p1)] [(.int (57343 : Int32)), (.int p1)])) t := by
          intro t k
          refine XS.icmpNo X0.here hx rfl (hb hby d3_13) rfl (tlt hc13_14).2.2.2 ?_
          show Steps p.tables e below (s₁.setTop (mkF m 16 #[.val (.int p1)] [])) _
          refine XS.iloadN X0.here hx rfl (hb hby d3_16) rfl ?_
          show Steps p.tables e below (s₁.setTop (mkF m 17 #[.val (.int p1)] [(.int p1)])) _
          refine X0.ldcInt hx hown (mvT hZ (hw _ (List.mem_of_getElem? (i := 21) rfl))) (g := (mkF m 17 #[.val (.int p1)] [(.int p1)])) rfl (hb hby d3_17) _ ?_
          show Steps p.tables e below (s₁.setTop (mkF m 19 #[.val (.int p1)] [(.int (1114111 : Int32)), (.int p1)])) _
          exact k
        refine OwnG.st sg15 ?_
        by_cases hc19_16 : (1114111 : Int32) < p1
        · have sg17 : ∀ t, Steps p.tables e below (s₁.setTop (mkF m 27 #[.val (.int p1)] [(.int (0 : Int32))])) t → Steps p.tables e below (s₁.setTop (mkF m 19 #[.val (.int p1)] [(.int (1114111 : Int32)), (.int p1)])) t := by
            intro t k
            refine XS.icmpYes X0.here hx rfl (pc0 := 19) (pc' := 26) rfl (hb hby d3_19) rfl (tlt hc19_16).2.2.1 (by decide) (by decide) ?_
            show Steps p.tables e below (s₁.setTop (mkF m 26 #[.val (.int p1)] [])) _
            refine XS.iconst X0.here hx rfl (hb hby d3_26) ?_
            show Steps p.tables e below (s₁.setTop (mkF m 27 #[.val (.int p1)] [(.int (0 : Int32))])) _
            exact k
          refine OwnG.st sg17 ?_
          have hv : (0 : Int32) = F3 p1 := by simp only [F3, if_neg hc1_2, if_neg hc7_11, if_pos hc13_14, if_pos hc19_16]
          exact OwnG.retN X0 hx (t := .boolean) (by simp) Bd.returns (BodyLoose.notSynchronized Bd) (hb hby d3_27) ⟨congrArg (fun w => some (Value.int w)) ((show nar .boolean (0 : Int32) = (0 : Int32) from rfl).trans hv), N0, e0⟩ (by decide) (by decide)
        · have sg18 : ∀ t, Steps p.tables e below (s₁.setTop (mkF m 27 #[.val (.int p1)] [(.int (1 : Int32))])) t → Steps p.tables e below (s₁.setTop (mkF m 19 #[.val (.int p1)] [(.int (1114111 : Int32)), (.int p1)])) t := by
            intro t k
            refine XS.icmpNo X0.here hx rfl (hb hby d3_19) rfl (flt hc19_16).2.2.1 ?_
            show Steps p.tables e below (s₁.setTop (mkF m 22 #[.val (.int p1)] [])) _
            refine XS.iconst X0.here hx rfl (hb hby d3_22) ?_
            show Steps p.tables e below (s₁.setTop (mkF m 23 #[.val (.int p1)] [(.int (1 : Int32))])) _
            refine XS.goto X0.here hx rfl (pc0 := 23) (pc' := 27) rfl (hb hby d3_23) (by decide) (by decide) ?_
            show Steps p.tables e below (s₁.setTop (mkF m 27 #[.val (.int p1)] [(.int (1 : Int32))])) _
            exact k
          refine OwnG.st sg18 ?_
          have hv : (1 : Int32) = F3 p1 := by simp only [F3, if_neg hc1_2, if_neg hc7_11, if_pos hc13_14, if_neg hc19_16]
          exact OwnG.retN X0 hx (t := .boolean) (by simp) Bd.returns (BodyLoose.notSynchronized Bd) (hb hby d3_27) ⟨congrArg (fun w => some (Value.int w)) ((show nar .boolean (1 : Int32) = (1 : Int32) from rfl).trans hv), N0, e0⟩ (by decide) (by decide)
      · have sg19 : ∀ t, Steps p.tables e below (s₁.setTop (mkF m 27 #[.val (.int p1)] [(.int (0 : Int32))])) t → Steps p.tables e below (s₁.setTop (mkF m 13 #[.val (.int p1)] [(.int (57343 : Int32)), (.int p1)])) t := by
          intro t k
          refine XS.icmpYes X0.here hx rfl (pc0 := 13) (pc' := 26) rfl (hb hby d3_13) rfl (flt hc13_14).2.2.2 (by decide) (by decide) ?_
          show Steps p.tables e below (s₁.setTop (mkF m 26 #[.val (.int p1)] [])) _
          refine XS.iconst X0.here hx rfl (hb hby d3_26) ?_
          show Steps p.tables e below (s₁.setTop (mkF m 27 #[.val (.int p1)] [(.int (0 : Int32))])) _
          exact k
        refine OwnG.st sg19 ?_
        have hv : (0 : Int32) = F3 p1 := by simp only [F3, if_neg hc1_2, if_neg hc7_11, if_neg hc13_14]
        exact OwnG.retN X0 hx (t := .boolean) (by simp) Bd.returns (BodyLoose.notSynchronized Bd) (hb hby d3_27) ⟨congrArg (fun w => some (Value.int w)) ((show nar .boolean (0 : Int32) = (0 : Int32) from rfl).trans hv), N0, e0⟩ (by decide) (by decide)
def F4 (p1 : Int32) : Int32 := (if p1 < (0 : Int32) then (0 : Int32) else (if (1114111 : Int32) < p1 then (0 : Int32) else (if (p1 &&& (-2048 : Int32)) = (55296 : Int32) then (0 : Int32) else (1 : Int32))))
theorem d4_0 : decode method_2_code 0 = .ok (.iload_n 0, 1) := by decide +kernel
theorem d4_1 : decode method_2_code 1 = .ok (.ifCond .lt 23, 3) := by decide +kernel
theorem d4_4 : decode method_2_code 4 = .ok (.iload_n 0, 1) := by decide +kernel
theorem d4_5 : decode method_2_code 5 = .ok (.ldc 7, 2) := by decide +kernel
theorem d4_7 : decode method_2_code 7 = .ok (.if_icmp .gt 17, 3) := by decide +kernel
theorem d4_10 : decode method_2_code 10 = .ok (.iload_n 0, 1) := by decide +kernel
theorem d4_11 : decode method_2_code 11 = .ok (.sipush (-2048), 3) := by decide +kernel
theorem d4_14 : decode method_2_code 14 = .ok (.iand, 1) := by decide +kernel
theorem d4_15 : decode method_2_code 15 = .ok (.ldc 8, 2) := by decide +kernel
theorem d4_17 : decode method_2_code 17 = .ok (.if_icmp .eq 7, 3) := by decide +kernel
theorem d4_20 : decode method_2_code 20 = .ok (.iconst 1, 1) := by decide +kernel
theorem d4_21 : decode method_2_code 21 = .ok (.goto 4, 3) := by decide +kernel
theorem d4_24 : decode method_2_code 24 = .ok (.iconst 0, 1) := by decide +kernel
theorem d4_25 : decode method_2_code 25 = .ok (.ireturn, 1) := by decide +kernel
theorem pn_4 : plainName "com/example/units_to_scalars/unitstoscalars/ScalarValuesIsScalarValuePinLaw" = true := by first | (simp [plainName, overriddenIn]; done) | decide +kernel
theorem ef_4 (m : MethodId) (p1 : Int32) : entryFrame m #[(.int p1)] 1 = mkF m 0 #[.val (.int p1)] [] := by first | (simp [entryFrame, mkF, argsToLocals, Value.category]; done) | rfl
def Q4 (Z : State) (p1 : Int32) (h0 : Heap) (n0 : Nat) (v : Option Value) (h : Heap) (L : List Loc) : Prop := v = some (.int (F4 p1)) ∧ Fr n0 L ∧ h = h0
set_option maxRecDepth 65536 in
set_option maxHeartbeats 40000000 in
theorem rm4 (l : Launch) (Z : State) (a0 : Array Value) (hw : ∀ d ∈ tables_1, d.before a0 Z = true) (ws : List Jvm.Cond) (p1 : Int32)  (h0 : Heap) (n0 : Nat) (Z0 : n0 ≤ h0.size)  :
    MetFree l (⟨"com/example/units_to_scalars/unitstoscalars/ScalarValuesIsScalarValuePinLaw", "reference", "(I)Z"⟩ : MethodName) (head1 (Jvm.Cond.code (⟨"com/example/units_to_scalars/unitstoscalars/ScalarValuesIsScalarValuePinLaw", "reference", "(I)Z"⟩ : MethodName) method_2_code 1 (some .boolean) :: ws) ({ frames := 0, cells := 0, slots := 0, locals := 0 } : Room)) (fun a U => a = #[(.int p1)] ∧ Z.Warmed39 U.vm ∧ U.heap = h0) (fun _ _ _ _ _ => True) (fun _ U o U' => ∃ v L, o = .returned v ∧ Q4 Z p1 h0 n0 v U'.heap L ∧ FrameEnd U o U' L ({ frames := 0, cells := 0, slots := 0, locals := 0 } : Room).cells ({ frames := 0, cells := 0, slots := 0, locals := 0 } : Room).slots) := by
  refine MetFree.of_bodySF (plainFor_of_name pn_4) hisR ?_
  intro p e s m args below meth c s₁ Bd hml0 hP hK
  obtain ⟨rfl, hZ, hh⟩ := hP
  have hx := Bd.exec
  have hby := Bd.bytes
  have hml : c.maxLocals = 1 := hml0
  have hown : s.vm.findClass "com/example/units_to_scalars/unitstoscalars/ScalarValuesIsScalarValuePinLaw" = some m.cls := findClass_of_methodNamed Bd.named
  have hnm := (name_of_methodNamed Bd.named Bd.method).1
  have X0 : Stand p l e ({ frames := 0, cells := 0, slots := 0, locals := 0 } : Room) s m #[(.int p1)] below meth c s₁ [] 0 0 := Stand.of_body Bd
  have e0 : s₁.heap = h0 := by rw [← hh, Bd.state]; rfl
  have N0 := Fr.nil n0
  suffices hG : OwnG p e below s (Q4 Z p1 h0 n0) ({ frames := 0, cells := 0, slots := 0, locals := 0 } : Room).cells ({ frames := 0, cells := 0, slots := 0, locals := 0 } : Room).slots s₁ (mkF m 0 #[.val (.int p1)] []) by
    obtain ⟨s2, o2, g1, g2⟩ := hG
    exact ⟨s2, o2, castTop (ef_4 m p1) g1, g2⟩
  have sg1 : ∀ t, Steps p.tables e below (s₁.setTop (mkF m 1 #[.val (.int p1)] [(.int p1)])) t → Steps p.tables e below (s₁.setTop (mkF m 0 #[.val (.int p1)] [])) t := by
    intro t k
    refine XS.iloadN X0.here hx rfl (hb hby d4_0) rfl ?_
    show Steps p.tables e below (s₁.setTop (mkF m 1 #[.val (.int p1)] [(.int p1)])) _
    exact k
  refine OwnG.st sg1 ?_
  by_cases hc1_2 : p1 < (0 : Int32)
  · have sg3 : ∀ t, Steps p.tables e below (s₁.setTop (mkF m 25 #[.val (.int p1)] [(.int (0 : Int32))])) t → Steps p.tables e below (s₁.setTop (mkF m 1 #[.val (.int p1)] [(.int p1)])) t := by
      intro t k
      refine XS.ifYes X0.here hx rfl (pc0 := 1) (pc' := 24) rfl (hb hby d4_1) rfl ((if0 _ _).trans (tlt hc1_2).1) (by decide) (by decide) ?_
      show Steps p.tables e below (s₁.setTop (mkF m 24 #[.val (.int p1)] [])) _
      refine XS.iconst X0.here hx rfl (hb hby d4_24) ?_
      show Steps p.tables e below (s₁.setTop (mkF m 25 #[.val (.int p1)] [(.int (0 : Int32))])) _
      exact k
    refine OwnG.st sg3 ?_
    have hv : (0 : Int32) = F4 p1 := by simp only [F4, if_pos hc1_2]
    exact OwnG.retN X0 hx (t := .boolean) (by simp) Bd.returns (BodyLoose.notSynchronized Bd) (hb hby d4_25) ⟨congrArg (fun w => some (Value.int w)) ((show nar .boolean (0 : Int32) = (0 : Int32) from rfl).trans hv), N0, e0⟩ (by decide) (by decide)
  · have sg4 : ∀ t, Steps p.tables e below (s₁.setTop (mkF m 7 #[.val (.int p1)] [(.int (1114111 : Int32)), (.int p1)])) t → Steps p.tables e below (s₁.setTop (mkF m 1 #[.val (.int p1)] [(.int p1)])) t := by
      intro t k
      refine XS.ifNo X0.here hx rfl (hb hby d4_1) rfl ((if0 _ _).trans (flt hc1_2).1) ?_
      show Steps p.tables e below (s₁.setTop (mkF m 4 #[.val (.int p1)] [])) _
      refine XS.iloadN X0.here hx rfl (hb hby d4_4) rfl ?_
      show Steps p.tables e below (s₁.setTop (mkF m 5 #[.val (.int p1)] [(.int p1)])) _
      refine X0.ldcInt hx hown (mvT hZ (hw _ (List.mem_of_getElem? (i := 16) rfl))) (g := (mkF m 5 #[.val (.int p1)] [(.int p1)])) rfl (hb hby d4_5) _ ?_
      show Steps p.tables e below (s₁.setTop (mkF m 7 #[.val (.int p1)] [(.int (1114111 : Int32)), (.int p1)])) _
      exact k
    refine OwnG.st sg4 ?_
    by_cases hc7_5 : (1114111 : Int32) < p1
    · have sg6 : ∀ t, Steps p.tables e below (s₁.setTop (mkF m 25 #[.val (.int p1)] [(.int (0 : Int32))])) t → Steps p.tables e below (s₁.setTop (mkF m 7 #[.val (.int p1)] [(.int (1114111 : Int32)), (.int p1)])) t := by
        intro t k
        refine XS.icmpYes X0.here hx rfl (pc0 := 7) (pc' := 24) rfl (hb hby d4_7) rfl (tlt hc7_5).2.2.1 (by decide) (by decide) ?_
        show Steps p.tables e below (s₁.setTop (mkF m 24 #[.val (.int p1)] [])) _
        refine XS.iconst X0.here hx rfl (hb hby d4_24) ?_
        show Steps p.tables e below (s₁.setTop (mkF m 25 #[.val (.int p1)] [(.int (0 : Int32))])) _
        exact k
      refine OwnG.st sg6 ?_
      have hv : (0 : Int32) = F4 p1 := by simp only [F4, if_neg hc1_2, if_pos hc7_5]
      exact OwnG.retN X0 hx (t := .boolean) (by simp) Bd.returns (BodyLoose.notSynchronized Bd) (hb hby d4_25) ⟨congrArg (fun w => some (Value.int w)) ((show nar .boolean (0 : Int32) = (0 : Int32) from rfl).trans hv), N0, e0⟩ (by decide) (by decide)
    · have sg7 : ∀ t, Steps p.tables e below (s₁.setTop (mkF m 17 #[.val (.int p1)] [(.int (55296 : Int32)), (.int (p1 &&& (-2048 : Int32)))])) t → Steps p.tables e below (s₁.setTop (mkF m 7 #[.val (.int p1)] [(.int (1114111 : Int32)), (.int p1)])) t := by
        intro t k
        refine XS.icmpNo X0.here hx rfl (hb hby d4_7) rfl (flt hc7_5).2.2.1 ?_
        show Steps p.tables e below (s₁.setTop (mkF m 10 #[.val (.int p1)] [])) _
        refine XS.iloadN X0.here hx rfl (hb hby d4_10) rfl ?_
        show Steps p.tables e below (s₁.setTop (mkF m 11 #[.val (.int p1)] [(.int p1)])) _
        refine XS.sipush X0.here hx rfl (hb hby d4_11) ?_
        show Steps p.tables e below (s₁.setTop (mkF m 14 #[.val (.int p1)] [(.int (-2048 : Int32)), (.int p1)])) _
        refine XS.iand X0.here hx rfl (hb hby d4_14) rfl ?_
        show Steps p.tables e below (s₁.setTop (mkF m 15 #[.val (.int p1)] [(.int (p1 &&& (-2048 : Int32)))])) _
        refine X0.ldcInt hx hown (mvT hZ (hw _ (List.mem_of_getElem? (i := 4) rfl))) (g := (mkF m 15 #[.val (.int p1)] [(.int (p1 &&& (-2048 : Int32)))])) rfl (hb hby d4_15) _ ?_
        show Steps p.tables e below (s₁.setTop (mkF m 17 #[.val (.int p1)] [(.int (55296 : Int32)), (.int (p1 &&& (-2048 : Int32)))])) _
        exact k
      refine OwnG.st sg7 ?_
      by_cases hc17_8 : (p1 &&& (-2048 : Int32)) = (55296 : Int32)
      · have sg9 : ∀ t, Steps p.tables e below (s₁.setTop (mkF m 25 #[.val (.int p1)] [(.int (0 : Int32))])) t → Steps p.tables e below (s₁.setTop (mkF m 17 #[.val (.int p1)] [(.int (55296 : Int32)), (.int (p1 &&& (-2048 : Int32)))])) t := by
          intro t k
          refine XS.icmpYes X0.here hx rfl (pc0 := 17) (pc' := 24) rfl (hb hby d4_17) rfl (teq hc17_8).1 (by decide) (by decide) ?_
          show Steps p.tables e below (s₁.setTop (mkF m 24 #[.val (.int p1)] [])) _
          refine XS.iconst X0.here hx rfl (hb hby d4_24) ?_
          show Steps p.tables e below (s₁.setTop (mkF m 25 #[.val (.int p1)] [(.int (0 : Int32))])) _
          exact k
        refine OwnG.st sg9 ?_
        have hv : (0 : Int32) = F4 p1 := by simp only [F4, if_neg hc1_2, if_neg hc7_5, if_pos hc17_8]
        exact OwnG.retN X0 hx (t := .boolean) (by simp) Bd.returns (BodyLoose.notSynchronized Bd) (hb hby d4_25) ⟨congrArg (fun w => some (Value.int w)) ((show nar .boolean (0 : Int32) = (0 : Int32) from rfl).trans hv), N0, e0⟩ (by decide) (by decide)
      · have sg10 : ∀ t, Steps p.tables e below (s₁.setTop (mkF m 25 #[.val (.int p1)] [(.int (1 : Int32))])) t → Steps p.tables e below (s₁.setTop (mkF m 17 #[.val (.int p1)] [(.int (55296 : Int32)), (.int (p1 &&& (-2048 : Int32)))])) t := by
          intro t k
          refine XS.icmpNo X0.here hx rfl (hb hby d4_17) rfl (feq hc17_8).1 ?_
          show Steps p.tables e below (s₁.setTop (mkF m 20 #[.val (.int p1)] [])) _
          refine XS.iconst X0.here hx rfl (hb hby d4_20) ?_
          show Steps p.tables e below (s₁.setTop (mkF m 21 #[.val (.int p1)] [(.int (1 : Int32))])) _
          refine XS.goto X0.here hx rfl (pc0 := 21) (pc' := 25) rfl (hb hby d4_21) (by decide) (by decide) ?_
          show Steps p.tables e below (s₁.setTop (mkF m 25 #[.val (.int p1)] [(.int (1 : Int32))])) _
          exact k
        refine OwnG.st sg10 ?_
        have hv : (1 : Int32) = F4 p1 := by simp only [F4, if_neg hc1_2, if_neg hc7_5, if_neg hc17_8]
        exact OwnG.retN X0 hx (t := .boolean) (by simp) Bd.returns (BodyLoose.notSynchronized Bd) (hb hby d4_25) ⟨congrArg (fun w => some (Value.int w)) ((show nar .boolean (1 : Int32) = (1 : Int32) from rfl).trans hv), N0, e0⟩ (by decide) (by decide)
theorem own_ref (x : Int32) : F3 x = F4 x := by
  have h := c_mask x 2047 11 (by decide) (by decide)
  have g := own_hi x 2047 (-2048) (by decide)
  have k := c_iadd (x &&& (-2048 : Int32)) (x &&& (2047 : Int32))
  rw [g] at k
  have r := rng32 x
  have r2 := rng32 (x &&& (-2048 : Int32))
  have e0 : (0 : Int32).toInt = 0 := rfl
  have e1 : (55296 : Int32).toInt = 55296 := rfl
  have e2 : (57343 : Int32).toInt = 57343 := rfl
  have e3 : (1114111 : Int32).toInt = 1114111 := rfl
  unfold F3 F4
  by_cases a : x < 0 <;> by_cases b : x < 55296 <;> by_cases c : (57343 : Int32) < x <;> by_cases f : (1114111 : Int32) < x <;> by_cases d : (x &&& (-2048 : Int32)) = (55296 : Int32)
  all_goals simp only [a, b, c, d, f, if_true, if_false]
  all_goals first | rfl | (exfalso; rw [Int32.lt_iff_toInt_lt] at a b c f; rw [← Int32.toInt_inj] at d; omega)
theorem own_probe (k : Int32) : F3 (F1 (k &&& 15)) = F2 (k &&& 15) := by
  have hk : ∀ k : Fin 16, F3 (F1 (Int32.ofNat k.1)) = F2 (Int32.ofNat k.1) := by decide +kernel
  have h := c_mask k 15 4 (by decide) (by decide)
  have l : (k &&& 15).toNatClampNeg < 16 := by
    show (k &&& 15).toInt.toNat < 16
    omega
  have e := Int32.ofNat_toNatClampNeg (k &&& 15) (by rw [Int32.le_iff_toInt_le, h]; show (0 : Int) ≤ _; omega)
  rw [← e]; exact hk ⟨_, l⟩
theorem pn_0 : plainName "com/example/units_to_scalars/unitstoscalars/ScalarValuesIsScalarValuePinLaw" = true := by first | (simp [plainName, overriddenIn]; done) | decide +kernel
theorem pd_0_0 : parseMethodDescriptor "(I)I" = some ⟨[.int], some .int⟩ := by decide +kernel
theorem pd_0_1 : parseMethodDescriptor "(I)Z" = some ⟨[.int], some .boolean⟩ := by decide +kernel
theorem ef_0 (m : MethodId) (p1 : Int32) (p2 : Int32) : entryFrame m #[(.int p1), (.int p2)] maxLocals = mkF m 0 #[.val (.int p1), .val (.int p2), .unset, .unset, .unset, .unset, .unset] [] := by first | (simp [entryFrame, mkF, argsToLocals, Value.category, maxLocals]; done) | rfl
def Q0 (Z : State) (p1 : Int32) (p2 : Int32) (h0 : Heap) (n0 : Nat) (v : Option Value) (h : Heap) (L : List Loc) : Prop := v = some (.int 1) ∧ Fr n0 L
set_option maxRecDepth 65536 in
set_option maxHeartbeats 40000000 in
theorem rm0 (l : Launch) (Z : State) (a0 : Array Value) (hw : ∀ d ∈ tables_1, d.before a0 Z = true) (ws : List Jvm.Cond) (p1 : Int32) (p2 : Int32)  (h0 : Heap) (n0 : Nat) (Z0 : n0 ≤ h0.size)  :
    MetFree l x (head1 (Jvm.Cond.code x code maxLocals ret :: ws) room_1) (fun a U => a = #[(.int p1), (.int p2)] ∧ Z.Warmed39 U.vm ∧ U.heap = h0) (fun _ _ _ _ _ => True) (fun _ U o U' => ∃ v L, o = .returned v ∧ Q0 Z p1 p2 h0 n0 v U'.heap L ∧ FrameEnd U o U' L room_1.cells room_1.slots) := by
  refine MetFree.of_bodySF (plainFor_of_name pn_0) hisR ?_
  intro p e s m args below meth c s₁ Bd hml0 hP hK
  obtain ⟨rfl, hZ, hh⟩ := hP
  have hx := Bd.exec
  have hby := Bd.bytes
  have hml : c.maxLocals = 7 := hml0
  have hown : s.vm.findClass "com/example/units_to_scalars/unitstoscalars/ScalarValuesIsScalarValuePinLaw" = some m.cls := findClass_of_methodNamed Bd.named
  have hnm := (name_of_methodNamed Bd.named Bd.method).1
  have X0 : Stand p l e room_1 s m #[(.int p1), (.int p2)] below meth c s₁ [] 0 0 := Stand.of_body Bd
  have e0 : s₁.heap = h0 := by rw [← hh, Bd.state]; rfl
  have N0 := Fr.nil n0
  suffices hG : OwnG p e below s (Q0 Z p1 p2 h0 n0) room_1.cells room_1.slots s₁ (mkF m 0 #[.val (.int p1), .val (.int p2), .unset, .unset, .unset, .unset, .unset] []) by
    obtain ⟨s2, o2, g1, g2⟩ := hG
    exact ⟨s2, o2, castTop (ef_0 m p1 p2) g1, g2⟩
  have sg1 : ∀ t, Steps p.tables e below (s₁.setTop (mkF m 6 #[.val (.int p1), .val (.int p2), .val (.int (p2 &&& (15 : Int32))), .unset, .unset, .unset, .unset] [(.int (p2 &&& (15 : Int32)))])) t → Steps p.tables e below (s₁.setTop (mkF m 0 #[.val (.int p1), .val (.int p2), .unset, .unset, .unset, .unset, .unset] [])) t := by
    intro t k
    refine XS.iloadN X0.here hx rfl (hb hby at_0) rfl ?_
    show Steps p.tables e below (s₁.setTop (mkF m 1 #[.val (.int p1), .val (.int p2), .unset, .unset, .unset, .unset, .unset] [(.int p2)])) _
    refine XS.bipush X0.here hx rfl (hb hby at_1) ?_
    show Steps p.tables e below (s₁.setTop (mkF m 3 #[.val (.int p1), .val (.int p2), .unset, .unset, .unset, .unset, .unset] [(.int (15 : Int32)), (.int p2)])) _
    refine XS.iand X0.here hx rfl (hb hby at_3) rfl ?_
    show Steps p.tables e below (s₁.setTop (mkF m 4 #[.val (.int p1), .val (.int p2), .unset, .unset, .unset, .unset, .unset] [(.int (p2 &&& (15 : Int32)))])) _
    refine XS.istoreN X0.here hx rfl (hb hby at_4) rfl (l' := #[.val (.int p1), .val (.int p2), .val (.int (p2 &&& (15 : Int32))), .unset, .unset, .unset, .unset]) rfl ?_
    show Steps p.tables e below (s₁.setTop (mkF m 5 #[.val (.int p1), .val (.int p2), .val (.int (p2 &&& (15 : Int32))), .unset, .unset, .unset, .unset] [])) _
    refine XS.iloadN X0.here hx rfl (hb hby at_5) rfl ?_
    show Steps p.tables e below (s₁.setTop (mkF m 6 #[.val (.int p1), .val (.int p2), .val (.int (p2 &&& (15 : Int32))), .unset, .unset, .unset, .unset] [(.int (p2 &&& (15 : Int32)))])) _
    exact k
  refine OwnG.st sg1 ?_
  obtain ⟨_, _, ⟨T2, L2, k2, n2⟩, -, X2, ⟨Lc2, hQ2, l2, y2, z2⟩, st2⟩ := Jvm.LawKit.callS X0 hx (y := (⟨"com/example/units_to_scalars/unitstoscalars/ScalarValuesIsScalarValuePinLaw", "probe", "(I)I"⟩ : MethodName)) hown (mvT hZ (hw _ (List.mem_of_getElem? (i := 0) rfl))) (mvT hZ (hw _ (List.mem_of_getElem? (i := 1) rfl))) (mvT hZ (hw _ (List.mem_of_getElem? (i := 2) rfl))) (mvT hZ (hw _ (List.mem_of_getElem? (i := 3) rfl))) (by decide) (backOf (W := 0) (rm1 l Z a0 hw [] (p2 &&& (15 : Int32))  h0 n0 Z0 ) hZ (hw _ (List.mem_of_getElem? (i := 3) rfl)) (hw _ (List.mem_of_getElem? (i := 2) rfl)) (by decide) (by decide)) (g := (mkF m 6 #[.val (.int p1), .val (.int p2), .val (.int (p2 &&& (15 : Int32))), .unset, .unset, .unset, .unset] [(.int (p2 &&& (15 : Int32)))])) rfl (by rw [hml]; rfl) (argsL := [(.int (p2 &&& (15 : Int32)))]) (rest := []) (lenOf pd_0_0 rfl) rfl (by show 2 * 0 + _ ≤ _; exact Nat.le_of_eq rfl) (hb hby at_6) (fun _ _ => ⟨rfl, e0, (by decide : 0 + 0 ≤ _), (by decide : 0 + 0 ≤ _)⟩)
  dsimp only [Pt.U, Pt.locs, Pt.cells, Pt.slots] at X2 l2 y2 z2 st2 hQ2
  subst l2 y2 z2
  obtain ⟨rfl, N2q, e2⟩ := hQ2
  have N2 := Fr.app N0 N2q
  refine OwnG.st (fun t k => st2 t k) ?_
  show OwnG p e below s _ _ _ T2 (mkF m 9 #[.val (.int p1), .val (.int p2), .val (.int (p2 &&& (15 : Int32))), .unset, .unset, .unset, .unset] [(.int (F1 (p2 &&& (15 : Int32))))])
  have sg3 : ∀ t, Steps p.tables e below (T2.setTop (mkF m 11 #[.val (.int p1), .val (.int p2), .val (.int (p2 &&& (15 : Int32))), .val (.int (F1 (p2 &&& (15 : Int32)))), .unset, .unset, .unset] [(.int (p2 &&& (15 : Int32)))])) t → Steps p.tables e below (T2.setTop (mkF m 9 #[.val (.int p1), .val (.int p2), .val (.int (p2 &&& (15 : Int32))), .unset, .unset, .unset, .unset] [(.int (F1 (p2 &&& (15 : Int32))))])) t := by
    intro t k
    refine XS.istoreN X2.here hx rfl (hb hby at_9) rfl (l' := #[.val (.int p1), .val (.int p2), .val (.int (p2 &&& (15 : Int32))), .val (.int (F1 (p2 &&& (15 : Int32)))), .unset, .unset, .unset]) rfl ?_
    show Steps p.tables e below (T2.setTop (mkF m 10 #[.val (.int p1), .val (.int p2), .val (.int (p2 &&& (15 : Int32))), .val (.int (F1 (p2 &&& (15 : Int32)))), .unset, .unset, .unset] [])) _
    refine XS.iloadN X2.here hx rfl (hb hby at_10) rfl ?_
    show Steps p.tables e below (T2.setTop (mkF m 11 #[.val (.int p1), .val (.int p2), .val (.int (p2 &&& (15 : Int32))), .val (.int (F1 (p2 &&& (15 : Int32)))), .unset, .unset, .unset] [(.int (p2 &&& (15 : Int32)))])) _
    exact k
  refine OwnG.st sg3 ?_
  obtain ⟨_, _, ⟨T4, L4, k4, n4⟩, -, X4, ⟨Lc4, hQ4, l4, y4, z4⟩, st4⟩ := Jvm.LawKit.callS X2 hx (y := (⟨"com/example/units_to_scalars/unitstoscalars/ScalarValuesIsScalarValuePinLaw", "expected", "(I)Z"⟩ : MethodName)) hown (mvT hZ (hw _ (List.mem_of_getElem? (i := 5) rfl))) (mvT hZ (hw _ (List.mem_of_getElem? (i := 6) rfl))) (mvT hZ (hw _ (List.mem_of_getElem? (i := 2) rfl))) (mvT hZ (hw _ (List.mem_of_getElem? (i := 7) rfl))) (by decide) (backOf (W := 0) (rm2 l Z a0 hw [] (p2 &&& (15 : Int32))  h0 n0 Z0 ) hZ (hw _ (List.mem_of_getElem? (i := 7) rfl)) (hw _ (List.mem_of_getElem? (i := 2) rfl)) (by decide) (by decide)) (g := (mkF m 11 #[.val (.int p1), .val (.int p2), .val (.int (p2 &&& (15 : Int32))), .val (.int (F1 (p2 &&& (15 : Int32)))), .unset, .unset, .unset] [(.int (p2 &&& (15 : Int32)))])) rfl (by rw [hml]; rfl) (argsL := [(.int (p2 &&& (15 : Int32)))]) (rest := []) (lenOf pd_0_1 rfl) rfl (by show 2 * 0 + _ ≤ _; exact Nat.le_of_eq rfl) (hb hby at_11) (fun _ _ => ⟨rfl, e2, (by decide : 0 + 0 ≤ _), (by decide : 0 + 0 ≤ _)⟩)
  dsimp only [Pt.U, Pt.locs, Pt.cells, Pt.slots] at X4 l4 y4 z4 st4 hQ4
  subst l4 y4 z4
  obtain ⟨rfl, N4q, e4⟩ := hQ4
  have N4 := Fr.app N2 N4q
  refine OwnG.st (fun t k => st4 t k) ?_
  show OwnG p e below s _ _ _ T4 (mkF m 14 #[.val (.int p1), .val (.int p2), .val (.int (p2 &&& (15 : Int32))), .val (.int (F1 (p2 &&& (15 : Int32)))), .unset, .unset, .unset] [(.int (F2 (p2 &&& (15 : Int32))))])
  have sg5 : ∀ t, Steps p.tables e below (T4.setTop (mkF m 17 #[.val (.int p1), .val (.int p2), .val (.int (p2 &&& (15 : Int32))), .val (.int (F1 (p2 &&& (15 : Int32)))), .val (.int (F2 (p2 &&& (15 : Int32)))), .unset, .unset] [(.int p1)])) t → Steps p.tables e below (T4.setTop (mkF m 14 #[.val (.int p1), .val (.int p2), .val (.int (p2 &&& (15 : Int32))), .val (.int (F1 (p2 &&& (15 : Int32)))), .unset, .unset, .unset] [(.int (F2 (p2 &&& (15 : Int32))))])) t := by
    intro t k
    refine XS.istore X4.here hx rfl (hb hby at_14) rfl (l' := #[.val (.int p1), .val (.int p2), .val (.int (p2 &&& (15 : Int32))), .val (.int (F1 (p2 &&& (15 : Int32)))), .val (.int (F2 (p2 &&& (15 : Int32)))), .unset, .unset]) rfl ?_
    show Steps p.tables e below (T4.setTop (mkF m 16 #[.val (.int p1), .val (.int p2), .val (.int (p2 &&& (15 : Int32))), .val (.int (F1 (p2 &&& (15 : Int32)))), .val (.int (F2 (p2 &&& (15 : Int32)))), .unset, .unset] [])) _
    refine XS.iloadN X4.here hx rfl (hb hby at_16) rfl ?_
    show Steps p.tables e below (T4.setTop (mkF m 17 #[.val (.int p1), .val (.int p2), .val (.int (p2 &&& (15 : Int32))), .val (.int (F1 (p2 &&& (15 : Int32)))), .val (.int (F2 (p2 &&& (15 : Int32)))), .unset, .unset] [(.int p1)])) _
    exact k
  refine OwnG.st sg5 ?_
  obtain ⟨_, _, ⟨T6, L6, k6, n6⟩, -, X6, ⟨Lc6, hQ6, l6, y6, z6⟩, st6⟩ := Jvm.LawKit.callS X4 hx (y := (⟨"com/example/units_to_scalars/unitstoscalars/ScalarValues", "isScalarValue", "(I)Z"⟩ : MethodName)) hown (mvT hZ (hw _ (List.mem_of_getElem? (i := 8) rfl))) (mvT hZ (hw _ (List.mem_of_getElem? (i := 9) rfl))) (mvT hZ (hw _ (List.mem_of_getElem? (i := 10) rfl))) (mvT hZ (hw _ (List.mem_of_getElem? (i := 11) rfl))) (by decide) (backOf (W := 0) (rm3 l Z a0 hw [] p1  h0 n0 Z0 ) hZ (hw _ (List.mem_of_getElem? (i := 11) rfl)) (hw _ (List.mem_of_getElem? (i := 10) rfl)) (by decide) (by decide)) (g := (mkF m 17 #[.val (.int p1), .val (.int p2), .val (.int (p2 &&& (15 : Int32))), .val (.int (F1 (p2 &&& (15 : Int32)))), .val (.int (F2 (p2 &&& (15 : Int32)))), .unset, .unset] [(.int p1)])) rfl (by rw [hml]; rfl) (argsL := [(.int p1)]) (rest := []) (lenOf pd_0_1 rfl) rfl (by show 2 * 0 + _ ≤ _; exact Nat.le_of_eq rfl) (hb hby at_17) (fun _ _ => ⟨rfl, e4, (by decide : 0 + 0 ≤ _), (by decide : 0 + 0 ≤ _)⟩)
  dsimp only [Pt.U, Pt.locs, Pt.cells, Pt.slots] at X6 l6 y6 z6 st6 hQ6
  subst l6 y6 z6
  obtain ⟨rfl, N6q, e6⟩ := hQ6
  have N6 := Fr.app N4 N6q
  refine OwnG.st (fun t k => st6 t k) ?_
  show OwnG p e below s _ _ _ T6 (mkF m 20 #[.val (.int p1), .val (.int p2), .val (.int (p2 &&& (15 : Int32))), .val (.int (F1 (p2 &&& (15 : Int32)))), .val (.int (F2 (p2 &&& (15 : Int32)))), .unset, .unset] [(.int (F3 p1))])
  have sg7 : ∀ t, Steps p.tables e below (T6.setTop (mkF m 21 #[.val (.int p1), .val (.int p2), .val (.int (p2 &&& (15 : Int32))), .val (.int (F1 (p2 &&& (15 : Int32)))), .val (.int (F2 (p2 &&& (15 : Int32)))), .unset, .unset] [(.int p1), (.int (F3 p1))])) t → Steps p.tables e below (T6.setTop (mkF m 20 #[.val (.int p1), .val (.int p2), .val (.int (p2 &&& (15 : Int32))), .val (.int (F1 (p2 &&& (15 : Int32)))), .val (.int (F2 (p2 &&& (15 : Int32)))), .unset, .unset] [(.int (F3 p1))])) t := by
    intro t k
    refine XS.iloadN X6.here hx rfl (hb hby at_20) rfl ?_
    show Steps p.tables e below (T6.setTop (mkF m 21 #[.val (.int p1), .val (.int p2), .val (.int (p2 &&& (15 : Int32))), .val (.int (F1 (p2 &&& (15 : Int32)))), .val (.int (F2 (p2 &&& (15 : Int32)))), .unset, .unset] [(.int p1), (.int (F3 p1))])) _
    exact k
  refine OwnG.st sg7 ?_
  obtain ⟨_, _, ⟨T8, L8, k8, n8⟩, -, X8, ⟨Lc8, hQ8, l8, y8, z8⟩, st8⟩ := Jvm.LawKit.callS X6 hx (y := (⟨"com/example/units_to_scalars/unitstoscalars/ScalarValuesIsScalarValuePinLaw", "reference", "(I)Z"⟩ : MethodName)) hown (mvT hZ (hw _ (List.mem_of_getElem? (i := 13) rfl))) (mvT hZ (hw _ (List.mem_of_getElem? (i := 14) rfl))) (mvT hZ (hw _ (List.mem_of_getElem? (i := 2) rfl))) (mvT hZ (hw _ (List.mem_of_getElem? (i := 15) rfl))) (by decide) (backOf (W := 1) (rm4 l Z a0 hw [] p1  h0 n0 Z0 ) hZ (hw _ (List.mem_of_getElem? (i := 15) rfl)) (hw _ (List.mem_of_getElem? (i := 2) rfl)) (by decide) (by decide)) (g := (mkF m 21 #[.val (.int p1), .val (.int p2), .val (.int (p2 &&& (15 : Int32))), .val (.int (F1 (p2 &&& (15 : Int32)))), .val (.int (F2 (p2 &&& (15 : Int32)))), .unset, .unset] [(.int p1), (.int (F3 p1))])) rfl (by rw [hml]; rfl) (argsL := [(.int p1)]) (rest := [(.int (F3 p1))]) (lenOf pd_0_1 rfl) rfl (by show 2 * 0 + _ ≤ _; exact Nat.le_of_eq rfl) (hb hby at_21) (fun _ _ => ⟨rfl, e6, (by decide : 0 + 0 ≤ _), (by decide : 0 + 0 ≤ _)⟩)
  dsimp only [Pt.U, Pt.locs, Pt.cells, Pt.slots] at X8 l8 y8 z8 st8 hQ8
  subst l8 y8 z8
  obtain ⟨rfl, N8q, e8⟩ := hQ8
  have N8 := Fr.app N6 N8q
  refine OwnG.st (fun t k => st8 t k) ?_
  show OwnG p e below s _ _ _ T8 (mkF m 24 #[.val (.int p1), .val (.int p2), .val (.int (p2 &&& (15 : Int32))), .val (.int (F1 (p2 &&& (15 : Int32)))), .val (.int (F2 (p2 &&& (15 : Int32)))), .unset, .unset] [(.int (F4 p1)), (.int (F3 p1))])
  have hc24_9 : (F3 p1) = (F4 p1) := own_ref _
  have sg10 : ∀ t, Steps p.tables e below (T8.setTop (mkF m 35 #[.val (.int p1), .val (.int p2), .val (.int (p2 &&& (15 : Int32))), .val (.int (F1 (p2 &&& (15 : Int32)))), .val (.int (F2 (p2 &&& (15 : Int32)))), .val (.int (1 : Int32)), .unset] [(.int (F1 (p2 &&& (15 : Int32))))])) t → Steps p.tables e below (T8.setTop (mkF m 24 #[.val (.int p1), .val (.int p2), .val (.int (p2 &&& (15 : Int32))), .val (.int (F1 (p2 &&& (15 : Int32)))), .val (.int (F2 (p2 &&& (15 : Int32)))), .unset, .unset] [(.int (F4 p1)), (.int (F3 p1))])) t := by
    intro t k
    refine XS.icmpNo X8.here hx rfl (hb hby at_24) rfl (teq hc24_9).2 ?_
    show Steps p.tables e below (T8.setTop (mkF m 27 #[.val (.int p1), .val (.int p2), .val (.int (p2 &&& (15 : Int32))), .val (.int (F1 (p2 &&& (15 : Int32)))), .val (.int (F2 (p2 &&& (15 : Int32)))), .unset, .unset] [])) _
    refine XS.iconst X8.here hx rfl (hb hby at_27) ?_
    show Steps p.tables e below (T8.setTop (mkF m 28 #[.val (.int p1), .val (.int p2), .val (.int (p2 &&& (15 : Int32))), .val (.int (F1 (p2 &&& (15 : Int32)))), .val (.int (F2 (p2 &&& (15 : Int32)))), .unset, .unset] [(.int (1 : Int32))])) _
    refine XS.goto X8.here hx rfl (pc0 := 28) (pc' := 32) rfl (hb hby at_28) (by decide) (by decide) ?_
    show Steps p.tables e below (T8.setTop (mkF m 32 #[.val (.int p1), .val (.int p2), .val (.int (p2 &&& (15 : Int32))), .val (.int (F1 (p2 &&& (15 : Int32)))), .val (.int (F2 (p2 &&& (15 : Int32)))), .unset, .unset] [(.int (1 : Int32))])) _
    refine XS.istore X8.here hx rfl (hb hby at_32) rfl (l' := #[.val (.int p1), .val (.int p2), .val (.int (p2 &&& (15 : Int32))), .val (.int (F1 (p2 &&& (15 : Int32)))), .val (.int (F2 (p2 &&& (15 : Int32)))), .val (.int (1 : Int32)), .unset]) rfl ?_
    show Steps p.tables e below (T8.setTop (mkF m 34 #[.val (.int p1), .val (.int p2), .val (.int (p2 &&& (15 : Int32))), .val (.int (F1 (p2 &&& (15 : Int32)))), .val (.int (F2 (p2 &&& (15 : Int32)))), .val (.int (1 : Int32)), .unset] [])) _
    refine XS.iloadN X8.here hx rfl (hb hby at_34) rfl ?_
    show Steps p.tables e below (T8.setTop (mkF m 35 #[.val (.int p1), .val (.int p2), .val (.int (p2 &&& (15 : Int32))), .val (.int (F1 (p2 &&& (15 : Int32)))), .val (.int (F2 (p2 &&& (15 : Int32)))), .val (.int (1 : Int32)), .unset] [(.int (F1 (p2 &&& (15 : Int32))))])) _
    exact k
  refine OwnG.st sg10 ?_
  obtain ⟨_, _, ⟨T11, L11, k11, n11⟩, -, X11, ⟨Lc11, hQ11, l11, y11, z11⟩, st11⟩ := Jvm.LawKit.callS X8 hx (y := (⟨"com/example/units_to_scalars/unitstoscalars/ScalarValues", "isScalarValue", "(I)Z"⟩ : MethodName)) hown (mvT hZ (hw _ (List.mem_of_getElem? (i := 8) rfl))) (mvT hZ (hw _ (List.mem_of_getElem? (i := 9) rfl))) (mvT hZ (hw _ (List.mem_of_getElem? (i := 10) rfl))) (mvT hZ (hw _ (List.mem_of_getElem? (i := 11) rfl))) (by decide) (backOf (W := 0) (rm3 l Z a0 hw [] (F1 (p2 &&& (15 : Int32)))  h0 n0 Z0 ) hZ (hw _ (List.mem_of_getElem? (i := 11) rfl)) (hw _ (List.mem_of_getElem? (i := 10) rfl)) (by decide) (by decide)) (g := (mkF m 35 #[.val (.int p1), .val (.int p2), .val (.int (p2 &&& (15 : Int32))), .val (.int (F1 (p2 &&& (15 : Int32)))), .val (.int (F2 (p2 &&& (15 : Int32)))), .val (.int (1 : Int32)), .unset] [(.int (F1 (p2 &&& (15 : Int32))))])) rfl (by rw [hml]; rfl) (argsL := [(.int (F1 (p2 &&& (15 : Int32))))]) (rest := []) (lenOf pd_0_1 rfl) rfl (by show 2 * 0 + _ ≤ _; exact Nat.le_of_eq rfl) (hb hby at_35) (fun _ _ => ⟨rfl, e8, (by decide : 0 + 0 ≤ _), (by decide : 0 + 0 ≤ _)⟩)
  dsimp only [Pt.U, Pt.locs, Pt.cells, Pt.slots] at X11 l11 y11 z11 st11 hQ11
  subst l11 y11 z11
  obtain ⟨rfl, N11q, e11⟩ := hQ11
  have N11 := Fr.app N8 N11q
  refine OwnG.st (fun t k => st11 t k) ?_
  show OwnG p e below s _ _ _ T11 (mkF m 38 #[.val (.int p1), .val (.int p2), .val (.int (p2 &&& (15 : Int32))), .val (.int (F1 (p2 &&& (15 : Int32)))), .val (.int (F2 (p2 &&& (15 : Int32)))), .val (.int (1 : Int32)), .unset] [(.int (F3 (F1 (p2 &&& (15 : Int32)))))])
  have hc40_12 : (F3 (F1 (p2 &&& (15 : Int32)))) = (F2 (p2 &&& (15 : Int32))) := own_probe _
  have hc52_13 : ¬ ((1 : Int32) = (0 : Int32)) := by decide
  have hc57_14 : ¬ ((1 : Int32) = (0 : Int32)) := by decide
  have sg15 : ∀ t, Steps p.tables e below (T11.setTop (mkF m 65 #[.val (.int p1), .val (.int p2), .val (.int (p2 &&& (15 : Int32))), .val (.int (F1 (p2 &&& (15 : Int32)))), .val (.int (F2 (p2 &&& (15 : Int32)))), .val (.int (1 : Int32)), .val (.int (1 : Int32))] [(.int (1 : Int32))])) t → Steps p.tables e below (T11.setTop (mkF m 38 #[.val (.int p1), .val (.int p2), .val (.int (p2 &&& (15 : Int32))), .val (.int (F1 (p2 &&& (15 : Int32)))), .val (.int (F2 (p2 &&& (15 : Int32)))), .val (.int (1 : Int32)), .unset] [(.int (F3 (F1 (p2 &&& (15 : Int32)))))])) t := by
    intro t k
    refine XS.iload X11.here hx rfl (hb hby at_38) rfl ?_
    show Steps p.tables e below (T11.setTop (mkF m 40 #[.val (.int p1), .val (.int p2), .val (.int (p2 &&& (15 : Int32))), .val (.int (F1 (p2 &&& (15 : Int32)))), .val (.int (F2 (p2 &&& (15 : Int32)))), .val (.int (1 : Int32)), .unset] [(.int (F2 (p2 &&& (15 : Int32)))), (.int (F3 (F1 (p2 &&& (15 : Int32)))))])) _
    refine XS.icmpNo X11.here hx rfl (hb hby at_40) rfl (teq hc40_12).2 ?_
    show Steps p.tables e below (T11.setTop (mkF m 43 #[.val (.int p1), .val (.int p2), .val (.int (p2 &&& (15 : Int32))), .val (.int (F1 (p2 &&& (15 : Int32)))), .val (.int (F2 (p2 &&& (15 : Int32)))), .val (.int (1 : Int32)), .unset] [])) _
    refine XS.iconst X11.here hx rfl (hb hby at_43) ?_
    show Steps p.tables e below (T11.setTop (mkF m 44 #[.val (.int p1), .val (.int p2), .val (.int (p2 &&& (15 : Int32))), .val (.int (F1 (p2 &&& (15 : Int32)))), .val (.int (F2 (p2 &&& (15 : Int32)))), .val (.int (1 : Int32)), .unset] [(.int (1 : Int32))])) _
    refine XS.goto X11.here hx rfl (pc0 := 44) (pc' := 48) rfl (hb hby at_44) (by decide) (by decide) ?_
    show Steps p.tables e below (T11.setTop (mkF m 48 #[.val (.int p1), .val (.int p2), .val (.int (p2 &&& (15 : Int32))), .val (.int (F1 (p2 &&& (15 : Int32)))), .val (.int (F2 (p2 &&& (15 : Int32)))), .val (.int (1 : Int32)), .unset] [(.int (1 : Int32))])) _
    refine XS.istore X11.here hx rfl (hb hby at_48) rfl (l' := #[.val (.int p1), .val (.int p2), .val (.int (p2 &&& (15 : Int32))), .val (.int (F1 (p2 &&& (15 : Int32)))), .val (.int (F2 (p2 &&& (15 : Int32)))), .val (.int (1 : Int32)), .val (.int (1 : Int32))]) rfl ?_
    show Steps p.tables e below (T11.setTop (mkF m 50 #[.val (.int p1), .val (.int p2), .val (.int (p2 &&& (15 : Int32))), .val (.int (F1 (p2 &&& (15 : Int32)))), .val (.int (F2 (p2 &&& (15 : Int32)))), .val (.int (1 : Int32)), .val (.int (1 : Int32))] [])) _
    refine XS.iload X11.here hx rfl (hb hby at_50) rfl ?_
    show Steps p.tables e below (T11.setTop (mkF m 52 #[.val (.int p1), .val (.int p2), .val (.int (p2 &&& (15 : Int32))), .val (.int (F1 (p2 &&& (15 : Int32)))), .val (.int (F2 (p2 &&& (15 : Int32)))), .val (.int (1 : Int32)), .val (.int (1 : Int32))] [(.int (1 : Int32))])) _
    refine XS.ifNo X11.here hx rfl (hb hby at_52) rfl ((if0 _ _).trans (feq hc52_13).1) ?_
    show Steps p.tables e below (T11.setTop (mkF m 55 #[.val (.int p1), .val (.int p2), .val (.int (p2 &&& (15 : Int32))), .val (.int (F1 (p2 &&& (15 : Int32)))), .val (.int (F2 (p2 &&& (15 : Int32)))), .val (.int (1 : Int32)), .val (.int (1 : Int32))] [])) _
    refine XS.iload X11.here hx rfl (hb hby at_55) rfl ?_
    show Steps p.tables e below (T11.setTop (mkF m 57 #[.val (.int p1), .val (.int p2), .val (.int (p2 &&& (15 : Int32))), .val (.int (F1 (p2 &&& (15 : Int32)))), .val (.int (F2 (p2 &&& (15 : Int32)))), .val (.int (1 : Int32)), .val (.int (1 : Int32))] [(.int (1 : Int32))])) _
    refine XS.ifNo X11.here hx rfl (hb hby at_57) rfl ((if0 _ _).trans (feq hc57_14).1) ?_
    show Steps p.tables e below (T11.setTop (mkF m 60 #[.val (.int p1), .val (.int p2), .val (.int (p2 &&& (15 : Int32))), .val (.int (F1 (p2 &&& (15 : Int32)))), .val (.int (F2 (p2 &&& (15 : Int32)))), .val (.int (1 : Int32)), .val (.int (1 : Int32))] [])) _
    refine XS.iconst X11.here hx rfl (hb hby at_60) ?_
    show Steps p.tables e below (T11.setTop (mkF m 61 #[.val (.int p1), .val (.int p2), .val (.int (p2 &&& (15 : Int32))), .val (.int (F1 (p2 &&& (15 : Int32)))), .val (.int (F2 (p2 &&& (15 : Int32)))), .val (.int (1 : Int32)), .val (.int (1 : Int32))] [(.int (1 : Int32))])) _
    refine XS.goto X11.here hx rfl (pc0 := 61) (pc' := 65) rfl (hb hby at_61) (by decide) (by decide) ?_
    show Steps p.tables e below (T11.setTop (mkF m 65 #[.val (.int p1), .val (.int p2), .val (.int (p2 &&& (15 : Int32))), .val (.int (F1 (p2 &&& (15 : Int32)))), .val (.int (F2 (p2 &&& (15 : Int32)))), .val (.int (1 : Int32)), .val (.int (1 : Int32))] [(.int (1 : Int32))])) _
    exact k
  refine OwnG.st sg15 ?_
  have hv : (1 : Int32) = 1 := rfl
  exact OwnG.retN X11 hx (t := .boolean) (by simp) Bd.returns (BodyLoose.notSynchronized Bd) (hb hby at_65) ⟨congrArg (fun w => some (Value.int (nar .boolean w))) hv, N11⟩ (by decide) (by decide)
set_option maxRecDepth 65536 in
set_option maxHeartbeats 40000000 in
theorem comes_1 {Post : Tables → Env → Array Value → State → Outcome → State → Prop} (hpost : ∀ tb e args s v u, (limb_1_1.after args s (.returned v) u = true ∧ limb_1_2.after args s (.returned v) u = true ∧ True) → FrameEnd s (.returned v) u (Jvm.fieldLocs frame_1_writes args s ++ Jvm.arrayLocs frame_1_arrays args s ++ Jvm.staticLocs frame_1_statics s) 0 0 → Post tb e args s (.returned v) u) :
    ArmFor flags0 classFile x code maxLocals ret World_1 tables_1 room_1 Calls_1 rest_1 Pre_1 Post := by
  intro l hfl _ _ p e ha hc hk s m args below hf hA hF happ hP
  obtain ⟨hcalls, hrest, hpre⟩ := hP
  obtain ⟨-, -, -, hnamed, -, -, -, hat⟩ := (Spec.applies_iff hf).mp happ
  obtain ⟨hg, hn⟩ := and_e (Cond.before_iff.mp (show (Jvm.Cond.and given_1 narrow_1).before args s = true from hpre))
  obtain ⟨g1, g2⟩ := and_e hg
  obtain ⟨g3, g4⟩ := and_e g2
  obtain ⟨w0, w1, rfl⟩ : ∃ w0 w1 : Value, args = #[w0, w1] := by
    have hs : args.size = 2 := by simpa [Cond.value, given_1] using g1
    obtain ⟨L⟩ := args
    match L, hs with
    | [w0, w1], _ => exact ⟨w0, w1, rfl⟩
  have hw := fun d (hd : d ∈ tables_1) => atoms_spec (ws := Jvm.Cond.code x code maxLocals ret :: tables_1) hat d (List.mem_cons_of_mem _ hd)
  obtain ⟨i0, ei0⟩ := is_v g3
  obtain rfl : w0 = (.int i0) := Option.some.inj ei0
  obtain ⟨i1, ei1⟩ := is_v g4
  obtain rfl : w1 = (.int i1) := Option.some.inj ei1
  obtain ⟨n, o, h1, h2, h3, _, L, rfl, ⟨rfl, N⟩, hq⟩ := rm0 l s _ hw tables_1 i0 i1  s.heap s.heap.size (Nat.le_refl _)  p e ha hc hk s m _ below hf ((Spec.applies_iff_loose hf).mp happ).1 ⟨rfl, State.Warmed39.refl s, rfl⟩ trivial
  refine ⟨n, _, h1, h2, h3, hpost _ _ _ _ _ _ ⟨Cond.after_iff.mpr rfl, Cond.after_iff.mpr (eq_i res_at (Term.int_eval (1)) rfl), trivial⟩ ⟨hq.1, hq.2.1, (hq.2.2.sift fun y hy => Or.inr (N y hy)).mono (by decide) (by decide)⟩⟩
theorem main_1_1 : Claimed_1_1 := comes_1 fun _ _ _ _ _ _ h hF => ⟨h.1, hF⟩
theorem main_1_2 : Claimed_1_2 := comes_1 fun _ _ _ _ _ _ h hF => ⟨h.2.1, hF⟩
end Jvm.Pilot.@@N@@
namespace Jvm.Pilot.@@N@@
open Jvm Jvm.ClassFile Sem Op Lib Jvm.Free Jvm.Stand Jvm.Pilot.@@N@@.Jvm.D
/-! MADE BY PROGRAM (witnessworld.py) out of the Statement's table words and the real class files: 9 classes; the members and pool entries that the words name. The judged class is class 1, her method 4. -/
namespace start1
open Jvm.ClassFile
def u (s : String) : CpInfo := .utf8 (stringToUtf16 s)
/-- a pool by its gaps: so many unusable entries, then the entry; so many at the end -/
def gap : Nat → List CpInfo → List CpInfo
  | 0, r => r
  | n + 1, r => .unusable :: gap n r
def poolList (es : List (Nat × CpInfo)) (last : Nat) : List CpInfo := es.foldr (fun e r => gap e.1 (e.2 :: r)) (gap last [])
def pool (es : List (Nat × CpInfo)) (last : Nat) : Array CpInfo := ⟨poolList es last⟩
def fileOf (pool : Array CpInfo) (this : Nat) (attrs : Array Attribute := #[]) (ms : Array MethodInfo := #[]) (fl : Nat := 33) (sup : Nat := 0) (ifs : Array Nat := #[]) (fds : Array FieldInfo := #[]) : ClassFile where
  minorVersion := 0
  majorVersion := 65
  constantPool := pool
  accessFlags := fl
  thisClass := this
  superClass := sup
  interfaces := ifs
  fields := fds
  methods := ms
  attributes := attrs
def plain (name : String) (sup : Option ClassId) : Class where
  name := name
  kind := .ordinary
  loader := none
  accessFlags := 33
  super := sup
  interfaces := #[]
  cf := none
  fields := #[]
  methods := #[]
  instanceTypes := #[]
  staticTypes := #[]
  resolved := #[]
  callSites := []
  init := .initialized
  statics := none
  mirror := none

def pool0 : Array CpInfo := pool [(5, u "<init>"), (0, u "()V"), (1, .class_ 10), (1, u "java/lang/Object")] 113

def k0m0 : Method := { name := "<init>", desc := "()V", sig := { parameters := [], returnType := none }, accessFlags := 1, code := none }
/-- java/lang/Object -/
def k0 : Class := { plain "java/lang/Object" none with
  accessFlags := 33
  interfaces := #[]
  cf := some (fileOf pool0 8 #[] #[{ accessFlags := 1, nameIndex := 5, descriptorIndex := 6, attributes := #[] }] 33 0 #[] #[])
  fields := #[]
  methods := #[k0m0]
  instanceTypes := #[]
  staticTypes := #[]
  resolved := Array.replicate 124 none
  statics := none }

def pool1 : Array CpInfo := pool [(2, .class_ 4), (1, u "java/lang/Object"), (0, u "<init>"), (0, u "()V"), (0, .integer 1114111), (0, .integer 55296), (0, .integer 55295), (0, .integer 57343), (0, .integer 57344), (0, .integer 1114112), (2, .integer 2147483648), (0, .integer 2147483647), (0, .integer 65533), (0, .integer 64976), (0, .integer 65534), (0, .integer 56320), (0, .integer 65536), (0, .integer 65535), (0, .methodref 24 25), (0, .class_ 26), (0, .nameAndType 27 28), (0, u "com/example/units_to_scalars/unitstoscalars/ScalarValuesIsScalarValuePinLaw"), (0, u "probe"), (0, u "(I)I"), (0, .methodref 24 30), (0, .nameAndType 31 32), (0, u "expected"), (0, u "(I)Z"), (0, .methodref 34 35), (0, .class_ 36), (0, .nameAndType 37 32), (0, u "com/example/units_to_scalars/unitstoscalars/ScalarValues"), (0, u "isScalarValue"), (0, .methodref 24 39), (0, .nameAndType 40 32), (0, u "reference"), (3, u "law"), (0, u "(II)Z")] 2

def k1m0 : Method := { name := "<init>", desc := "()V", sig := { parameters := [], returnType := none }, accessFlags := 2, code := none }
def k1c1 : Code := { maxStack := 2, maxLocals := 1, code := method_2_code, exceptionTable := #[], attributes := #[] }
def k1m1 : Method := { name := "reference", desc := "(I)Z", sig := { parameters := [.int], returnType := some .boolean }, accessFlags := 10, code := some k1c1 }
def k1c2 : Code := { maxStack := 2, maxLocals := 1, code := method_3_code, exceptionTable := #[], attributes := #[] }
def k1m2 : Method := { name := "probe", desc := "(I)I", sig := { parameters := [.int], returnType := some .int }, accessFlags := 10, code := some k1c2 }
def k1c3 : Code := { maxStack := 2, maxLocals := 1, code := method_4_code, exceptionTable := #[], attributes := #[] }
def k1m3 : Method := { name := "expected", desc := "(I)Z", sig := { parameters := [.int], returnType := some .boolean }, accessFlags := 10, code := some k1c3 }
def k1c4 : Code := { maxStack := 2, maxLocals := 7, code := code, exceptionTable := #[], attributes := #[] }
def k1m4 : Method := { name := "law", desc := "(II)Z", sig := { parameters := [.int, .int], returnType := some .boolean }, accessFlags := 9, code := some k1c4 }
/-- com/example/units_to_scalars/unitstoscalars/ScalarValuesIsScalarValuePinLaw -/
def k1 : Class := { plain "com/example/units_to_scalars/unitstoscalars/ScalarValuesIsScalarValuePinLaw" (some 0) with
  accessFlags := 49
  interfaces := #[]
  cf := some (fileOf pool1 24 #[] #[{ accessFlags := 2, nameIndex := 5, descriptorIndex := 6, attributes := #[] }, { accessFlags := 10, nameIndex := 40, descriptorIndex := 32, attributes := #[] }, { accessFlags := 10, nameIndex := 27, descriptorIndex := 28, attributes := #[] }, { accessFlags := 10, nameIndex := 31, descriptorIndex := 32, attributes := #[] }, { accessFlags := 9, nameIndex := 44, descriptorIndex := 45, attributes := #[] }] 49 2 #[] #[])
  fields := #[]
  methods := #[k1m0, k1m1, k1m2, k1m3, k1m4]
  instanceTypes := #[]
  staticTypes := #[]
  resolved := Array.replicate 48 none
  statics := none }

def pool2 : Array CpInfo := pool [(2, .class_ 4), (1, u "java/lang/Object"), (0, u "<init>"), (0, u "()V"), (0, .class_ 8), (0, u "com/example/units_to_scalars/unitstoscalars/ScalarValues"), (0, .integer 55296), (0, .integer 57343), (0, .integer 1114111), (0, u "REPLACEMENT_CHARACTER"), (0, u "I"), (2, u "FIRST_SURROGATE"), (0, u "LAST_SURROGATE"), (0, u "LAST_SCALAR_VALUE"), (2, u "isScalarValue"), (0, u "(I)Z")] 3

def k2m0 : Method := { name := "<init>", desc := "()V", sig := { parameters := [], returnType := none }, accessFlags := 2, code := none }
def k2c1 : Code := { maxStack := 2, maxLocals := 1, code := prog_15_method_2_code, exceptionTable := #[], attributes := #[] }
def k2m1 : Method := { name := "isScalarValue", desc := "(I)Z", sig := { parameters := [.int], returnType := some .boolean }, accessFlags := 9, code := some k2c1 }
/-- com/example/units_to_scalars/unitstoscalars/ScalarValues -/
def k2 : Class := { plain "com/example/units_to_scalars/unitstoscalars/ScalarValues" (some 0) with
  accessFlags := 49
  interfaces := #[]
  cf := some (fileOf pool2 7 #[] #[{ accessFlags := 2, nameIndex := 5, descriptorIndex := 6, attributes := #[] }, { accessFlags := 9, nameIndex := 21, descriptorIndex := 22, attributes := #[] }] 49 2 #[] #[{ accessFlags := 25, nameIndex := 12, descriptorIndex := 13, attributes := #[] }, { accessFlags := 26, nameIndex := 16, descriptorIndex := 13, attributes := #[] }, { accessFlags := 26, nameIndex := 17, descriptorIndex := 13, attributes := #[] }, { accessFlags := 26, nameIndex := 18, descriptorIndex := 13, attributes := #[] }])
  fields := #[{ name := "REPLACEMENT_CHARACTER", type := .int, accessFlags := 25, slot := 0, constantValue := 0 }, { name := "FIRST_SURROGATE", type := .int, accessFlags := 26, slot := 1, constantValue := 0 }, { name := "LAST_SURROGATE", type := .int, accessFlags := 26, slot := 2, constantValue := 0 }, { name := "LAST_SCALAR_VALUE", type := .int, accessFlags := 26, slot := 3, constantValue := 0 }]
  methods := #[k2m0, k2m1]
  instanceTypes := #[]
  staticTypes := #[.int, .int, .int, .int]
  resolved := Array.replicate 26 none
  statics := none }

def pool3 : Array CpInfo := pool [(1, u "java/lang/Cloneable"), (0, .class_ 1), (0, u "java/lang/Object"), (0, .class_ 3)] 3

/-- java/lang/Cloneable -/
def k3 : Class := { plain "java/lang/Cloneable" (some 0) with
  accessFlags := 1537
  interfaces := #[]
  cf := some (fileOf pool3 2 #[] #[] 1537 4 #[] #[])
  fields := #[]
  methods := #[]
  instanceTypes := #[]
  staticTypes := #[]
  resolved := Array.replicate 8 none
  statics := none }

def pool4 : Array CpInfo := pool [(1, u "java/io/Serializable"), (0, .class_ 1), (0, u "java/lang/Object"), (0, .class_ 3)] 3

/-- java/io/Serializable -/
def k4 : Class := { plain "java/io/Serializable" (some 0) with
  accessFlags := 1537
  interfaces := #[]
  cf := some (fileOf pool4 2 #[] #[] 1537 4 #[] #[])
  fields := #[]
  methods := #[]
  instanceTypes := #[]
  staticTypes := #[]
  resolved := Array.replicate 8 none
  statics := none }

/-- the primitive byte -/
def k5 : Class := { plain "byte" none with kind := .primitive 'B', accessFlags := 0x411 }
/-- [B -/
def k6 : Class := { plain "[B" (some 0) with kind := .array 5 .byte, interfaces := #[3, 4], accessFlags := 1041 }

/-- the primitive int -/
def k7 : Class := { plain "int" none with kind := .primitive 'I', accessFlags := 0x411 }
/-- [I -/
def k8 : Class := { plain "[I" (some 0) with kind := .array 7 .int, interfaces := #[3, 4], accessFlags := 1041 }

def heap : Heap := #[]
def classes : Array Class := #[k0, k1, k2, k3, k4, k5, k6, k7, k8]
def interned : List (Array UInt16 × Addr) := []
def slotsUsed : Nat := 0
def theMethod : MethodId := ⟨1, 4⟩
def args0 : Array Value := #[.int 5, .int 5]
def aboutOver (below : List Frame) : State where
  vm := { classes := classes, interned := interned.toArray }
  heap := heap
  slotsUsed := slotsUsed
  threads := #[{ frames := .invoking theMethod args0 :: below }]
def below0 : List Frame := [.native { method := ⟨0, 0⟩, args := #[] }]
def about1 : State := aboutOver below0
def p0 : Program := .bare "" "" ""
def e0 : Env := launch0.env 0 0 0
theorem w_frames : about1.frames = Frame.invoking theMethod args0 :: below0 := rfl
set_option maxRecDepth 65536 in
theorem w_args : argsFit about1.vm theMethod args0 = true := by decide +kernel
set_option maxRecDepth 65536 in
theorem w_heap : heapFits about1 = true := by decide +kernel
set_option maxRecDepth 65536 in
theorem w_runnable : about1.curStatus? = some .runnable := by decide +kernel
set_option maxRecDepth 65536 in
theorem w_alone : about1.alone = true := by decide +kernel
set_option maxRecDepth 65536 in
theorem w_named : about1.methodNamed? x = some theMethod := by decide +kernel
set_option maxRecDepth 65536 in
theorem w_hears : about1.hears theMethod below0 = true := by decide +kernel
set_option maxRecDepth 65536 in
theorem w_ripe : about1.ripe theMethod args0 below0 = true := by decide +kernel
theorem w_running : about1.status = .running := rfl
set_option maxRecDepth 65536 in
theorem w_room : about1.hasRoom e0.platform room_1 = true :=
  launch0.hasRoom_least _ room_1 (by decide +kernel) (by decide +kernel) (by decide +kernel) (by decide +kernel) (by decide +kernel) (by decide +kernel)
theorem allAtoms_all (ts : List Jvm.Cond) (a : Array Jvm.Value) (st : Jvm.State) : (allAtoms ts).before a st = ts.all (fun c => c.before a st) := by
  induction ts with
  | nil => rfl
  | cons c t ih =>
    show (Jvm.Cond.and c (allAtoms t)).before a st = _
    rw [Jvm.Cond.before_and, ih, List.all_cons]
def words1 : List Jvm.Cond := Jvm.Cond.code x code maxLocals ret :: tables_1
/-- a 'code' word, met by the world's own term for the bytes: nothing is compared byte by byte -/
theorem code_word {y : MethodName} {bytes : ByteArray} {mx : Nat} {rt : Option FieldType} {a : Array Value} {s : State} {m : MethodId} {meth : Method} {c : Code} (h1 : s.methodNamed? y = some m) (h2 : s.vm.method? m = some meth) (h3 : meth.code = some c) (h4 : c.code = bytes)
    (h5 : (c.maxLocals == mx && c.exceptionTable.isEmpty && decide (c.maxStack ≤ mostOperands) && decide (meth.sig.returnType = rt) && !meth.locks && decide (parseMethodDescriptor y.desc = some meth.sig)) = true) : (Jvm.Cond.code y bytes mx rt).before a s = true := by
  simp only [Bool.and_eq_true, beq_iff_eq, Bool.not_eq_true', decide_eq_true_eq] at h5
  obtain ⟨⟨⟨⟨⟨g1, g2⟩, g3⟩, g4⟩, g5⟩, g6⟩ := h5
  simp [Cond.before, Cond.holds, Cond.value, h1, h2, h3, h4, g1, g2, g3, g4, g5, g6]
def isCode : Jvm.Cond → Bool
  | .code _ _ _ _ => true
  | _ => false
theorem all_split {L : List Jvm.Cond} {P : Jvm.Cond → Bool} (h1 : L.all (fun c => isCode c || P c) = true) (h2 : ∀ c ∈ L.filter isCode, P c = true) : L.all P = true := by
  refine List.all_eq_true.mpr fun c hc => ?_
  have h := List.all_eq_true.mp h1 c hc
  rcases Bool.eq_false_or_eq_true (isCode c) with hi | hi
  · exact h2 c (List.mem_filter.mpr ⟨hc, hi⟩)
  · simpa [hi] using h
set_option maxRecDepth 65536 in
theorem w_c0 : (Jvm.Cond.code x code maxLocals ret).before args0 about1 = true := code_word (m := ⟨1, 4⟩) (meth := k1m4) (c := k1c4) (by decide +kernel) rfl rfl rfl (by decide +kernel)
set_option maxRecDepth 65536 in
theorem w_c1 : (Jvm.Cond.code ({ cls := "com/example/units_to_scalars/unitstoscalars/ScalarValuesIsScalarValuePinLaw", name := "probe", desc := "(I)I" } : Jvm.MethodName) method_3_code (1 : Nat) (Option.some Jvm.ClassFile.FieldType.int)).before args0 about1 = true := code_word (m := ⟨1, 2⟩) (meth := k1m2) (c := k1c2) (by decide +kernel) rfl rfl rfl (by decide +kernel)
set_option maxRecDepth 65536 in
theorem w_c2 : (Jvm.Cond.code ({ cls := "com/example/units_to_scalars/unitstoscalars/ScalarValuesIsScalarValuePinLaw", name := "expected", desc := "(I)Z" } : Jvm.MethodName) method_4_code (1 : Nat) (Option.some Jvm.ClassFile.FieldType.boolean)).before args0 about1 = true := code_word (m := ⟨1, 3⟩) (meth := k1m3) (c := k1c3) (by decide +kernel) rfl rfl rfl (by decide +kernel)
set_option maxRecDepth 65536 in
theorem w_c3 : (Jvm.Cond.code ({ cls := "com/example/units_to_scalars/unitstoscalars/ScalarValues", name := "isScalarValue", desc := "(I)Z" } : Jvm.MethodName) prog_15_method_2_code (1 : Nat) (Option.some Jvm.ClassFile.FieldType.boolean)).before args0 about1 = true := code_word (m := ⟨2, 1⟩) (meth := k2m1) (c := k2c1) (by decide +kernel) rfl rfl rfl (by decide +kernel)
set_option maxRecDepth 65536 in
theorem w_c4 : (Jvm.Cond.code ({ cls := "com/example/units_to_scalars/unitstoscalars/ScalarValuesIsScalarValuePinLaw", name := "reference", desc := "(I)Z" } : Jvm.MethodName) method_2_code (1 : Nat) (Option.some Jvm.ClassFile.FieldType.boolean)).before args0 about1 = true := code_word (m := ⟨1, 1⟩) (meth := k1m1) (c := k1c1) (by decide +kernel) rfl rfl rfl (by decide +kernel)
def codes1 : List Jvm.Cond := [Jvm.Cond.code x code maxLocals ret, Jvm.Cond.code ({ cls := "com/example/units_to_scalars/unitstoscalars/ScalarValuesIsScalarValuePinLaw", name := "probe", desc := "(I)I" } : Jvm.MethodName) method_3_code (1 : Nat) (Option.some Jvm.ClassFile.FieldType.int), Jvm.Cond.code ({ cls := "com/example/units_to_scalars/unitstoscalars/ScalarValuesIsScalarValuePinLaw", name := "expected", desc := "(I)Z" } : Jvm.MethodName) method_4_code (1 : Nat) (Option.some Jvm.ClassFile.FieldType.boolean), Jvm.Cond.code ({ cls := "com/example/units_to_scalars/unitstoscalars/ScalarValues", name := "isScalarValue", desc := "(I)Z" } : Jvm.MethodName) prog_15_method_2_code (1 : Nat) (Option.some Jvm.ClassFile.FieldType.boolean), Jvm.Cond.code ({ cls := "com/example/units_to_scalars/unitstoscalars/ScalarValuesIsScalarValuePinLaw", name := "reference", desc := "(I)Z" } : Jvm.MethodName) method_2_code (1 : Nat) (Option.some Jvm.ClassFile.FieldType.boolean)]
set_option maxRecDepth 65536 in
theorem codes_eq : words1.filter isCode = codes1 := rfl
theorem w_codes : ∀ c ∈ words1.filter isCode, c.before args0 about1 = true := by
  rw [codes_eq]
  intro c hc
  simp only [codes1, List.mem_cons, List.not_mem_nil, or_false] at hc
  rcases hc with rfl | rfl | rfl | rfl | rfl
  · exact w_c0
  · exact w_c1
  · exact w_c2
  · exact w_c3
  · exact w_c4
set_option maxRecDepth 65536 in
theorem w_t1 : (words1.take 24).all (fun c => isCode c || c.before args0 about1) = true := by decide +kernel
set_option maxRecDepth 65536 in
theorem w_t2 : (words1.drop 24).all (fun c => isCode c || c.before args0 about1) = true := by decide +kernel
theorem w_tables : (allAtoms (Jvm.Cond.code x code maxLocals ret :: tables_1)).before args0 about1 = true := by
  rw [allAtoms_all]
  show words1.all (fun c => c.before args0 about1) = true
  refine all_split ?_ w_codes
  rw [← List.take_append_drop 24 words1, List.all_append, w_t1, w_t2]
  rfl
set_option maxRecDepth 65536 in
theorem w_case : (Jvm.Cond.and given_1 narrow_1).before args0 about1 = true := by decide +kernel
theorem w_applies : (headSpec (Jvm.Cond.code x code maxLocals ret :: tables_1) room_1).applies x e0.platform about1 = true :=
  (Spec.applies_iff w_frames).mpr ⟨w_running, w_runnable, w_alone, w_named, w_hears, w_ripe, w_room, w_tables⟩
theorem atStart : AtStart classFile x code maxLocals ret World_1 tables_1 room_1 Calls_1 rest_1 Pre_1 launch0 p0 e0 about1 theMethod args0 below0 :=
  ⟨lists_1, trivial, launch0.admits_env _ _ _, launch0.least_env, fairChoices_fair.cas, fairChoices_fair.clock, w_frames, w_args, w_heap, w_applies, trivial, trivial, w_case⟩
end start1
theorem witness_1 : WitnessClaimed_1 := ⟨start1.p0, start1.e0, start1.about1, start1.theMethod, start1.args0, start1.below0, start1.atStart⟩
end Jvm.Pilot.@@N@@
