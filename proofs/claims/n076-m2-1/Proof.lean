import JvmDerived
import JvmDerived.Pilot.@@N@@Statement
import JvmDerived.Pilot.@@N@@Code
set_option linter.unusedVariables false
set_option linter.unusedSimpArgs false
namespace Jvm.OwnKit
open Sem ClassFile Op Lib Jvm.Stand Jvm.Free Jvm.LawKit Jvm.RoadKit
section Own
variable {p : Program} {l : Launch} {e : Env} {R : Room} {s : State} {m : MethodId} {args : Array Value} {below : List Frame} {meth : Method} {c : Code} {T T' : State} {locs : List Loc} {cells slots : Nat}
/-- from the state T with the frame F on top the run comes to the method's end, and what Q says holds there -/
def OwnG (p : Program) (e : Env) (below : List Frame) (s : State) (Q : Option Value → Heap → List Loc → Prop) (k n : Nat) (T : State) (F : JFrame) : Prop :=
  ∃ s₂ o, Steps p.tables e below (T.setTop F) s₂ ∧ s₂.status = .running ∧ Ended s₂ below o ∧ ∃ v L, o = .returned v ∧ Q v s₂.heap L ∧ FrameEnd s o s₂ L k n
theorem OwnG.st {Q : Option Value → Heap → List Loc → Prop} {k n : Nat} {F F' : JFrame} (h : ∀ t, Steps p.tables e below (T'.setTop F') t → Steps p.tables e below (T.setTop F) t) (g : OwnG p e below s Q k n T' F') : OwnG p e below s Q k n T F := by
  obtain ⟨s2, o, h1, r⟩ := g
  exact ⟨s2, o, h _ h1, r⟩
theorem OwnG.leave (X : Stand p l e R s m args below meth c T locs cells slots) {Q : Option Value → Heap → List Loc → Prop} {k n : Nat} {F : JFrame} {v : Option Value} (hv : meth.sig.returnType = none → v = none) (hlk : meth.locks = false)
    (hs : ∀ fs, (∀ (f : JFrame) (acts : List Action), f.method = m → f.locked = none → f.entered = [] → (doReturn e (T.setTop f) acts v).1 = T.setFrames fs) → Steps p.tables e below (T.setTop F) (T.setFrames fs)) (hq : Q v T.heap locs) (hk : cells ≤ k) (hn : slots ≤ n) : OwnG p e below s Q k n T F := by
  obtain ⟨fs, hr, hrun, hended, hW, hsame⟩ := X.leave hv hlk
  exact ⟨_, _, hs fs hr, hrun, hended, _, _, rfl, hq, ⟨_, rfl⟩, hW, hsame.mono hk hn⟩
theorem OwnG.retI (X : Stand p l e R s m args below meth c T locs cells slots) (hx : p.tables.exec = Jvm.exec) {Q : Option Value → Heap → List Loc → Prop} {k n pc : Nat} {Ls : Array Slot} {z : Int32} {rest : List Value} (hret : meth.sig.returnType = some .int) (hlk : meth.locks = false) (hd : decode c.code pc = .ok (.ireturn, 1)) (hq : Q (some (.int z)) T.heap locs) (hk : cells ≤ k) (hn : slots ≤ n) : OwnG p e below s Q k n T (mkF m pc Ls (.int z :: rest)) :=
  OwnG.leave X (fun h => by rw [hret] at h; cases h) hlk (fun fs hr => retOut X hx hret rfl (Or.inl ⟨rfl, Or.inl rfl, z, rfl⟩) hd hr) hq hk hn
theorem OwnG.retJ (X : Stand p l e R s m args below meth c T locs cells slots) (hx : p.tables.exec = Jvm.exec) {Q : Option Value → Heap → List Loc → Prop} {k n pc : Nat} {Ls : Array Slot} {z : Int64} {rest : List Value} (hret : meth.sig.returnType = some .long) (hlk : meth.locks = false) (hd : decode c.code pc = .ok (.lreturn, 1)) (hq : Q (some (.long z)) T.heap locs) (hk : cells ≤ k) (hn : slots ≤ n) : OwnG p e below s Q k n T (mkF m pc Ls (.long z :: rest)) :=
  OwnG.leave X (fun h => by rw [hret] at h; cases h) hlk (fun fs hr => retOut X hx hret rfl (Or.inr (Or.inl ⟨rfl, rfl, z, rfl⟩)) hd hr) hq hk hn
theorem OwnG.retR (X : Stand p l e R s m args below meth c T locs cells slots) (hx : p.tables.exec = Jvm.exec) {Q : Option Value → Heap → List Loc → Prop} {k n pc : Nat} {Ls : Array Slot} {a : Addr} {rest : List Value} {t : FieldType} (hret : meth.sig.returnType = some t) (ht : t.isReference = true) (hnn : narrow t (.ref a) = .ref a) (hlk : meth.locks = false) (hd : decode c.code pc = .ok (.areturn, 1)) (hq : Q (some (.ref a)) T.heap locs) (hk : cells ≤ k) (hn : slots ≤ n) : OwnG p e below s Q k n T (mkF m pc Ls (.ref a :: rest)) :=
  OwnG.leave X (fun h => by rw [hret] at h; cases h) hlk (fun fs hr => retOut X hx hret hnn (Or.inr (Or.inr (Or.inr (Or.inr ⟨rfl, ht, rfl⟩)))) hd hr) hq hk hn
theorem OwnG.retN (X : Stand p l e R s m args below meth c T locs cells slots) (hx : p.tables.exec = Jvm.exec) {Q : Option Value → Heap → List Loc → Prop} {k n pc : Nat} {Ls : Array Slot} {z : Int32} {rest : List Value} {t : FieldType} (ht : t = .boolean ∨ t = .byte ∨ t = .char ∨ t = .short) (hret : meth.sig.returnType = some t) (hlk : meth.locks = false) (hd : decode c.code pc = .ok (.ireturn, 1)) (hq : Q (some (.int (nar t z))) T.heap locs) (hk : cells ≤ k) (hn : slots ≤ n) : OwnG p e below s Q k n T (mkF m pc Ls (.int z :: rest)) :=
  OwnG.leave X (fun h => by rw [hret] at h; cases h) hlk (fun fs hr => Jvm.RoadKit.retN X hx hret ht hd hr) hq hk hn
theorem OwnG.retV (X : Stand p l e R s m args below meth c T locs cells slots) (hx : p.tables.exec = Jvm.exec) {Q : Option Value → Heap → List Loc → Prop} {k n pc : Nat} {Ls : Array Slot} (hret : meth.sig.returnType = none) (hlk : meth.locks = false) (hd : decode c.code pc = .ok (.return_, 1)) (hq : Q none T.heap locs) (hk : cells ≤ k) (hn : slots ≤ n) : OwnG p e below s Q k n T (mkF m pc Ls []) :=
  OwnG.leave X (fun _ => rfl) hlk (fun fs hr => X.returnOut hx hret hd hr) hq hk hn
end Own
end Jvm.OwnKit
namespace Jvm.OwnKit
open Jvm.RoadKit
theorem own_split {w : Nat} (x m : BitVec w) : (x &&& ~~~m) + (x &&& m) = x := by
  rw [BitVec.add_eq_or_of_and_eq_zero]
  · ext i hi
    simp only [BitVec.getElem_or, BitVec.getElem_and, BitVec.getElem_not]
    cases x[i] <;> cases m[i] <;> rfl
  · ext i hi
    simp only [BitVec.getElem_and, BitVec.getElem_not, BitVec.getElem_zero]
    cases x[i] <;> cases m[i] <;> rfl
theorem own_hi (x m m' : Int32) (h : m' = ~~~m) : (x &&& m') + (x &&& m) = x := by
  subst h
  exact Int32.toBitVec_inj.mp (own_split x.toBitVec m.toBitVec)
theorem own_irem (x y : Int32) : x - (x / y) * y = x % y := by
  apply Int32.toInt_inj.mp
  have h1 := rng32 (x % y)
  have e := Int.mul_tdiv_add_tmod x.toInt y.toInt
  rw [Int32.toInt_mod] at h1 ⊢
  rw [Int32.toInt_sub, Int32.toInt_mul, Int32.toInt_div, Int.bmod_mul_bmod, Int.sub_bmod_bmod]
  rw [show x.toInt - x.toInt.tdiv y.toInt * y.toInt = x.toInt.tmod y.toInt by rw [Int.mul_comm]; omega]
  exact Int.bmod_eq_of_le_mul_two (by omega) (by omega)
end Jvm.OwnKit
namespace Jvm.Pilot.@@N@@
open Jvm Jvm.ClassFile Sem Op Lib Jvm.Free Jvm.Stand Jvm.LawKit Jvm.RoadKit Bundle Jvm.Pilot.@@N@@.Jvm.D Jvm.OwnKit
def F1 (p1 : Int32) : Int32 := (if p1 < (55296 : Int32) then (0 : Int32) else (if p1 < (56320 : Int32) then (1 : Int32) else (0 : Int32)))
theorem d1_0 : decode prog_17_method_4_code 0 = .ok (.iload_n 0, 1) := by decide +kernel
theorem d1_1 : decode prog_17_method_4_code 1 = .ok (.ldc 10, 2) := by decide +kernel
theorem d1_3 : decode prog_17_method_4_code 3 = .ok (.if_icmp .lt 13, 3) := by decide +kernel
theorem d1_6 : decode prog_17_method_4_code 6 = .ok (.iload_n 0, 1) := by decide +kernel
theorem d1_7 : decode prog_17_method_4_code 7 = .ok (.ldc 12, 2) := by decide +kernel
theorem d1_9 : decode prog_17_method_4_code 9 = .ok (.if_icmp .ge 7, 3) := by decide +kernel
theorem d1_12 : decode prog_17_method_4_code 12 = .ok (.iconst 1, 1) := by decide +kernel
theorem d1_13 : decode prog_17_method_4_code 13 = .ok (.goto 4, 3) := by decide +kernel
theorem d1_16 : decode prog_17_method_4_code 16 = .ok (.iconst 0, 1) := by decide +kernel
theorem d1_17 : decode prog_17_method_4_code 17 = .ok (.ireturn, 1) := by decide +kernel
theorem pn_1 : plainName "com/example/units_to_scalars/unitstoscalars/Utf16" = true := by first | (simp [plainName, overriddenIn]; done) | decide +kernel
theorem ef_1 (m : MethodId) (p1 : Int32) : entryFrame m #[(.int p1)] 1 = mkF m 0 #[.val (.int p1)] [] := by first | (simp [entryFrame, mkF, argsToLocals, Value.category]; done) | rfl
def Q1 (Z : State) (p1 : Int32) (h0 : Heap) (n0 : Nat) (v : Option Value) (h : Heap) (L : List Loc) : Prop := v = some (.int (F1 p1)) ∧ Fr n0 L ∧ h = h0
set_option maxRecDepth 65536 in
set_option maxHeartbeats 40000000 in
theorem rm1 (l : Launch) (Z : State) (a0 : Array Value) (hw : ∀ d ∈ tables_1, d.before a0 Z = true) (ws : List Jvm.Cond) (p1 : Int32)  (h0 : Heap) (n0 : Nat) (Z0 : n0 ≤ h0.size)  :
    MetFree l (⟨"com/example/units_to_scalars/unitstoscalars/Utf16", "isHighSurrogate", "(I)Z"⟩ : MethodName) (head1 (Jvm.Cond.code (⟨"com/example/units_to_scalars/unitstoscalars/Utf16", "isHighSurrogate", "(I)Z"⟩ : MethodName) prog_17_method_4_code 1 (some .boolean) :: ws) ({ frames := 0, cells := 0, slots := 0, locals := 0 } : Room)) (fun a U => a = #[(.int p1)] ∧ Z.Warmed39 U.vm ∧ U.heap = h0) (fun _ _ _ _ _ => True) (fun _ U o U' => ∃ v L, o = .returned v ∧ Q1 Z p1 h0 n0 v U'.heap L ∧ FrameEnd U o U' L ({ frames := 0, cells := 0, slots := 0, locals := 0 } : Room).cells ({ frames := 0, cells := 0, slots := 0, locals := 0 } : Room).slots) := by
  refine MetFree.of_bodySF (plainFor_of_name pn_1) hisR ?_
  intro p e s m args below meth c s₁ Bd hml0 hP hK
  obtain ⟨rfl, hZ, hh⟩ := hP
  have hx := Bd.exec
  have hby := Bd.bytes
  have hml : c.maxLocals = 1 := hml0
  have hown : s.vm.findClass "com/example/units_to_scalars/unitstoscalars/Utf16" = some m.cls := findClass_of_methodNamed Bd.named
  have hnm := (name_of_methodNamed Bd.named Bd.method).1
  have X0 : Stand p l e ({ frames := 0, cells := 0, slots := 0, locals := 0 } : Room) s m #[(.int p1)] below meth c s₁ [] 0 0 := Stand.of_body Bd
  have e0 : s₁.heap = h0 := by rw [← hh, Bd.state]; rfl
  have N0 := Fr.nil n0
  suffices hG : OwnG p e below s (Q1 Z p1 h0 n0) ({ frames := 0, cells := 0, slots := 0, locals := 0 } : Room).cells ({ frames := 0, cells := 0, slots := 0, locals := 0 } : Room).slots s₁ (mkF m 0 #[.val (.int p1)] []) by
    obtain ⟨s2, o2, g1, g2⟩ := hG
    exact ⟨s2, o2, castTop (ef_1 m p1) g1, g2⟩
  have sg1 : ∀ t, Steps p.tables e below (s₁.setTop (mkF m 3 #[.val (.int p1)] [(.int (55296 : Int32)), (.int p1)])) t → Steps p.tables e below (s₁.setTop (mkF m 0 #[.val (.int p1)] [])) t := by
    intro t k
    refine XS.iloadN X0.here hx rfl (hb hby d1_0) rfl ?_
    show Steps p.tables e below (s₁.setTop (mkF m 1 #[.val (.int p1)] [(.int p1)])) _
    refine X0.ldcInt hx hown (mvT hZ (hw _ (List.mem_of_getElem? (i := 7) rfl))) (g := (mkF m 1 #[.val (.int p1)] [(.int p1)])) rfl (hb hby d1_1) _ ?_
    show Steps p.tables e below (s₁.setTop (mkF m 3 #[.val (.int p1)] [(.int (55296 : Int32)), (.int p1)])) _
    exact k
  refine OwnG.st sg1 ?_
  by_cases hc3_2 : p1 < (55296 : Int32)
  · have sg3 : ∀ t, Steps p.tables e below (s₁.setTop (mkF m 17 #[.val (.int p1)] [(.int (0 : Int32))])) t → Steps p.tables e below (s₁.setTop (mkF m 3 #[.val (.int p1)] [(.int (55296 : Int32)), (.int p1)])) t := by
      intro t k
      refine XS.icmpYes X0.here hx rfl (pc0 := 3) (pc' := 16) rfl (hb hby d1_3) rfl (tlt hc3_2).1 (by decide) (by decide) ?_
      show Steps p.tables e below (s₁.setTop (mkF m 16 #[.val (.int p1)] [])) _
      refine XS.iconst X0.here hx rfl (hb hby d1_16) ?_
      show Steps p.tables e below (s₁.setTop (mkF m 17 #[.val (.int p1)] [(.int (0 : Int32))])) _
      exact k
    refine OwnG.st sg3 ?_
    have hv : (0 : Int32) = F1 p1 := by simp only [F1, if_pos hc3_2]
    exact OwnG.retN X0 hx (t := .boolean) (by simp) Bd.returns (BodyLoose.notSynchronized Bd) (hb hby d1_17) ⟨congrArg (fun w => some (Value.int w)) ((show nar .boolean (0 : Int32) = (0 : Int32) from rfl).trans hv), N0, e0⟩ (by decide) (by decide)
  · have sg4 : ∀ t, Steps p.tables e below (s₁.setTop (mkF m 9 #[.val (.int p1)] [(.int (56320 : Int32)), (.int p1)])) t → Steps p.tables e below (s₁.setTop (mkF m 3 #[.val (.int p1)] [(.int (55296 : Int32)), (.int p1)])) t := by
      intro t k
      refine XS.icmpNo X0.here hx rfl (hb hby d1_3) rfl (flt hc3_2).1 ?_
      show Steps p.tables e below (s₁.setTop (mkF m 6 #[.val (.int p1)] [])) _
      refine XS.iloadN X0.here hx rfl (hb hby d1_6) rfl ?_
      show Steps p.tables e below (s₁.setTop (mkF m 7 #[.val (.int p1)] [(.int p1)])) _
      refine X0.ldcInt hx hown (mvT hZ (hw _ (List.mem_of_getElem? (i := 17) rfl))) (g := (mkF m 7 #[.val (.int p1)] [(.int p1)])) rfl (hb hby d1_7) _ ?_
      show Steps p.tables e below (s₁.setTop (mkF m 9 #[.val (.int p1)] [(.int (56320 : Int32)), (.int p1)])) _
      exact k
    refine OwnG.st sg4 ?_
    by_cases hc9_5 : p1 < (56320 : Int32)
    · have sg6 : ∀ t, Steps p.tables e below (s₁.setTop (mkF m 17 #[.val (.int p1)] [(.int (1 : Int32))])) t → Steps p.tables e below (s₁.setTop (mkF m 9 #[.val (.int p1)] [(.int (56320 : Int32)), (.int p1)])) t := by
        intro t k
        refine XS.icmpNo X0.here hx rfl (hb hby d1_9) rfl (tlt hc9_5).2.1 ?_
        show Steps p.tables e below (s₁.setTop (mkF m 12 #[.val (.int p1)] [])) _
        refine XS.iconst X0.here hx rfl (hb hby d1_12) ?_
        show Steps p.tables e below (s₁.setTop (mkF m 13 #[.val (.int p1)] [(.int (1 : Int32))])) _
        refine XS.goto X0.here hx rfl (pc0 := 13) (pc' := 17) rfl (hb hby d1_13) (by decide) (by decide) ?_
        show Steps p.tables e below (s₁.setTop (mkF m 17 #[.val (.int p1)] [(.int (1 : Int32))])) _
        exact k
      refine OwnG.st sg6 ?_
      have hv : (1 : Int32) = F1 p1 := by simp only [F1, if_neg hc3_2, if_pos hc9_5]
      exact OwnG.retN X0 hx (t := .boolean) (by simp) Bd.returns (BodyLoose.notSynchronized Bd) (hb hby d1_17) ⟨congrArg (fun w => some (Value.int w)) ((show nar .boolean (1 : Int32) = (1 : Int32) from rfl).trans hv), N0, e0⟩ (by decide) (by decide)
    · have sg7 : ∀ t, Steps p.tables e below (s₁.setTop (mkF m 17 #[.val (.int p1)] [(.int (0 : Int32))])) t → Steps p.tables e below (s₁.setTop (mkF m 9 #[.val (.int p1)] [(.int (56320 : Int32)), (.int p1)])) t := by
        intro t k
        refine XS.icmpYes X0.here hx rfl (pc0 := 9) (pc' := 16) rfl (hb hby d1_9) rfl (flt hc9_5).2.1 (by decide) (by decide) ?_
        show Steps p.tables e below (s₁.setTop (mkF m 16 #[.val (.int p1)] [])) _
        refine XS.iconst X0.here hx rfl (hb hby d1_16) ?_
        show Steps p.tables e below (s₁.setTop (mkF m 17 #[.val (.int p1)] [(.int (0 : Int32))])) _
        exact k
      refine OwnG.st sg7 ?_
      have hv : (0 : Int32) = F1 p1 := by simp only [F1, if_neg hc3_2, if_neg hc9_5]
      exact OwnG.retN X0 hx (t := .boolean) (by simp) Bd.returns (BodyLoose.notSynchronized Bd) (hb hby d1_17) ⟨congrArg (fun w => some (Value.int w)) ((show nar .boolean (0 : Int32) = (0 : Int32) from rfl).trans hv), N0, e0⟩ (by decide) (by decide)
def F2 (p1 : Int32) : Int32 := (if (p1 &&& (-1024 : Int32)) = (55296 : Int32) then (1 : Int32) else (0 : Int32))
theorem d2_0 : decode method_2_code 0 = .ok (.iload_n 0, 1) := by decide +kernel
theorem d2_1 : decode method_2_code 1 = .ok (.sipush (-1024), 3) := by decide +kernel
theorem d2_4 : decode method_2_code 4 = .ok (.iand, 1) := by decide +kernel
theorem d2_5 : decode method_2_code 5 = .ok (.ldc 7, 2) := by decide +kernel
theorem d2_7 : decode method_2_code 7 = .ok (.if_icmp .ne 7, 3) := by decide +kernel
theorem d2_10 : decode method_2_code 10 = .ok (.iconst 1, 1) := by decide +kernel
theorem d2_11 : decode method_2_code 11 = .ok (.goto 4, 3) := by decide +kernel
theorem d2_14 : decode method_2_code 14 = .ok (.iconst 0, 1) := by decide +kernel
theorem d2_15 : decode method_2_code 15 = .ok (.ireturn, 1) := by decide +kernel
theorem pn_2 : plainName "com/example/units_to_scalars/unitstoscalars/Utf16IsHighSurrogatePinLaw" = true := by first | (simp [plainName, overriddenIn]; done) | decide +kernel
theorem ef_2 (m : MethodId) (p1 : Int32) : entryFrame m #[(.int p1)] 1 = mkF m 0 #[.val (.int p1)] [] := by first | (simp [entryFrame, mkF, argsToLocals, Value.category]; done) | rfl
def Q2 (Z : State) (p1 : Int32) (h0 : Heap) (n0 : Nat) (v : Option Value) (h : Heap) (L : List Loc) : Prop := v = some (.int (F2 p1)) ∧ Fr n0 L ∧ h = h0
set_option maxRecDepth 65536 in
set_option maxHeartbeats 40000000 in
theorem rm2 (l : Launch) (Z : State) (a0 : Array Value) (hw : ∀ d ∈ tables_1, d.before a0 Z = true) (ws : List Jvm.Cond) (p1 : Int32)  (h0 : Heap) (n0 : Nat) (Z0 : n0 ≤ h0.size)  :
    MetFree l (⟨"com/example/units_to_scalars/unitstoscalars/Utf16IsHighSurrogatePinLaw", "ref", "(I)Z"⟩ : MethodName) (head1 (Jvm.Cond.code (⟨"com/example/units_to_scalars/unitstoscalars/Utf16IsHighSurrogatePinLaw", "ref", "(I)Z"⟩ : MethodName) method_2_code 1 (some .boolean) :: ws) ({ frames := 0, cells := 0, slots := 0, locals := 0 } : Room)) (fun a U => a = #[(.int p1)] ∧ Z.Warmed39 U.vm ∧ U.heap = h0) (fun _ _ _ _ _ => True) (fun _ U o U' => ∃ v L, o = .returned v ∧ Q2 Z p1 h0 n0 v U'.heap L ∧ FrameEnd U o U' L ({ frames := 0, cells := 0, slots := 0, locals := 0 } : Room).cells ({ frames := 0, cells := 0, slots := 0, locals := 0 } : Room).slots) := by
  refine MetFree.of_bodySF (plainFor_of_name pn_2) hisR ?_
  intro p e s m args below meth c s₁ Bd hml0 hP hK
  obtain ⟨rfl, hZ, hh⟩ := hP
  have hx := Bd.exec
  have hby := Bd.bytes
  have hml : c.maxLocals = 1 := hml0
  have hown : s.vm.findClass "com/example/units_to_scalars/unitstoscalars/Utf16IsHighSurrogatePinLaw" = some m.cls := findClass_of_methodNamed Bd.named
  have hnm := (name_of_methodNamed Bd.named Bd.method).1
  have X0 : Stand p l e ({ frames := 0, cells := 0, slots := 0, locals := 0 } : Room) s m #[(.int p1)] below meth c s₁ [] 0 0 := Stand.of_body Bd
  have e0 : s₁.heap = h0 := by rw [← hh, Bd.state]; rfl
  have N0 := Fr.nil n0
  suffices hG : OwnG p e below s (Q2 Z p1 h0 n0) ({ frames := 0, cells := 0, slots := 0, locals := 0 } : Room).cells ({ frames := 0, cells := 0, slots := 0, locals := 0 } : Room).slots s₁ (mkF m 0 #[.val (.int p1)] []) by
    obtain ⟨s2, o2, g1, g2⟩ := hG
    exact ⟨s2, o2, castTop (ef_2 m p1) g1, g2⟩
  have sg1 : ∀ t, Steps p.tables e below (s₁.setTop (mkF m 7 #[.val (.int p1)] [(.int (55296 : Int32)), (.int (p1 &&& (-1024 : Int32)))])) t → Steps p.tables e below (s₁.setTop (mkF m 0 #[.val (.int p1)] [])) t := by
    intro t k
    refine XS.iloadN X0.here hx rfl (hb hby d2_0) rfl ?_
    show Steps p.tables e below (s₁.setTop (mkF m 1 #[.val (.int p1)] [(.int p1)])) _
    refine XS.sipush X0.here hx rfl (hb hby d2_1) ?_
    show Steps p.tables e below (s₁.setTop (mkF m 4 #[.val (.int p1)] [(.int (-1024 : Int32)), (.int p1)])) _
    refine XS.iand X0.here hx rfl (hb hby d2_4) rfl ?_
    show Steps p.tables e below (s₁.setTop (mkF m 5 #[.val (.int p1)] [(.int (p1 &&& (-1024 : Int32)))])) _
    refine X0.ldcInt hx hown (mvT hZ (hw _ (List.mem_of_getElem? (i := 12) rfl))) (g := (mkF m 5 #[.val (.int p1)] [(.int (p1 &&& (-1024 : Int32)))])) rfl (hb hby d2_5) _ ?_
    show Steps p.tables e below (s₁.setTop (mkF m 7 #[.val (.int p1)] [(.int (55296 : Int32)), (.int (p1 &&& (-1024 : Int32)))])) _
    exact k
  refine OwnG.st sg1 ?_
  by_cases hc7_2 : (p1 &&& (-1024 : Int32)) = (55296 : Int32)
  · have sg3 : ∀ t, Steps p.tables e below (s₁.setTop (mkF m 15 #[.val (.int p1)] [(.int (1 : Int32))])) t → Steps p.tables e below (s₁.setTop (mkF m 7 #[.val (.int p1)] [(.int (55296 : Int32)), (.int (p1 &&& (-1024 : Int32)))])) t := by
      intro t k
      refine XS.icmpNo X0.here hx rfl (hb hby d2_7) rfl (teq hc7_2).2 ?_
      show Steps p.tables e below (s₁.setTop (mkF m 10 #[.val (.int p1)] [])) _
      refine XS.iconst X0.here hx rfl (hb hby d2_10) ?_
      show Steps p.tables e below (s₁.setTop (mkF m 11 #[.val (.int p1)] [(.int (1 : Int32))])) _
      refine XS.goto X0.here hx rfl (pc0 := 11) (pc' := 15) rfl (hb hby d2_11) (by decide) (by decide) ?_
      show Steps p.tables e below (s₁.setTop (mkF m 15 #[.val (.int p1)] [(.int (1 : Int32))])) _
      exact k
    refine OwnG.st sg3 ?_
    have hv : (1 : Int32) = F2 p1 := by simp only [F2, if_pos hc7_2]
    exact OwnG.retN X0 hx (t := .boolean) (by simp) Bd.returns (BodyLoose.notSynchronized Bd) (hb hby d2_15) ⟨congrArg (fun w => some (Value.int w)) ((show nar .boolean (1 : Int32) = (1 : Int32) from rfl).trans hv), N0, e0⟩ (by decide) (by decide)
  · have sg4 : ∀ t, Steps p.tables e below (s₁.setTop (mkF m 15 #[.val (.int p1)] [(.int (0 : Int32))])) t → Steps p.tables e below (s₁.setTop (mkF m 7 #[.val (.int p1)] [(.int (55296 : Int32)), (.int (p1 &&& (-1024 : Int32)))])) t := by
      intro t k
      refine XS.icmpYes X0.here hx rfl (pc0 := 7) (pc' := 14) rfl (hb hby d2_7) rfl (feq hc7_2).2 (by decide) (by decide) ?_
      show Steps p.tables e below (s₁.setTop (mkF m 14 #[.val (.int p1)] [])) _
      refine XS.iconst X0.here hx rfl (hb hby d2_14) ?_
      show Steps p.tables e below (s₁.setTop (mkF m 15 #[.val (.int p1)] [(.int (0 : Int32))])) _
      exact k
    refine OwnG.st sg4 ?_
    have hv : (0 : Int32) = F2 p1 := by simp only [F2, if_neg hc7_2]
    exact OwnG.retN X0 hx (t := .boolean) (by simp) Bd.returns (BodyLoose.notSynchronized Bd) (hb hby d2_15) ⟨congrArg (fun w => some (Value.int w)) ((show nar .boolean (0 : Int32) = (0 : Int32) from rfl).trans hv), N0, e0⟩ (by decide) (by decide)
def F3 (p1 : Int32) : Int32 := ((55296 : Int32) ||| ((p1 - (65536 : Int32)) >>> ((10 : Int32) &&& 31)))
theorem d3_0 : decode prog_17_method_7_code 0 = .ok (.ldc 10, 2) := by decide +kernel
theorem d3_2 : decode prog_17_method_7_code 2 = .ok (.iload_n 0, 1) := by decide +kernel
theorem d3_3 : decode prog_17_method_7_code 3 = .ok (.ldc 9, 2) := by decide +kernel
theorem d3_5 : decode prog_17_method_7_code 5 = .ok (.isub, 1) := by decide +kernel
theorem d3_6 : decode prog_17_method_7_code 6 = .ok (.bipush 10, 2) := by decide +kernel
theorem d3_8 : decode prog_17_method_7_code 8 = .ok (.ishr, 1) := by decide +kernel
theorem d3_9 : decode prog_17_method_7_code 9 = .ok (.ior, 1) := by decide +kernel
theorem d3_10 : decode prog_17_method_7_code 10 = .ok (.ireturn, 1) := by decide +kernel
theorem pn_3 : plainName "com/example/units_to_scalars/unitstoscalars/Utf16" = true := by first | (simp [plainName, overriddenIn]; done) | decide +kernel
theorem ef_3 (m : MethodId) (p1 : Int32) : entryFrame m #[(.int p1)] 1 = mkF m 0 #[.val (.int p1)] [] := by first | (simp [entryFrame, mkF, argsToLocals, Value.category]; done) | rfl
def Q3 (Z : State) (p1 : Int32) (h0 : Heap) (n0 : Nat) (v : Option Value) (h : Heap) (L : List Loc) : Prop := v = some (.int (F3 p1)) ∧ Fr n0 L ∧ h = h0
set_option maxRecDepth 65536 in
set_option maxHeartbeats 40000000 in
theorem rm3 (l : Launch) (Z : State) (a0 : Array Value) (hw : ∀ d ∈ tables_1, d.before a0 Z = true) (ws : List Jvm.Cond) (p1 : Int32)  (h0 : Heap) (n0 : Nat) (Z0 : n0 ≤ h0.size)  :
    MetFree l (⟨"com/example/units_to_scalars/unitstoscalars/Utf16", "highSurrogate", "(I)I"⟩ : MethodName) (head1 (Jvm.Cond.code (⟨"com/example/units_to_scalars/unitstoscalars/Utf16", "highSurrogate", "(I)I"⟩ : MethodName) prog_17_method_7_code 1 (some .int) :: ws) ({ frames := 0, cells := 0, slots := 0, locals := 0 } : Room)) (fun a U => a = #[(.int p1)] ∧ Z.Warmed39 U.vm ∧ U.heap = h0) (fun _ _ _ _ _ => True) (fun _ U o U' => ∃ v L, o = .returned v ∧ Q3 Z p1 h0 n0 v U'.heap L ∧ FrameEnd U o U' L ({ frames := 0, cells := 0, slots := 0, locals := 0 } : Room).cells ({ frames := 0, cells := 0, slots := 0, locals := 0 } : Room).slots) := by
  refine MetFree.of_bodySF (plainFor_of_name pn_3) hisR ?_
  intro p e s m args below meth c s₁ Bd hml0 hP hK
  obtain ⟨rfl, hZ, hh⟩ := hP
  have hx := Bd.exec
  have hby := Bd.bytes
  have hml : c.maxLocals = 1 := hml0
  have hown : s.vm.findClass "com/example/units_to_scalars/unitstoscalars/Utf16" = some m.cls := findClass_of_methodNamed Bd.named
  have hnm := (name_of_methodNamed Bd.named Bd.method).1
  have X0 : Stand p l e ({ frames := 0, cells := 0, slots := 0, locals := 0 } : Room) s m #[(.int p1)] below meth c s₁ [] 0 0 := Stand.of_body Bd
  have e0 : s₁.heap = h0 := by rw [← hh, Bd.state]; rfl
  have N0 := Fr.nil n0
  suffices hG : OwnG p e below s (Q3 Z p1 h0 n0) ({ frames := 0, cells := 0, slots := 0, locals := 0 } : Room).cells ({ frames := 0, cells := 0, slots := 0, locals := 0 } : Room).slots s₁ (mkF m 0 #[.val (.int p1)] []) by
    obtain ⟨s2, o2, g1, g2⟩ := hG
    exact ⟨s2, o2, castTop (ef_3 m p1) g1, g2⟩
  have sg1 : ∀ t, Steps p.tables e below (s₁.setTop (mkF m 10 #[.val (.int p1)] [(.int ((55296 : Int32) ||| ((p1 - (65536 : Int32)) >>> ((10 : Int32) &&& 31))))])) t → Steps p.tables e below (s₁.setTop (mkF m 0 #[.val (.int p1)] [])) t := by
    intro t k
    refine X0.ldcInt hx hown (mvT hZ (hw _ (List.mem_of_getElem? (i := 7) rfl))) (g := (mkF m 0 #[.val (.int p1)] [])) rfl (hb hby d3_0) _ ?_
    show Steps p.tables e below (s₁.setTop (mkF m 2 #[.val (.int p1)] [(.int (55296 : Int32))])) _
    refine XS.iloadN X0.here hx rfl (hb hby d3_2) rfl ?_
    show Steps p.tables e below (s₁.setTop (mkF m 3 #[.val (.int p1)] [(.int p1), (.int (55296 : Int32))])) _
    refine X0.ldcInt hx hown (mvT hZ (hw _ (List.mem_of_getElem? (i := 16) rfl))) (g := (mkF m 3 #[.val (.int p1)] [(.int p1), (.int (55296 : Int32))])) rfl (hb hby d3_3) _ ?_
    show Steps p.tables e below (s₁.setTop (mkF m 5 #[.val (.int p1)] [(.int (65536 : Int32)), (.int p1), (.int (55296 : Int32))])) _
    refine XS.isub X0.here hx rfl (hb hby d3_5) rfl ?_
    show Steps p.tables e below (s₁.setTop (mkF m 6 #[.val (.int p1)] [(.int (p1 - (65536 : Int32))), (.int (55296 : Int32))])) _
    refine XS.bipush X0.here hx rfl (hb hby d3_6) ?_
    show Steps p.tables e below (s₁.setTop (mkF m 8 #[.val (.int p1)] [(.int (10 : Int32)), (.int (p1 - (65536 : Int32))), (.int (55296 : Int32))])) _
    refine XS.ishr X0.here hx rfl (hb hby d3_8) rfl ?_
    show Steps p.tables e below (s₁.setTop (mkF m 9 #[.val (.int p1)] [(.int ((p1 - (65536 : Int32)) >>> ((10 : Int32) &&& 31))), (.int (55296 : Int32))])) _
    refine XS.ior X0.here hx rfl (hb hby d3_9) rfl ?_
    show Steps p.tables e below (s₁.setTop (mkF m 10 #[.val (.int p1)] [(.int ((55296 : Int32) ||| ((p1 - (65536 : Int32)) >>> ((10 : Int32) &&& 31))))])) _
    exact k
  refine OwnG.st sg1 ?_
  have hv : ((55296 : Int32) ||| ((p1 - (65536 : Int32)) >>> ((10 : Int32) &&& 31))) = F3 p1 := by simp only [F3]
  exact OwnG.retI X0 hx Bd.returns (BodyLoose.notSynchronized Bd) (hb hby d3_10) ⟨congrArg (fun w => some (Value.int w)) hv, N0, e0⟩ (by decide) (by decide)
def F4 (p1 : Int32) : Int32 := ((56320 : Int32) ||| ((p1 - (65536 : Int32)) &&& (1023 : Int32)))
theorem d4_0 : decode prog_17_method_8_code 0 = .ok (.ldc 12, 2) := by decide +kernel
theorem d4_2 : decode prog_17_method_8_code 2 = .ok (.iload_n 0, 1) := by decide +kernel
theorem d4_3 : decode prog_17_method_8_code 3 = .ok (.ldc 9, 2) := by decide +kernel
theorem d4_5 : decode prog_17_method_8_code 5 = .ok (.isub, 1) := by decide +kernel
theorem d4_6 : decode prog_17_method_8_code 6 = .ok (.sipush 1023, 3) := by decide +kernel
theorem d4_9 : decode prog_17_method_8_code 9 = .ok (.iand, 1) := by decide +kernel
theorem d4_10 : decode prog_17_method_8_code 10 = .ok (.ior, 1) := by decide +kernel
theorem d4_11 : decode prog_17_method_8_code 11 = .ok (.ireturn, 1) := by decide +kernel
theorem pn_4 : plainName "com/example/units_to_scalars/unitstoscalars/Utf16" = true := by first | (simp [plainName, overriddenIn]; done) | decide +kernel
theorem ef_4 (m : MethodId) (p1 : Int32) : entryFrame m #[(.int p1)] 1 = mkF m 0 #[.val (.int p1)] [] := by first | (simp [entryFrame, mkF, argsToLocals, Value.category]; done) | rfl
def Q4 (Z : State) (p1 : Int32) (h0 : Heap) (n0 : Nat) (v : Option Value) (h : Heap) (L : List Loc) : Prop := v = some (.int (F4 p1)) ∧ Fr n0 L ∧ h = h0
set_option maxRecDepth 65536 in
set_option maxHeartbeats 40000000 in
theorem rm4 (l : Launch) (Z : State) (a0 : Array Value) (hw : ∀ d ∈ tables_1, d.before a0 Z = true) (ws : List Jvm.Cond) (p1 : Int32)  (h0 : Heap) (n0 : Nat) (Z0 : n0 ≤ h0.size)  :
    MetFree l (⟨"com/example/units_to_scalars/unitstoscalars/Utf16", "lowSurrogate", "(I)I"⟩ : MethodName) (head1 (Jvm.Cond.code (⟨"com/example/units_to_scalars/unitstoscalars/Utf16", "lowSurrogate", "(I)I"⟩ : MethodName) prog_17_method_8_code 1 (some .int) :: ws) ({ frames := 0, cells := 0, slots := 0, locals := 0 } : Room)) (fun a U => a = #[(.int p1)] ∧ Z.Warmed39 U.vm ∧ U.heap = h0) (fun _ _ _ _ _ => True) (fun _ U o U' => ∃ v L, o = .returned v ∧ Q4 Z p1 h0 n0 v U'.heap L ∧ FrameEnd U o U' L ({ frames := 0, cells := 0, slots := 0, locals := 0 } : Room).cells ({ frames := 0, cells := 0, slots := 0, locals := 0 } : Room).slots) := by
  refine MetFree.of_bodySF (plainFor_of_name pn_4) hisR ?_
  intro p e s m args below meth c s₁ Bd hml0 hP hK
  obtain ⟨rfl, hZ, hh⟩ := hP
  have hx := Bd.exec
  have hby := Bd.bytes
  have hml : c.maxLocals = 1 := hml0
  have hown : s.vm.findClass "com/example/units_to_scalars/unitstoscalars/Utf16" = some m.cls := findClass_of_methodNamed Bd.named
  have hnm := (name_of_methodNamed Bd.named Bd.method).1
  have X0 : Stand p l e ({ frames := 0, cells := 0, slots := 0, locals := 0 } : Room) s m #[(.int p1)] below meth c s₁ [] 0 0 := Stand.of_body Bd
  have e0 : s₁.heap = h0 := by rw [← hh, Bd.state]; rfl
  have N0 := Fr.nil n0
  suffices hG : OwnG p e below s (Q4 Z p1 h0 n0) ({ frames := 0, cells := 0, slots := 0, locals := 0 } : Room).cells ({ frames := 0, cells := 0, slots := 0, locals := 0 } : Room).slots s₁ (mkF m 0 #[.val (.int p1)] []) by
    obtain ⟨s2, o2, g1, g2⟩ := hG
    exact ⟨s2, o2, castTop (ef_4 m p1) g1, g2⟩
  have sg1 : ∀ t, Steps p.tables e below (s₁.setTop (mkF m 11 #[.val (.int p1)] [(.int ((56320 : Int32) ||| ((p1 - (65536 : Int32)) &&& (1023 : Int32))))])) t → Steps p.tables e below (s₁.setTop (mkF m 0 #[.val (.int p1)] [])) t := by
    intro t k
    refine X0.ldcInt hx hown (mvT hZ (hw _ (List.mem_of_getElem? (i := 17) rfl))) (g := (mkF m 0 #[.val (.int p1)] [])) rfl (hb hby d4_0) _ ?_
    show Steps p.tables e below (s₁.setTop (mkF m 2 #[.val (.int p1)] [(.int (56320 : Int32))])) _
    refine XS.iloadN X0.here hx rfl (hb hby d4_2) rfl ?_
    show Steps p.tables e below (s₁.setTop (mkF m 3 #[.val (.int p1)] [(.int p1), (.int (56320 : Int32))])) _
    refine X0.ldcInt hx hown (mvT hZ (hw _ (List.mem_of_getElem? (i := 16) rfl))) (g := (mkF m 3 #[.val (.int p1)] [(.int p1), (.int (56320 : Int32))])) rfl (hb hby d4_3) _ ?_
    show Steps p.tables e below (s₁.setTop (mkF m 5 #[.val (.int p1)] [(.int (65536 : Int32)), (.int p1), (.int (56320 : Int32))])) _
    refine XS.isub X0.here hx rfl (hb hby d4_5) rfl ?_
    show Steps p.tables e below (s₁.setTop (mkF m 6 #[.val (.int p1)] [(.int (p1 - (65536 : Int32))), (.int (56320 : Int32))])) _
    refine XS.sipush X0.here hx rfl (hb hby d4_6) ?_
    show Steps p.tables e below (s₁.setTop (mkF m 9 #[.val (.int p1)] [(.int (1023 : Int32)), (.int (p1 - (65536 : Int32))), (.int (56320 : Int32))])) _
    refine XS.iand X0.here hx rfl (hb hby d4_9) rfl ?_
    show Steps p.tables e below (s₁.setTop (mkF m 10 #[.val (.int p1)] [(.int ((p1 - (65536 : Int32)) &&& (1023 : Int32))), (.int (56320 : Int32))])) _
    refine XS.ior X0.here hx rfl (hb hby d4_10) rfl ?_
    show Steps p.tables e below (s₁.setTop (mkF m 11 #[.val (.int p1)] [(.int ((56320 : Int32) ||| ((p1 - (65536 : Int32)) &&& (1023 : Int32))))])) _
    exact k
  refine OwnG.st sg1 ?_
  have hv : ((56320 : Int32) ||| ((p1 - (65536 : Int32)) &&& (1023 : Int32))) = F4 p1 := by simp only [F4]
  exact OwnG.retI X0 hx Bd.returns (BodyLoose.notSynchronized Bd) (hb hby d4_11) ⟨congrArg (fun w => some (Value.int w)) hv, N0, e0⟩ (by decide) (by decide)
theorem own_ref (x : Int32) : F1 x = F2 x := by
  have h := c_mask x 1023 10 (by decide) (by decide)
  have g := own_hi x 1023 (-1024) (by decide)
  have k := c_iadd (x &&& (-1024 : Int32)) (x &&& (1023 : Int32))
  rw [g] at k
  have r := rng32 x
  have r2 := rng32 (x &&& (-1024 : Int32))
  have e1 : (55296 : Int32).toInt = 55296 := rfl
  have e2 : (56320 : Int32).toInt = 56320 := rfl
  unfold F1 F2
  by_cases a : x < 55296 <;> by_cases b : x < 56320 <;> by_cases d : (x &&& (-1024 : Int32)) = (55296 : Int32)
  all_goals simp only [a, b, d, if_true, if_false]
  all_goals first | rfl | (exfalso; rw [Int32.lt_iff_toInt_lt] at a b; rw [← Int32.toInt_inj] at d; omega)
theorem own_v (x : Int32) : 65536 ≤ ((65536 : Int32) + ((x &&& (2147483647 : Int32)) - ((x &&& (2147483647 : Int32)) / (1048576 : Int32)) * (1048576 : Int32))).toInt ∧ ((65536 : Int32) + ((x &&& (2147483647 : Int32)) - ((x &&& (2147483647 : Int32)) / (1048576 : Int32)) * (1048576 : Int32))).toInt < 1114112 := by
  have h0 := c_mask x 2147483647 31 (by decide) (by decide)
  obtain ⟨y, hy⟩ : ∃ y, y = x &&& (2147483647 : Int32) := ⟨_, rfl⟩
  rw [← hy] at h0 ⊢
  have h1 := (c_idiv y 1048576 1048576 rfl (by decide)).1 (by omega)
  have h2 := c_imul (y / 1048576) 1048576
  have h3 := c_isub y ((y / 1048576) * 1048576)
  have h4 := c_iadd 65536 (y - (y / 1048576) * 1048576)
  have e0 : (1048576 : Int32).toInt = 1048576 := rfl
  have e1 : (65536 : Int32).toInt = 65536 := rfl
  rw [e0] at h2
  have r2 := rng32 (y - (y / 1048576) * 1048576)
  have r3 := rng32 (65536 + (y - (y / 1048576) * 1048576))
  omega
theorem own_h (v : Int32) (hv : 65536 ≤ v.toInt ∧ v.toInt < 1114112) : ¬ F1 (F3 v) = 0 := by
  have h1 := c_isub v 65536
  have h2 := c_ishr (v - 65536) 10 10 (by decide)
  have e1 : (65536 : Int32).toInt = 65536 := rfl
  have e2 : (55296 : Int32).toInt = 55296 := rfl
  have e3 : (56320 : Int32).toInt = 56320 := rfl
  have r := rng32 (v - 65536)
  have hq : (v - 65536).toInt = v.toInt - 65536 := by omega
  have h3 := c_or 55296 ((v - 65536) >>> ((10 : Int32) &&& 31)) 10 (by decide) 1024 (by decide) (by decide) (by omega) (by omega)
  have r2 := rng32 (55296 ||| ((v - 65536) >>> ((10 : Int32) &&& 31)))
  unfold F1 F3
  rw [if_neg (by rw [Int32.lt_iff_toInt_lt]; omega), if_pos (by rw [Int32.lt_iff_toInt_lt]; omega)]
  decide
theorem own_l (v : Int32) : F1 (F4 v) = 0 := by
  have h2 := c_mask (v - 65536) 1023 10 (by decide) (by decide)
  have e2 : (55296 : Int32).toInt = 55296 := rfl
  have e3 : (56320 : Int32).toInt = 56320 := rfl
  have h3 := c_or 56320 ((v - 65536) &&& (1023 : Int32)) 10 (by decide) 1024 (by decide) (by decide) (by omega) (by omega)
  have r2 := rng32 (56320 ||| ((v - 65536) &&& (1023 : Int32)))
  unfold F1 F4
  rw [if_neg (by rw [Int32.lt_iff_toInt_lt]; omega), if_neg (by rw [Int32.lt_iff_toInt_lt]; omega)]
theorem pn_0 : plainName "com/example/units_to_scalars/unitstoscalars/Utf16IsHighSurrogatePinLaw" = true := by first | (simp [plainName, overriddenIn]; done) | decide +kernel
theorem pd_0_0 : parseMethodDescriptor "(I)Z" = some ⟨[.int], some .boolean⟩ := by decide +kernel
theorem pd_0_1 : parseMethodDescriptor "(I)I" = some ⟨[.int], some .int⟩ := by decide +kernel
theorem ef_0 (m : MethodId) (p1 : Int32) (p2 : Int32) : entryFrame m #[(.int p1), (.int p2)] maxLocals = mkF m 0 #[.val (.int p1), .val (.int p2), .unset, .unset, .unset, .unset, .unset, .unset, .unset, .unset] [] := by first | (simp [entryFrame, mkF, argsToLocals, Value.category, maxLocals]; done) | rfl
def Q0 (Z : State) (p1 : Int32) (p2 : Int32) (h0 : Heap) (n0 : Nat) (v : Option Value) (h : Heap) (L : List Loc) : Prop := v = some (.int 1) ∧ Fr n0 L
set_option maxRecDepth 65536 in
set_option maxHeartbeats 40000000 in
theorem rm0 (l : Launch) (Z : State) (a0 : Array Value) (hw : ∀ d ∈ tables_1, d.before a0 Z = true) (ws : List Jvm.Cond) (p1 : Int32) (p2 : Int32)  (h0 : Heap) (n0 : Nat) (Z0 : n0 ≤ h0.size)  :
    MetFree l x (head1 (Jvm.Cond.code x code maxLocals ret :: ws) room_1) (fun a U => a = #[(.int p1), (.int p2)] ∧ Z.Warmed39 U.vm ∧ U.heap = h0) (fun _ _ _ _ _ => True) (fun _ U o U' => ∃ v L, o = .returned v ∧ Q0 Z p1 p2 h0 n0 v U'.heap L ∧ FrameEnd U o U' L room_1.cells room_1.slots) := by
  refine MetFree.of_bodySF (plainFor_of_name pn_0) hisR ?_
  intro p e s m args below meth c s₁ Bd hml0 hP hK
  obtain ⟨rfl, hZ, hh⟩ := hP
  have hx := Bd.exec
  have hby := Bd.bytes
  have hml : c.maxLocals = 10 := hml0
  have hown : s.vm.findClass "com/example/units_to_scalars/unitstoscalars/Utf16IsHighSurrogatePinLaw" = some m.cls := findClass_of_methodNamed Bd.named
  have hnm := (name_of_methodNamed Bd.named Bd.method).1
  have X0 : Stand p l e room_1 s m #[(.int p1), (.int p2)] below meth c s₁ [] 0 0 := Stand.of_body Bd
  have e0 : s₁.heap = h0 := by rw [← hh, Bd.state]; rfl
  have N0 := Fr.nil n0
  suffices hG : OwnG p e below s (Q0 Z p1 p2 h0 n0) room_1.cells room_1.slots s₁ (mkF m 0 #[.val (.int p1), .val (.int p2), .unset, .unset, .unset, .unset, .unset, .unset, .unset, .unset] []) by
    obtain ⟨s2, o2, g1, g2⟩ := hG
    exact ⟨s2, o2, castTop (ef_0 m p1 p2) g1, g2⟩
  have sg1 : ∀ t, Steps p.tables e below (s₁.setTop (mkF m 5 #[.val (.int p1), .val (.int p2), .val (.int (p2 &&& (3 : Int32))), .unset, .unset, .unset, .unset, .unset, .unset, .unset] [(.int (p2 &&& (3 : Int32)))])) t → Steps p.tables e below (s₁.setTop (mkF m 0 #[.val (.int p1), .val (.int p2), .unset, .unset, .unset, .unset, .unset, .unset, .unset, .unset] [])) t := by
    intro t k
    refine XS.iloadN X0.here hx rfl (hb hby at_0) rfl ?_
    show Steps p.tables e below (s₁.setTop (mkF m 1 #[.val (.int p1), .val (.int p2), .unset, .unset, .unset, .unset, .unset, .unset, .unset, .unset] [(.int p2)])) _
    refine XS.iconst X0.here hx rfl (hb hby at_1) ?_
    show Steps p.tables e below (s₁.setTop (mkF m 2 #[.val (.int p1), .val (.int p2), .unset, .unset, .unset, .unset, .unset, .unset, .unset, .unset] [(.int (3 : Int32)), (.int p2)])) _
    refine XS.iand X0.here hx rfl (hb hby at_2) rfl ?_
    show Steps p.tables e below (s₁.setTop (mkF m 3 #[.val (.int p1), .val (.int p2), .unset, .unset, .unset, .unset, .unset, .unset, .unset, .unset] [(.int (p2 &&& (3 : Int32)))])) _
    refine XS.istoreN X0.here hx rfl (hb hby at_3) rfl (l' := #[.val (.int p1), .val (.int p2), .val (.int (p2 &&& (3 : Int32))), .unset, .unset, .unset, .unset, .unset, .unset, .unset]) rfl ?_
    show Steps p.tables e below (s₁.setTop (mkF m 4 #[.val (.int p1), .val (.int p2), .val (.int (p2 &&& (3 : Int32))), .unset, .unset, .unset, .unset, .unset, .unset, .unset] [])) _
    refine XS.iloadN X0.here hx rfl (hb hby at_4) rfl ?_
    show Steps p.tables e below (s₁.setTop (mkF m 5 #[.val (.int p1), .val (.int p2), .val (.int (p2 &&& (3 : Int32))), .unset, .unset, .unset, .unset, .unset, .unset, .unset] [(.int (p2 &&& (3 : Int32)))])) _
    exact k
  refine OwnG.st sg1 ?_
  obtain ⟨z35_5, hz35_5⟩ : ∃ w : Int32, w = (if (p2 &&& (3 : Int32)) = (0 : Int32) then (55292 : Int32) else (if (p2 &&& (3 : Int32)) = (1 : Int32) then (56316 : Int32) else (if (p2 &&& (3 : Int32)) = (2 : Int32) then (57340 : Int32) else (-4 : Int32)))) := ⟨_, rfl⟩
  have dj6 : ∀ t, Steps p.tables e below (s₁.setTop (mkF m 35 #[.val (.int p1), .val (.int p2), .val (.int (p2 &&& (3 : Int32))), .unset, .unset, .unset, .unset, .unset, .unset, .unset] [(.int z35_5)])) t → Steps p.tables e below (s₁.setTop (mkF m 5 #[.val (.int p1), .val (.int p2), .val (.int (p2 &&& (3 : Int32))), .unset, .unset, .unset, .unset, .unset, .unset, .unset] [(.int (p2 &&& (3 : Int32)))])) t := by
    intro t k
    by_cases hc5_2 : (p2 &&& (3 : Int32)) = (0 : Int32)
    · have qz35_5 : z35_5 = (55292 : Int32) := by rw [hz35_5, if_pos hc5_2]
      rw [qz35_5] at k
      refine XS.ifNo X0.here hx rfl (hb hby at_5) rfl ((if0 _ _).trans (teq hc5_2).2) ?_
      show Steps p.tables e below (s₁.setTop (mkF m 8 #[.val (.int p1), .val (.int p2), .val (.int (p2 &&& (3 : Int32))), .unset, .unset, .unset, .unset, .unset, .unset, .unset] [])) _
      refine X0.ldcInt hx hown (mvT hZ (hw _ (List.mem_of_getElem? (i := 22) rfl))) (g := (mkF m 8 #[.val (.int p1), .val (.int p2), .val (.int (p2 &&& (3 : Int32))), .unset, .unset, .unset, .unset, .unset, .unset, .unset] [])) rfl (hb hby at_8) _ ?_
      show Steps p.tables e below (s₁.setTop (mkF m 10 #[.val (.int p1), .val (.int p2), .val (.int (p2 &&& (3 : Int32))), .unset, .unset, .unset, .unset, .unset, .unset, .unset] [(.int (55292 : Int32))])) _
      refine XS.goto X0.here hx rfl (pc0 := 10) (pc' := 35) rfl (hb hby at_10) (by decide) (by decide) ?_
      show Steps p.tables e below (s₁.setTop (mkF m 35 #[.val (.int p1), .val (.int p2), .val (.int (p2 &&& (3 : Int32))), .unset, .unset, .unset, .unset, .unset, .unset, .unset] [(.int (55292 : Int32))])) _
      exact k
    · refine XS.ifYes X0.here hx rfl (pc0 := 5) (pc' := 13) rfl (hb hby at_5) rfl ((if0 _ _).trans (feq hc5_2).2) (by decide) (by decide) ?_
      show Steps p.tables e below (s₁.setTop (mkF m 13 #[.val (.int p1), .val (.int p2), .val (.int (p2 &&& (3 : Int32))), .unset, .unset, .unset, .unset, .unset, .unset, .unset] [])) _
      refine XS.iloadN X0.here hx rfl (hb hby at_13) rfl ?_
      show Steps p.tables e below (s₁.setTop (mkF m 14 #[.val (.int p1), .val (.int p2), .val (.int (p2 &&& (3 : Int32))), .unset, .unset, .unset, .unset, .unset, .unset, .unset] [(.int (p2 &&& (3 : Int32)))])) _
      refine XS.iconst X0.here hx rfl (hb hby at_14) ?_
      show Steps p.tables e below (s₁.setTop (mkF m 15 #[.val (.int p1), .val (.int p2), .val (.int (p2 &&& (3 : Int32))), .unset, .unset, .unset, .unset, .unset, .unset, .unset] [(.int (1 : Int32)), (.int (p2 &&& (3 : Int32)))])) _
      by_cases hc15_3 : (p2 &&& (3 : Int32)) = (1 : Int32)
      · have qz35_5 : z35_5 = (56316 : Int32) := by rw [hz35_5, if_neg hc5_2, if_pos hc15_3]
        rw [qz35_5] at k
        refine XS.icmpNo X0.here hx rfl (hb hby at_15) rfl (teq hc15_3).2 ?_
        show Steps p.tables e below (s₁.setTop (mkF m 18 #[.val (.int p1), .val (.int p2), .val (.int (p2 &&& (3 : Int32))), .unset, .unset, .unset, .unset, .unset, .unset, .unset] [])) _
        refine X0.ldcInt hx hown (mvT hZ (hw _ (List.mem_of_getElem? (i := 21) rfl))) (g := (mkF m 18 #[.val (.int p1), .val (.int p2), .val (.int (p2 &&& (3 : Int32))), .unset, .unset, .unset, .unset, .unset, .unset, .unset] [])) rfl (hb hby at_18) _ ?_
        show Steps p.tables e below (s₁.setTop (mkF m 20 #[.val (.int p1), .val (.int p2), .val (.int (p2 &&& (3 : Int32))), .unset, .unset, .unset, .unset, .unset, .unset, .unset] [(.int (56316 : Int32))])) _
        refine XS.goto X0.here hx rfl (pc0 := 20) (pc' := 35) rfl (hb hby at_20) (by decide) (by decide) ?_
        show Steps p.tables e below (s₁.setTop (mkF m 35 #[.val (.int p1), .val (.int p2), .val (.int (p2 &&& (3 : Int32))), .unset, .unset, .unset, .unset, .unset, .unset, .unset] [(.int (56316 : Int32))])) _
        exact k
      · refine XS.icmpYes X0.here hx rfl (pc0 := 15) (pc' := 23) rfl (hb hby at_15) rfl (feq hc15_3).2 (by decide) (by decide) ?_
        show Steps p.tables e below (s₁.setTop (mkF m 23 #[.val (.int p1), .val (.int p2), .val (.int (p2 &&& (3 : Int32))), .unset, .unset, .unset, .unset, .unset, .unset, .unset] [])) _
        refine XS.iloadN X0.here hx rfl (hb hby at_23) rfl ?_
        show Steps p.tables e below (s₁.setTop (mkF m 24 #[.val (.int p1), .val (.int p2), .val (.int (p2 &&& (3 : Int32))), .unset, .unset, .unset, .unset, .unset, .unset, .unset] [(.int (p2 &&& (3 : Int32)))])) _
        refine XS.iconst X0.here hx rfl (hb hby at_24) ?_
        show Steps p.tables e below (s₁.setTop (mkF m 25 #[.val (.int p1), .val (.int p2), .val (.int (p2 &&& (3 : Int32))), .unset, .unset, .unset, .unset, .unset, .unset, .unset] [(.int (2 : Int32)), (.int (p2 &&& (3 : Int32)))])) _
        by_cases hc25_4 : (p2 &&& (3 : Int32)) = (2 : Int32)
        · have qz35_5 : z35_5 = (57340 : Int32) := by rw [hz35_5, if_neg hc5_2, if_neg hc15_3, if_pos hc25_4]
          rw [qz35_5] at k
          refine XS.icmpNo X0.here hx rfl (hb hby at_25) rfl (teq hc25_4).2 ?_
          show Steps p.tables e below (s₁.setTop (mkF m 28 #[.val (.int p1), .val (.int p2), .val (.int (p2 &&& (3 : Int32))), .unset, .unset, .unset, .unset, .unset, .unset, .unset] [])) _
          refine X0.ldcInt hx hown (mvT hZ (hw _ (List.mem_of_getElem? (i := 23) rfl))) (g := (mkF m 28 #[.val (.int p1), .val (.int p2), .val (.int (p2 &&& (3 : Int32))), .unset, .unset, .unset, .unset, .unset, .unset, .unset] [])) rfl (hb hby at_28) _ ?_
          show Steps p.tables e below (s₁.setTop (mkF m 30 #[.val (.int p1), .val (.int p2), .val (.int (p2 &&& (3 : Int32))), .unset, .unset, .unset, .unset, .unset, .unset, .unset] [(.int (57340 : Int32))])) _
          refine XS.goto X0.here hx rfl (pc0 := 30) (pc' := 35) rfl (hb hby at_30) (by decide) (by decide) ?_
          show Steps p.tables e below (s₁.setTop (mkF m 35 #[.val (.int p1), .val (.int p2), .val (.int (p2 &&& (3 : Int32))), .unset, .unset, .unset, .unset, .unset, .unset, .unset] [(.int (57340 : Int32))])) _
          exact k
        · have qz35_5 : z35_5 = (-4 : Int32) := by rw [hz35_5, if_neg hc5_2, if_neg hc15_3, if_neg hc25_4]
          rw [qz35_5] at k
          refine XS.icmpYes X0.here hx rfl (pc0 := 25) (pc' := 33) rfl (hb hby at_25) rfl (feq hc25_4).2 (by decide) (by decide) ?_
          show Steps p.tables e below (s₁.setTop (mkF m 33 #[.val (.int p1), .val (.int p2), .val (.int (p2 &&& (3 : Int32))), .unset, .unset, .unset, .unset, .unset, .unset, .unset] [])) _
          refine XS.bipush X0.here hx rfl (hb hby at_33) ?_
          show Steps p.tables e below (s₁.setTop (mkF m 35 #[.val (.int p1), .val (.int p2), .val (.int (p2 &&& (3 : Int32))), .unset, .unset, .unset, .unset, .unset, .unset, .unset] [(.int (-4 : Int32))])) _
          exact k
  refine OwnG.st dj6 ?_
  have sg7 : ∀ t, Steps p.tables e below (s₁.setTop (mkF m 59 #[.val (.int p1), .val (.int p2), .val (.int (p2 &&& (3 : Int32))), .val (.int z35_5), .val (.int (z35_5 + (((p2.toUInt32 >>> ((2 : Int32) &&& 31).toUInt32).toInt32) &&& (7 : Int32)))), .val (.int ((65536 : Int32) + ((p1 &&& (2147483647 : Int32)) - ((p1 &&& (2147483647 : Int32)) / (1048576 : Int32)) * (1048576 : Int32)))), .unset, .unset, .unset, .unset] [(.int p1)])) t → Steps p.tables e below (s₁.setTop (mkF m 35 #[.val (.int p1), .val (.int p2), .val (.int (p2 &&& (3 : Int32))), .unset, .unset, .unset, .unset, .unset, .unset, .unset] [(.int z35_5)])) t := by
    intro t k
    refine XS.istoreN X0.here hx rfl (hb hby at_35) rfl (l' := #[.val (.int p1), .val (.int p2), .val (.int (p2 &&& (3 : Int32))), .val (.int z35_5), .unset, .unset, .unset, .unset, .unset, .unset]) rfl ?_
    show Steps p.tables e below (s₁.setTop (mkF m 36 #[.val (.int p1), .val (.int p2), .val (.int (p2 &&& (3 : Int32))), .val (.int z35_5), .unset, .unset, .unset, .unset, .unset, .unset] [])) _
    refine XS.iloadN X0.here hx rfl (hb hby at_36) rfl ?_
    show Steps p.tables e below (s₁.setTop (mkF m 37 #[.val (.int p1), .val (.int p2), .val (.int (p2 &&& (3 : Int32))), .val (.int z35_5), .unset, .unset, .unset, .unset, .unset, .unset] [(.int z35_5)])) _
    refine XS.iloadN X0.here hx rfl (hb hby at_37) rfl ?_
    show Steps p.tables e below (s₁.setTop (mkF m 38 #[.val (.int p1), .val (.int p2), .val (.int (p2 &&& (3 : Int32))), .val (.int z35_5), .unset, .unset, .unset, .unset, .unset, .unset] [(.int p2), (.int z35_5)])) _
    refine XS.iconst X0.here hx rfl (hb hby at_38) ?_
    show Steps p.tables e below (s₁.setTop (mkF m 39 #[.val (.int p1), .val (.int p2), .val (.int (p2 &&& (3 : Int32))), .val (.int z35_5), .unset, .unset, .unset, .unset, .unset, .unset] [(.int (2 : Int32)), (.int p2), (.int z35_5)])) _
    refine XS.iushr X0.here hx rfl (hb hby at_39) rfl ?_
    show Steps p.tables e below (s₁.setTop (mkF m 40 #[.val (.int p1), .val (.int p2), .val (.int (p2 &&& (3 : Int32))), .val (.int z35_5), .unset, .unset, .unset, .unset, .unset, .unset] [(.int ((p2.toUInt32 >>> ((2 : Int32) &&& 31).toUInt32).toInt32)), (.int z35_5)])) _
    refine XS.bipush X0.here hx rfl (hb hby at_40) ?_
    show Steps p.tables e below (s₁.setTop (mkF m 42 #[.val (.int p1), .val (.int p2), .val (.int (p2 &&& (3 : Int32))), .val (.int z35_5), .unset, .unset, .unset, .unset, .unset, .unset] [(.int (7 : Int32)), (.int ((p2.toUInt32 >>> ((2 : Int32) &&& 31).toUInt32).toInt32)), (.int z35_5)])) _
    refine XS.iand X0.here hx rfl (hb hby at_42) rfl ?_
    show Steps p.tables e below (s₁.setTop (mkF m 43 #[.val (.int p1), .val (.int p2), .val (.int (p2 &&& (3 : Int32))), .val (.int z35_5), .unset, .unset, .unset, .unset, .unset, .unset] [(.int (((p2.toUInt32 >>> ((2 : Int32) &&& 31).toUInt32).toInt32) &&& (7 : Int32))), (.int z35_5)])) _
    refine XS.iadd X0.here hx rfl (hb hby at_43) rfl ?_
    show Steps p.tables e below (s₁.setTop (mkF m 44 #[.val (.int p1), .val (.int p2), .val (.int (p2 &&& (3 : Int32))), .val (.int z35_5), .unset, .unset, .unset, .unset, .unset, .unset] [(.int (z35_5 + (((p2.toUInt32 >>> ((2 : Int32) &&& 31).toUInt32).toInt32) &&& (7 : Int32))))])) _
    refine XS.istore X0.here hx rfl (hb hby at_44) rfl (l' := #[.val (.int p1), .val (.int p2), .val (.int (p2 &&& (3 : Int32))), .val (.int z35_5), .val (.int (z35_5 + (((p2.toUInt32 >>> ((2 : Int32) &&& 31).toUInt32).toInt32) &&& (7 : Int32)))), .unset, .unset, .unset, .unset, .unset]) rfl ?_
    show Steps p.tables e below (s₁.setTop (mkF m 46 #[.val (.int p1), .val (.int p2), .val (.int (p2 &&& (3 : Int32))), .val (.int z35_5), .val (.int (z35_5 + (((p2.toUInt32 >>> ((2 : Int32) &&& 31).toUInt32).toInt32) &&& (7 : Int32)))), .unset, .unset, .unset, .unset, .unset] [])) _
    refine X0.ldcInt hx hown (mvT hZ (hw _ (List.mem_of_getElem? (i := 0) rfl))) (g := (mkF m 46 #[.val (.int p1), .val (.int p2), .val (.int (p2 &&& (3 : Int32))), .val (.int z35_5), .val (.int (z35_5 + (((p2.toUInt32 >>> ((2 : Int32) &&& 31).toUInt32).toInt32) &&& (7 : Int32)))), .unset, .unset, .unset, .unset, .unset] [])) rfl (hb hby at_46) _ ?_
    show Steps p.tables e below (s₁.setTop (mkF m 48 #[.val (.int p1), .val (.int p2), .val (.int (p2 &&& (3 : Int32))), .val (.int z35_5), .val (.int (z35_5 + (((p2.toUInt32 >>> ((2 : Int32) &&& 31).toUInt32).toInt32) &&& (7 : Int32)))), .unset, .unset, .unset, .unset, .unset] [(.int (65536 : Int32))])) _
    refine XS.iloadN X0.here hx rfl (hb hby at_48) rfl ?_
    show Steps p.tables e below (s₁.setTop (mkF m 49 #[.val (.int p1), .val (.int p2), .val (.int (p2 &&& (3 : Int32))), .val (.int z35_5), .val (.int (z35_5 + (((p2.toUInt32 >>> ((2 : Int32) &&& 31).toUInt32).toInt32) &&& (7 : Int32)))), .unset, .unset, .unset, .unset, .unset] [(.int p1), (.int (65536 : Int32))])) _
    refine X0.ldcInt hx hown (mvT hZ (hw _ (List.mem_of_getElem? (i := 1) rfl))) (g := (mkF m 49 #[.val (.int p1), .val (.int p2), .val (.int (p2 &&& (3 : Int32))), .val (.int z35_5), .val (.int (z35_5 + (((p2.toUInt32 >>> ((2 : Int32) &&& 31).toUInt32).toInt32) &&& (7 : Int32)))), .unset, .unset, .unset, .unset, .unset] [(.int p1), (.int (65536 : Int32))])) rfl (hb hby at_49) _ ?_
    show Steps p.tables e below (s₁.setTop (mkF m 51 #[.val (.int p1), .val (.int p2), .val (.int (p2 &&& (3 : Int32))), .val (.int z35_5), .val (.int (z35_5 + (((p2.toUInt32 >>> ((2 : Int32) &&& 31).toUInt32).toInt32) &&& (7 : Int32)))), .unset, .unset, .unset, .unset, .unset] [(.int (2147483647 : Int32)), (.int p1), (.int (65536 : Int32))])) _
    refine XS.iand X0.here hx rfl (hb hby at_51) rfl ?_
    show Steps p.tables e below (s₁.setTop (mkF m 52 #[.val (.int p1), .val (.int p2), .val (.int (p2 &&& (3 : Int32))), .val (.int z35_5), .val (.int (z35_5 + (((p2.toUInt32 >>> ((2 : Int32) &&& 31).toUInt32).toInt32) &&& (7 : Int32)))), .unset, .unset, .unset, .unset, .unset] [(.int (p1 &&& (2147483647 : Int32))), (.int (65536 : Int32))])) _
    refine X0.ldcInt hx hown (mvT hZ (hw _ (List.mem_of_getElem? (i := 2) rfl))) (g := (mkF m 52 #[.val (.int p1), .val (.int p2), .val (.int (p2 &&& (3 : Int32))), .val (.int z35_5), .val (.int (z35_5 + (((p2.toUInt32 >>> ((2 : Int32) &&& 31).toUInt32).toInt32) &&& (7 : Int32)))), .unset, .unset, .unset, .unset, .unset] [(.int (p1 &&& (2147483647 : Int32))), (.int (65536 : Int32))])) rfl (hb hby at_52) _ ?_
    show Steps p.tables e below (s₁.setTop (mkF m 54 #[.val (.int p1), .val (.int p2), .val (.int (p2 &&& (3 : Int32))), .val (.int z35_5), .val (.int (z35_5 + (((p2.toUInt32 >>> ((2 : Int32) &&& 31).toUInt32).toInt32) &&& (7 : Int32)))), .unset, .unset, .unset, .unset, .unset] [(.int (1048576 : Int32)), (.int (p1 &&& (2147483647 : Int32))), (.int (65536 : Int32))])) _
    refine XS.irem X0.here hx rfl (hb hby at_54) rfl (by decide) ?_
    show Steps p.tables e below (s₁.setTop (mkF m 55 #[.val (.int p1), .val (.int p2), .val (.int (p2 &&& (3 : Int32))), .val (.int z35_5), .val (.int (z35_5 + (((p2.toUInt32 >>> ((2 : Int32) &&& 31).toUInt32).toInt32) &&& (7 : Int32)))), .unset, .unset, .unset, .unset, .unset] [(.int ((p1 &&& (2147483647 : Int32)) - ((p1 &&& (2147483647 : Int32)) / (1048576 : Int32)) * (1048576 : Int32))), (.int (65536 : Int32))])) _
    refine XS.iadd X0.here hx rfl (hb hby at_55) rfl ?_
    show Steps p.tables e below (s₁.setTop (mkF m 56 #[.val (.int p1), .val (.int p2), .val (.int (p2 &&& (3 : Int32))), .val (.int z35_5), .val (.int (z35_5 + (((p2.toUInt32 >>> ((2 : Int32) &&& 31).toUInt32).toInt32) &&& (7 : Int32)))), .unset, .unset, .unset, .unset, .unset] [(.int ((65536 : Int32) + ((p1 &&& (2147483647 : Int32)) - ((p1 &&& (2147483647 : Int32)) / (1048576 : Int32)) * (1048576 : Int32))))])) _
    refine XS.istore X0.here hx rfl (hb hby at_56) rfl (l' := #[.val (.int p1), .val (.int p2), .val (.int (p2 &&& (3 : Int32))), .val (.int z35_5), .val (.int (z35_5 + (((p2.toUInt32 >>> ((2 : Int32) &&& 31).toUInt32).toInt32) &&& (7 : Int32)))), .val (.int ((65536 : Int32) + ((p1 &&& (2147483647 : Int32)) - ((p1 &&& (2147483647 : Int32)) / (1048576 : Int32)) * (1048576 : Int32)))), .unset, .unset, .unset, .unset]) rfl ?_
    show Steps p.tables e below (s₁.setTop (mkF m 58 #[.val (.int p1), .val (.int p2), .val (.int (p2 &&& (3 : Int32))), .val (.int z35_5), .val (.int (z35_5 + (((p2.toUInt32 >>> ((2 : Int32) &&& 31).toUInt32).toInt32) &&& (7 : Int32)))), .val (.int ((65536 : Int32) + ((p1 &&& (2147483647 : Int32)) - ((p1 &&& (2147483647 : Int32)) / (1048576 : Int32)) * (1048576 : Int32)))), .unset, .unset, .unset, .unset] [])) _
    refine XS.iloadN X0.here hx rfl (hb hby at_58) rfl ?_
    show Steps p.tables e below (s₁.setTop (mkF m 59 #[.val (.int p1), .val (.int p2), .val (.int (p2 &&& (3 : Int32))), .val (.int z35_5), .val (.int (z35_5 + (((p2.toUInt32 >>> ((2 : Int32) &&& 31).toUInt32).toInt32) &&& (7 : Int32)))), .val (.int ((65536 : Int32) + ((p1 &&& (2147483647 : Int32)) - ((p1 &&& (2147483647 : Int32)) / (1048576 : Int32)) * (1048576 : Int32)))), .unset, .unset, .unset, .unset] [(.int p1)])) _
    exact k
  refine OwnG.st sg7 ?_
  obtain ⟨_, _, ⟨T8, L8, k8, n8⟩, -, X8, ⟨Lc8, hQ8, l8, y8, z8⟩, st8⟩ := Jvm.LawKit.callS X0 hx (y := (⟨"com/example/units_to_scalars/unitstoscalars/Utf16", "isHighSurrogate", "(I)Z"⟩ : MethodName)) hown (mvT hZ (hw _ (List.mem_of_getElem? (i := 3) rfl))) (mvT hZ (hw _ (List.mem_of_getElem? (i := 4) rfl))) (mvT hZ (hw _ (List.mem_of_getElem? (i := 5) rfl))) (mvT hZ (hw _ (List.mem_of_getElem? (i := 6) rfl))) (by decide) (backOf (W := 0) (rm1 l Z a0 hw [] p1  h0 n0 Z0 ) hZ (hw _ (List.mem_of_getElem? (i := 6) rfl)) (hw _ (List.mem_of_getElem? (i := 5) rfl)) (by decide) (by decide)) (g := (mkF m 59 #[.val (.int p1), .val (.int p2), .val (.int (p2 &&& (3 : Int32))), .val (.int z35_5), .val (.int (z35_5 + (((p2.toUInt32 >>> ((2 : Int32) &&& 31).toUInt32).toInt32) &&& (7 : Int32)))), .val (.int ((65536 : Int32) + ((p1 &&& (2147483647 : Int32)) - ((p1 &&& (2147483647 : Int32)) / (1048576 : Int32)) * (1048576 : Int32)))), .unset, .unset, .unset, .unset] [(.int p1)])) rfl (by rw [hml]; rfl) (argsL := [(.int p1)]) (rest := []) (lenOf pd_0_0 rfl) rfl (by show 2 * 0 + _ ≤ _; exact Nat.le_of_eq rfl) (hb hby at_59) (fun _ _ => ⟨rfl, e0, (by decide : 0 + 0 ≤ _), (by decide : 0 + 0 ≤ _)⟩)
  dsimp only [Pt.U, Pt.locs, Pt.cells, Pt.slots] at X8 l8 y8 z8 st8 hQ8
  subst l8 y8 z8
  obtain ⟨rfl, N8q, e8⟩ := hQ8
  have N8 := Fr.app N0 N8q
  refine OwnG.st (fun t k => st8 t k) ?_
  show OwnG p e below s _ _ _ T8 (mkF m 62 #[.val (.int p1), .val (.int p2), .val (.int (p2 &&& (3 : Int32))), .val (.int z35_5), .val (.int (z35_5 + (((p2.toUInt32 >>> ((2 : Int32) &&& 31).toUInt32).toInt32) &&& (7 : Int32)))), .val (.int ((65536 : Int32) + ((p1 &&& (2147483647 : Int32)) - ((p1 &&& (2147483647 : Int32)) / (1048576 : Int32)) * (1048576 : Int32)))), .unset, .unset, .unset, .unset] [(.int (F1 p1))])
  have sg9 : ∀ t, Steps p.tables e below (T8.setTop (mkF m 63 #[.val (.int p1), .val (.int p2), .val (.int (p2 &&& (3 : Int32))), .val (.int z35_5), .val (.int (z35_5 + (((p2.toUInt32 >>> ((2 : Int32) &&& 31).toUInt32).toInt32) &&& (7 : Int32)))), .val (.int ((65536 : Int32) + ((p1 &&& (2147483647 : Int32)) - ((p1 &&& (2147483647 : Int32)) / (1048576 : Int32)) * (1048576 : Int32)))), .unset, .unset, .unset, .unset] [(.int p1), (.int (F1 p1))])) t → Steps p.tables e below (T8.setTop (mkF m 62 #[.val (.int p1), .val (.int p2), .val (.int (p2 &&& (3 : Int32))), .val (.int z35_5), .val (.int (z35_5 + (((p2.toUInt32 >>> ((2 : Int32) &&& 31).toUInt32).toInt32) &&& (7 : Int32)))), .val (.int ((65536 : Int32) + ((p1 &&& (2147483647 : Int32)) - ((p1 &&& (2147483647 : Int32)) / (1048576 : Int32)) * (1048576 : Int32)))), .unset, .unset, .unset, .unset] [(.int (F1 p1))])) t := by
    intro t k
    refine XS.iloadN X8.here hx rfl (hb hby at_62) rfl ?_
    show Steps p.tables e below (T8.setTop (mkF m 63 #[.val (.int p1), .val (.int p2), .val (.int (p2 &&& (3 : Int32))), .val (.int z35_5), .val (.int (z35_5 + (((p2.toUInt32 >>> ((2 : Int32) &&& 31).toUInt32).toInt32) &&& (7 : Int32)))), .val (.int ((65536 : Int32) + ((p1 &&& (2147483647 : Int32)) - ((p1 &&& (2147483647 : Int32)) / (1048576 : Int32)) * (1048576 : Int32)))), .unset, .unset, .unset, .unset] [(.int p1), (.int (F1 p1))])) _
    exact k
  refine OwnG.st sg9 ?_
  obtain ⟨_, _, ⟨T10, L10, k10, n10⟩, -, X10, ⟨Lc10, hQ10, l10, y10, z10⟩, st10⟩ := Jvm.LawKit.callS X8 hx (y := (⟨"com/example/units_to_scalars/unitstoscalars/Utf16IsHighSurrogatePinLaw", "ref", "(I)Z"⟩ : MethodName)) hown (mvT hZ (hw _ (List.mem_of_getElem? (i := 8) rfl))) (mvT hZ (hw _ (List.mem_of_getElem? (i := 9) rfl))) (mvT hZ (hw _ (List.mem_of_getElem? (i := 10) rfl))) (mvT hZ (hw _ (List.mem_of_getElem? (i := 11) rfl))) (by decide) (backOf (W := 1) (rm2 l Z a0 hw [] p1  h0 n0 Z0 ) hZ (hw _ (List.mem_of_getElem? (i := 11) rfl)) (hw _ (List.mem_of_getElem? (i := 10) rfl)) (by decide) (by decide)) (g := (mkF m 63 #[.val (.int p1), .val (.int p2), .val (.int (p2 &&& (3 : Int32))), .val (.int z35_5), .val (.int (z35_5 + (((p2.toUInt32 >>> ((2 : Int32) &&& 31).toUInt32).toInt32) &&& (7 : Int32)))), .val (.int ((65536 : Int32) + ((p1 &&& (2147483647 : Int32)) - ((p1 &&& (2147483647 : Int32)) / (1048576 : Int32)) * (1048576 : Int32)))), .unset, .unset, .unset, .unset] [(.int p1), (.int (F1 p1))])) rfl (by rw [hml]; rfl) (argsL := [(.int p1)]) (rest := [(.int (F1 p1))]) (lenOf pd_0_0 rfl) rfl (by show 2 * 0 + _ ≤ _; exact Nat.le_of_eq rfl) (hb hby at_63) (fun _ _ => ⟨rfl, e8, (by decide : 0 + 0 ≤ _), (by decide : 0 + 0 ≤ _)⟩)
  dsimp only [Pt.U, Pt.locs, Pt.cells, Pt.slots] at X10 l10 y10 z10 st10 hQ10
  subst l10 y10 z10
  obtain ⟨rfl, N10q, e10⟩ := hQ10
  have N10 := Fr.app N8 N10q
  refine OwnG.st (fun t k => st10 t k) ?_
  show OwnG p e below s _ _ _ T10 (mkF m 66 #[.val (.int p1), .val (.int p2), .val (.int (p2 &&& (3 : Int32))), .val (.int z35_5), .val (.int (z35_5 + (((p2.toUInt32 >>> ((2 : Int32) &&& 31).toUInt32).toInt32) &&& (7 : Int32)))), .val (.int ((65536 : Int32) + ((p1 &&& (2147483647 : Int32)) - ((p1 &&& (2147483647 : Int32)) / (1048576 : Int32)) * (1048576 : Int32)))), .unset, .unset, .unset, .unset] [(.int (F2 p1)), (.int (F1 p1))])
  have hc66_11 : (F1 p1) = (F2 p1) := own_ref _
  have sg12 : ∀ t, Steps p.tables e below (T10.setTop (mkF m 78 #[.val (.int p1), .val (.int p2), .val (.int (p2 &&& (3 : Int32))), .val (.int z35_5), .val (.int (z35_5 + (((p2.toUInt32 >>> ((2 : Int32) &&& 31).toUInt32).toInt32) &&& (7 : Int32)))), .val (.int ((65536 : Int32) + ((p1 &&& (2147483647 : Int32)) - ((p1 &&& (2147483647 : Int32)) / (1048576 : Int32)) * (1048576 : Int32)))), .val (.int (1 : Int32)), .unset, .unset, .unset] [(.int (z35_5 + (((p2.toUInt32 >>> ((2 : Int32) &&& 31).toUInt32).toInt32) &&& (7 : Int32))))])) t → Steps p.tables e below (T10.setTop (mkF m 66 #[.val (.int p1), .val (.int p2), .val (.int (p2 &&& (3 : Int32))), .val (.int z35_5), .val (.int (z35_5 + (((p2.toUInt32 >>> ((2 : Int32) &&& 31).toUInt32).toInt32) &&& (7 : Int32)))), .val (.int ((65536 : Int32) + ((p1 &&& (2147483647 : Int32)) - ((p1 &&& (2147483647 : Int32)) / (1048576 : Int32)) * (1048576 : Int32)))), .unset, .unset, .unset, .unset] [(.int (F2 p1)), (.int (F1 p1))])) t := by
    intro t k
    refine XS.icmpNo X10.here hx rfl (hb hby at_66) rfl (teq hc66_11).2 ?_
    show Steps p.tables e below (T10.setTop (mkF m 69 #[.val (.int p1), .val (.int p2), .val (.int (p2 &&& (3 : Int32))), .val (.int z35_5), .val (.int (z35_5 + (((p2.toUInt32 >>> ((2 : Int32) &&& 31).toUInt32).toInt32) &&& (7 : Int32)))), .val (.int ((65536 : Int32) + ((p1 &&& (2147483647 : Int32)) - ((p1 &&& (2147483647 : Int32)) / (1048576 : Int32)) * (1048576 : Int32)))), .unset, .unset, .unset, .unset] [])) _
    refine XS.iconst X10.here hx rfl (hb hby at_69) ?_
    show Steps p.tables e below (T10.setTop (mkF m 70 #[.val (.int p1), .val (.int p2), .val (.int (p2 &&& (3 : Int32))), .val (.int z35_5), .val (.int (z35_5 + (((p2.toUInt32 >>> ((2 : Int32) &&& 31).toUInt32).toInt32) &&& (7 : Int32)))), .val (.int ((65536 : Int32) + ((p1 &&& (2147483647 : Int32)) - ((p1 &&& (2147483647 : Int32)) / (1048576 : Int32)) * (1048576 : Int32)))), .unset, .unset, .unset, .unset] [(.int (1 : Int32))])) _
    refine XS.goto X10.here hx rfl (pc0 := 70) (pc' := 74) rfl (hb hby at_70) (by decide) (by decide) ?_
    show Steps p.tables e below (T10.setTop (mkF m 74 #[.val (.int p1), .val (.int p2), .val (.int (p2 &&& (3 : Int32))), .val (.int z35_5), .val (.int (z35_5 + (((p2.toUInt32 >>> ((2 : Int32) &&& 31).toUInt32).toInt32) &&& (7 : Int32)))), .val (.int ((65536 : Int32) + ((p1 &&& (2147483647 : Int32)) - ((p1 &&& (2147483647 : Int32)) / (1048576 : Int32)) * (1048576 : Int32)))), .unset, .unset, .unset, .unset] [(.int (1 : Int32))])) _
    refine XS.istore X10.here hx rfl (hb hby at_74) rfl (l' := #[.val (.int p1), .val (.int p2), .val (.int (p2 &&& (3 : Int32))), .val (.int z35_5), .val (.int (z35_5 + (((p2.toUInt32 >>> ((2 : Int32) &&& 31).toUInt32).toInt32) &&& (7 : Int32)))), .val (.int ((65536 : Int32) + ((p1 &&& (2147483647 : Int32)) - ((p1 &&& (2147483647 : Int32)) / (1048576 : Int32)) * (1048576 : Int32)))), .val (.int (1 : Int32)), .unset, .unset, .unset]) rfl ?_
    show Steps p.tables e below (T10.setTop (mkF m 76 #[.val (.int p1), .val (.int p2), .val (.int (p2 &&& (3 : Int32))), .val (.int z35_5), .val (.int (z35_5 + (((p2.toUInt32 >>> ((2 : Int32) &&& 31).toUInt32).toInt32) &&& (7 : Int32)))), .val (.int ((65536 : Int32) + ((p1 &&& (2147483647 : Int32)) - ((p1 &&& (2147483647 : Int32)) / (1048576 : Int32)) * (1048576 : Int32)))), .val (.int (1 : Int32)), .unset, .unset, .unset] [])) _
    refine XS.iload X10.here hx rfl (hb hby at_76) rfl ?_
    show Steps p.tables e below (T10.setTop (mkF m 78 #[.val (.int p1), .val (.int p2), .val (.int (p2 &&& (3 : Int32))), .val (.int z35_5), .val (.int (z35_5 + (((p2.toUInt32 >>> ((2 : Int32) &&& 31).toUInt32).toInt32) &&& (7 : Int32)))), .val (.int ((65536 : Int32) + ((p1 &&& (2147483647 : Int32)) - ((p1 &&& (2147483647 : Int32)) / (1048576 : Int32)) * (1048576 : Int32)))), .val (.int (1 : Int32)), .unset, .unset, .unset] [(.int (z35_5 + (((p2.toUInt32 >>> ((2 : Int32) &&& 31).toUInt32).toInt32) &&& (7 : Int32))))])) _
    exact k
  refine OwnG.st sg12 ?_
  obtain ⟨_, _, ⟨T13, L13, k13, n13⟩, -, X13, ⟨Lc13, hQ13, l13, y13, z13⟩, st13⟩ := Jvm.LawKit.callS X10 hx (y := (⟨"com/example/units_to_scalars/unitstoscalars/Utf16", "isHighSurrogate", "(I)Z"⟩ : MethodName)) hown (mvT hZ (hw _ (List.mem_of_getElem? (i := 3) rfl))) (mvT hZ (hw _ (List.mem_of_getElem? (i := 4) rfl))) (mvT hZ (hw _ (List.mem_of_getElem? (i := 5) rfl))) (mvT hZ (hw _ (List.mem_of_getElem? (i := 6) rfl))) (by decide) (backOf (W := 0) (rm1 l Z a0 hw [] (z35_5 + (((p2.toUInt32 >>> ((2 : Int32) &&& 31).toUInt32).toInt32) &&& (7 : Int32)))  h0 n0 Z0 ) hZ (hw _ (List.mem_of_getElem? (i := 6) rfl)) (hw _ (List.mem_of_getElem? (i := 5) rfl)) (by decide) (by decide)) (g := (mkF m 78 #[.val (.int p1), .val (.int p2), .val (.int (p2 &&& (3 : Int32))), .val (.int z35_5), .val (.int (z35_5 + (((p2.toUInt32 >>> ((2 : Int32) &&& 31).toUInt32).toInt32) &&& (7 : Int32)))), .val (.int ((65536 : Int32) + ((p1 &&& (2147483647 : Int32)) - ((p1 &&& (2147483647 : Int32)) / (1048576 : Int32)) * (1048576 : Int32)))), .val (.int (1 : Int32)), .unset, .unset, .unset] [(.int (z35_5 + (((p2.toUInt32 >>> ((2 : Int32) &&& 31).toUInt32).toInt32) &&& (7 : Int32))))])) rfl (by rw [hml]; rfl) (argsL := [(.int (z35_5 + (((p2.toUInt32 >>> ((2 : Int32) &&& 31).toUInt32).toInt32) &&& (7 : Int32))))]) (rest := []) (lenOf pd_0_0 rfl) rfl (by show 2 * 0 + _ ≤ _; exact Nat.le_of_eq rfl) (hb hby at_78) (fun _ _ => ⟨rfl, e10, (by decide : 0 + 0 ≤ _), (by decide : 0 + 0 ≤ _)⟩)
  dsimp only [Pt.U, Pt.locs, Pt.cells, Pt.slots] at X13 l13 y13 z13 st13 hQ13
  subst l13 y13 z13
  obtain ⟨rfl, N13q, e13⟩ := hQ13
  have N13 := Fr.app N10 N13q
  refine OwnG.st (fun t k => st13 t k) ?_
  show OwnG p e below s _ _ _ T13 (mkF m 81 #[.val (.int p1), .val (.int p2), .val (.int (p2 &&& (3 : Int32))), .val (.int z35_5), .val (.int (z35_5 + (((p2.toUInt32 >>> ((2 : Int32) &&& 31).toUInt32).toInt32) &&& (7 : Int32)))), .val (.int ((65536 : Int32) + ((p1 &&& (2147483647 : Int32)) - ((p1 &&& (2147483647 : Int32)) / (1048576 : Int32)) * (1048576 : Int32)))), .val (.int (1 : Int32)), .unset, .unset, .unset] [(.int (F1 (z35_5 + (((p2.toUInt32 >>> ((2 : Int32) &&& 31).toUInt32).toInt32) &&& (7 : Int32)))))])
  have sg14 : ∀ t, Steps p.tables e below (T13.setTop (mkF m 83 #[.val (.int p1), .val (.int p2), .val (.int (p2 &&& (3 : Int32))), .val (.int z35_5), .val (.int (z35_5 + (((p2.toUInt32 >>> ((2 : Int32) &&& 31).toUInt32).toInt32) &&& (7 : Int32)))), .val (.int ((65536 : Int32) + ((p1 &&& (2147483647 : Int32)) - ((p1 &&& (2147483647 : Int32)) / (1048576 : Int32)) * (1048576 : Int32)))), .val (.int (1 : Int32)), .unset, .unset, .unset] [(.int (z35_5 + (((p2.toUInt32 >>> ((2 : Int32) &&& 31).toUInt32).toInt32) &&& (7 : Int32)))), (.int (F1 (z35_5 + (((p2.toUInt32 >>> ((2 : Int32) &&& 31).toUInt32).toInt32) &&& (7 : Int32)))))])) t → Steps p.tables e below (T13.setTop (mkF m 81 #[.val (.int p1), .val (.int p2), .val (.int (p2 &&& (3 : Int32))), .val (.int z35_5), .val (.int (z35_5 + (((p2.toUInt32 >>> ((2 : Int32) &&& 31).toUInt32).toInt32) &&& (7 : Int32)))), .val (.int ((65536 : Int32) + ((p1 &&& (2147483647 : Int32)) - ((p1 &&& (2147483647 : Int32)) / (1048576 : Int32)) * (1048576 : Int32)))), .val (.int (1 : Int32)), .unset, .unset, .unset] [(.int (F1 (z35_5 + (((p2.toUInt32 >>> ((2 : Int32) &&& 31).toUInt32).toInt32) &&& (7 : Int32)))))])) t := by
    intro t k
    refine XS.iload X13.here hx rfl (hb hby at_81) rfl ?_
    show Steps p.tables e below (T13.setTop (mkF m 83 #[.val (.int p1), .val (.int p2), .val (.int (p2 &&& (3 : Int32))), .val (.int z35_5), .val (.int (z35_5 + (((p2.toUInt32 >>> ((2 : Int32) &&& 31).toUInt32).toInt32) &&& (7 : Int32)))), .val (.int ((65536 : Int32) + ((p1 &&& (2147483647 : Int32)) - ((p1 &&& (2147483647 : Int32)) / (1048576 : Int32)) * (1048576 : Int32)))), .val (.int (1 : Int32)), .unset, .unset, .unset] [(.int (z35_5 + (((p2.toUInt32 >>> ((2 : Int32) &&& 31).toUInt32).toInt32) &&& (7 : Int32)))), (.int (F1 (z35_5 + (((p2.toUInt32 >>> ((2 : Int32) &&& 31).toUInt32).toInt32) &&& (7 : Int32)))))])) _
    exact k
  refine OwnG.st sg14 ?_
  obtain ⟨_, _, ⟨T15, L15, k15, n15⟩, -, X15, ⟨Lc15, hQ15, l15, y15, z15⟩, st15⟩ := Jvm.LawKit.callS X13 hx (y := (⟨"com/example/units_to_scalars/unitstoscalars/Utf16IsHighSurrogatePinLaw", "ref", "(I)Z"⟩ : MethodName)) hown (mvT hZ (hw _ (List.mem_of_getElem? (i := 8) rfl))) (mvT hZ (hw _ (List.mem_of_getElem? (i := 9) rfl))) (mvT hZ (hw _ (List.mem_of_getElem? (i := 10) rfl))) (mvT hZ (hw _ (List.mem_of_getElem? (i := 11) rfl))) (by decide) (backOf (W := 1) (rm2 l Z a0 hw [] (z35_5 + (((p2.toUInt32 >>> ((2 : Int32) &&& 31).toUInt32).toInt32) &&& (7 : Int32)))  h0 n0 Z0 ) hZ (hw _ (List.mem_of_getElem? (i := 11) rfl)) (hw _ (List.mem_of_getElem? (i := 10) rfl)) (by decide) (by decide)) (g := (mkF m 83 #[.val (.int p1), .val (.int p2), .val (.int (p2 &&& (3 : Int32))), .val (.int z35_5), .val (.int (z35_5 + (((p2.toUInt32 >>> ((2 : Int32) &&& 31).toUInt32).toInt32) &&& (7 : Int32)))), .val (.int ((65536 : Int32) + ((p1 &&& (2147483647 : Int32)) - ((p1 &&& (2147483647 : Int32)) / (1048576 : Int32)) * (1048576 : Int32)))), .val (.int (1 : Int32)), .unset, .unset, .unset] [(.int (z35_5 + (((p2.toUInt32 >>> ((2 : Int32) &&& 31).toUInt32).toInt32) &&& (7 : Int32)))), (.int (F1 (z35_5 + (((p2.toUInt32 >>> ((2 : Int32) &&& 31).toUInt32).toInt32) &&& (7 : Int32)))))])) rfl (by rw [hml]; rfl) (argsL := [(.int (z35_5 + (((p2.toUInt32 >>> ((2 : Int32) &&& 31).toUInt32).toInt32) &&& (7 : Int32))))]) (rest := [(.int (F1 (z35_5 + (((p2.toUInt32 >>> ((2 : Int32) &&& 31).toUInt32).toInt32) &&& (7 : Int32)))))]) (lenOf pd_0_0 rfl) rfl (by show 2 * 0 + _ ≤ _; exact Nat.le_of_eq rfl) (hb hby at_83) (fun _ _ => ⟨rfl, e13, (by decide : 0 + 0 ≤ _), (by decide : 0 + 0 ≤ _)⟩)
  dsimp only [Pt.U, Pt.locs, Pt.cells, Pt.slots] at X15 l15 y15 z15 st15 hQ15
  subst l15 y15 z15
  obtain ⟨rfl, N15q, e15⟩ := hQ15
  have N15 := Fr.app N13 N15q
  refine OwnG.st (fun t k => st15 t k) ?_
  show OwnG p e below s _ _ _ T15 (mkF m 86 #[.val (.int p1), .val (.int p2), .val (.int (p2 &&& (3 : Int32))), .val (.int z35_5), .val (.int (z35_5 + (((p2.toUInt32 >>> ((2 : Int32) &&& 31).toUInt32).toInt32) &&& (7 : Int32)))), .val (.int ((65536 : Int32) + ((p1 &&& (2147483647 : Int32)) - ((p1 &&& (2147483647 : Int32)) / (1048576 : Int32)) * (1048576 : Int32)))), .val (.int (1 : Int32)), .unset, .unset, .unset] [(.int (F2 (z35_5 + (((p2.toUInt32 >>> ((2 : Int32) &&& 31).toUInt32).toInt32) &&& (7 : Int32))))), (.int (F1 (z35_5 + (((p2.toUInt32 >>> ((2 : Int32) &&& 31).toUInt32).toInt32) &&& (7 : Int32)))))])
  have hc86_16 : (F1 (z35_5 + (((p2.toUInt32 >>> ((2 : Int32) &&& 31).toUInt32).toInt32) &&& (7 : Int32)))) = (F2 (z35_5 + (((p2.toUInt32 >>> ((2 : Int32) &&& 31).toUInt32).toInt32) &&& (7 : Int32)))) := own_ref _
  have sg17 : ∀ t, Steps p.tables e below (T15.setTop (mkF m 98 #[.val (.int p1), .val (.int p2), .val (.int (p2 &&& (3 : Int32))), .val (.int z35_5), .val (.int (z35_5 + (((p2.toUInt32 >>> ((2 : Int32) &&& 31).toUInt32).toInt32) &&& (7 : Int32)))), .val (.int ((65536 : Int32) + ((p1 &&& (2147483647 : Int32)) - ((p1 &&& (2147483647 : Int32)) / (1048576 : Int32)) * (1048576 : Int32)))), .val (.int (1 : Int32)), .val (.int (1 : Int32)), .unset, .unset] [(.int ((65536 : Int32) + ((p1 &&& (2147483647 : Int32)) - ((p1 &&& (2147483647 : Int32)) / (1048576 : Int32)) * (1048576 : Int32))))])) t → Steps p.tables e below (T15.setTop (mkF m 86 #[.val (.int p1), .val (.int p2), .val (.int (p2 &&& (3 : Int32))), .val (.int z35_5), .val (.int (z35_5 + (((p2.toUInt32 >>> ((2 : Int32) &&& 31).toUInt32).toInt32) &&& (7 : Int32)))), .val (.int ((65536 : Int32) + ((p1 &&& (2147483647 : Int32)) - ((p1 &&& (2147483647 : Int32)) / (1048576 : Int32)) * (1048576 : Int32)))), .val (.int (1 : Int32)), .unset, .unset, .unset] [(.int (F2 (z35_5 + (((p2.toUInt32 >>> ((2 : Int32) &&& 31).toUInt32).toInt32) &&& (7 : Int32))))), (.int (F1 (z35_5 + (((p2.toUInt32 >>> ((2 : Int32) &&& 31).toUInt32).toInt32) &&& (7 : Int32)))))])) t := by
    intro t k
    refine XS.icmpNo X15.here hx rfl (hb hby at_86) rfl (teq hc86_16).2 ?_
    show Steps p.tables e below (T15.setTop (mkF m 89 #[.val (.int p1), .val (.int p2), .val (.int (p2 &&& (3 : Int32))), .val (.int z35_5), .val (.int (z35_5 + (((p2.toUInt32 >>> ((2 : Int32) &&& 31).toUInt32).toInt32) &&& (7 : Int32)))), .val (.int ((65536 : Int32) + ((p1 &&& (2147483647 : Int32)) - ((p1 &&& (2147483647 : Int32)) / (1048576 : Int32)) * (1048576 : Int32)))), .val (.int (1 : Int32)), .unset, .unset, .unset] [])) _
    refine XS.iconst X15.here hx rfl (hb hby at_89) ?_
    show Steps p.tables e below (T15.setTop (mkF m 90 #[.val (.int p1), .val (.int p2), .val (.int (p2 &&& (3 : Int32))), .val (.int z35_5), .val (.int (z35_5 + (((p2.toUInt32 >>> ((2 : Int32) &&& 31).toUInt32).toInt32) &&& (7 : Int32)))), .val (.int ((65536 : Int32) + ((p1 &&& (2147483647 : Int32)) - ((p1 &&& (2147483647 : Int32)) / (1048576 : Int32)) * (1048576 : Int32)))), .val (.int (1 : Int32)), .unset, .unset, .unset] [(.int (1 : Int32))])) _
    refine XS.goto X15.here hx rfl (pc0 := 90) (pc' := 94) rfl (hb hby at_90) (by decide) (by decide) ?_
    show Steps p.tables e below (T15.setTop (mkF m 94 #[.val (.int p1), .val (.int p2), .val (.int (p2 &&& (3 : Int32))), .val (.int z35_5), .val (.int (z35_5 + (((p2.toUInt32 >>> ((2 : Int32) &&& 31).toUInt32).toInt32) &&& (7 : Int32)))), .val (.int ((65536 : Int32) + ((p1 &&& (2147483647 : Int32)) - ((p1 &&& (2147483647 : Int32)) / (1048576 : Int32)) * (1048576 : Int32)))), .val (.int (1 : Int32)), .unset, .unset, .unset] [(.int (1 : Int32))])) _
    refine XS.istore X15.here hx rfl (hb hby at_94) rfl (l' := #[.val (.int p1), .val (.int p2), .val (.int (p2 &&& (3 : Int32))), .val (.int z35_5), .val (.int (z35_5 + (((p2.toUInt32 >>> ((2 : Int32) &&& 31).toUInt32).toInt32) &&& (7 : Int32)))), .val (.int ((65536 : Int32) + ((p1 &&& (2147483647 : Int32)) - ((p1 &&& (2147483647 : Int32)) / (1048576 : Int32)) * (1048576 : Int32)))), .val (.int (1 : Int32)), .val (.int (1 : Int32)), .unset, .unset]) rfl ?_
    show Steps p.tables e below (T15.setTop (mkF m 96 #[.val (.int p1), .val (.int p2), .val (.int (p2 &&& (3 : Int32))), .val (.int z35_5), .val (.int (z35_5 + (((p2.toUInt32 >>> ((2 : Int32) &&& 31).toUInt32).toInt32) &&& (7 : Int32)))), .val (.int ((65536 : Int32) + ((p1 &&& (2147483647 : Int32)) - ((p1 &&& (2147483647 : Int32)) / (1048576 : Int32)) * (1048576 : Int32)))), .val (.int (1 : Int32)), .val (.int (1 : Int32)), .unset, .unset] [])) _
    refine XS.iload X15.here hx rfl (hb hby at_96) rfl ?_
    show Steps p.tables e below (T15.setTop (mkF m 98 #[.val (.int p1), .val (.int p2), .val (.int (p2 &&& (3 : Int32))), .val (.int z35_5), .val (.int (z35_5 + (((p2.toUInt32 >>> ((2 : Int32) &&& 31).toUInt32).toInt32) &&& (7 : Int32)))), .val (.int ((65536 : Int32) + ((p1 &&& (2147483647 : Int32)) - ((p1 &&& (2147483647 : Int32)) / (1048576 : Int32)) * (1048576 : Int32)))), .val (.int (1 : Int32)), .val (.int (1 : Int32)), .unset, .unset] [(.int ((65536 : Int32) + ((p1 &&& (2147483647 : Int32)) - ((p1 &&& (2147483647 : Int32)) / (1048576 : Int32)) * (1048576 : Int32))))])) _
    exact k
  refine OwnG.st sg17 ?_
  obtain ⟨_, _, ⟨T18, L18, k18, n18⟩, -, X18, ⟨Lc18, hQ18, l18, y18, z18⟩, st18⟩ := Jvm.LawKit.callS X15 hx (y := (⟨"com/example/units_to_scalars/unitstoscalars/Utf16", "highSurrogate", "(I)I"⟩ : MethodName)) hown (mvT hZ (hw _ (List.mem_of_getElem? (i := 13) rfl))) (mvT hZ (hw _ (List.mem_of_getElem? (i := 14) rfl))) (mvT hZ (hw _ (List.mem_of_getElem? (i := 5) rfl))) (mvT hZ (hw _ (List.mem_of_getElem? (i := 15) rfl))) (by decide) (backOf (W := 0) (rm3 l Z a0 hw [] ((65536 : Int32) + ((p1 &&& (2147483647 : Int32)) - ((p1 &&& (2147483647 : Int32)) / (1048576 : Int32)) * (1048576 : Int32)))  h0 n0 Z0 ) hZ (hw _ (List.mem_of_getElem? (i := 15) rfl)) (hw _ (List.mem_of_getElem? (i := 5) rfl)) (by decide) (by decide)) (g := (mkF m 98 #[.val (.int p1), .val (.int p2), .val (.int (p2 &&& (3 : Int32))), .val (.int z35_5), .val (.int (z35_5 + (((p2.toUInt32 >>> ((2 : Int32) &&& 31).toUInt32).toInt32) &&& (7 : Int32)))), .val (.int ((65536 : Int32) + ((p1 &&& (2147483647 : Int32)) - ((p1 &&& (2147483647 : Int32)) / (1048576 : Int32)) * (1048576 : Int32)))), .val (.int (1 : Int32)), .val (.int (1 : Int32)), .unset, .unset] [(.int ((65536 : Int32) + ((p1 &&& (2147483647 : Int32)) - ((p1 &&& (2147483647 : Int32)) / (1048576 : Int32)) * (1048576 : Int32))))])) rfl (by rw [hml]; rfl) (argsL := [(.int ((65536 : Int32) + ((p1 &&& (2147483647 : Int32)) - ((p1 &&& (2147483647 : Int32)) / (1048576 : Int32)) * (1048576 : Int32))))]) (rest := []) (lenOf pd_0_1 rfl) rfl (by show 2 * 0 + _ ≤ _; exact Nat.le_of_eq rfl) (hb hby at_98) (fun _ _ => ⟨rfl, e15, (by decide : 0 + 0 ≤ _), (by decide : 0 + 0 ≤ _)⟩)
  dsimp only [Pt.U, Pt.locs, Pt.cells, Pt.slots] at X18 l18 y18 z18 st18 hQ18
  subst l18 y18 z18
  obtain ⟨rfl, N18q, e18⟩ := hQ18
  have N18 := Fr.app N15 N18q
  refine OwnG.st (fun t k => st18 t k) ?_
  show OwnG p e below s _ _ _ T18 (mkF m 101 #[.val (.int p1), .val (.int p2), .val (.int (p2 &&& (3 : Int32))), .val (.int z35_5), .val (.int (z35_5 + (((p2.toUInt32 >>> ((2 : Int32) &&& 31).toUInt32).toInt32) &&& (7 : Int32)))), .val (.int ((65536 : Int32) + ((p1 &&& (2147483647 : Int32)) - ((p1 &&& (2147483647 : Int32)) / (1048576 : Int32)) * (1048576 : Int32)))), .val (.int (1 : Int32)), .val (.int (1 : Int32)), .unset, .unset] [(.int (F3 ((65536 : Int32) + ((p1 &&& (2147483647 : Int32)) - ((p1 &&& (2147483647 : Int32)) / (1048576 : Int32)) * (1048576 : Int32)))))])
  obtain ⟨_, _, ⟨T19, L19, k19, n19⟩, -, X19, ⟨Lc19, hQ19, l19, y19, z19⟩, st19⟩ := Jvm.LawKit.callS X18 hx (y := (⟨"com/example/units_to_scalars/unitstoscalars/Utf16", "isHighSurrogate", "(I)Z"⟩ : MethodName)) hown (mvT hZ (hw _ (List.mem_of_getElem? (i := 3) rfl))) (mvT hZ (hw _ (List.mem_of_getElem? (i := 4) rfl))) (mvT hZ (hw _ (List.mem_of_getElem? (i := 5) rfl))) (mvT hZ (hw _ (List.mem_of_getElem? (i := 6) rfl))) (by decide) (backOf (W := 0) (rm1 l Z a0 hw [] (F3 ((65536 : Int32) + ((p1 &&& (2147483647 : Int32)) - ((p1 &&& (2147483647 : Int32)) / (1048576 : Int32)) * (1048576 : Int32))))  h0 n0 Z0 ) hZ (hw _ (List.mem_of_getElem? (i := 6) rfl)) (hw _ (List.mem_of_getElem? (i := 5) rfl)) (by decide) (by decide)) (g := (mkF m 101 #[.val (.int p1), .val (.int p2), .val (.int (p2 &&& (3 : Int32))), .val (.int z35_5), .val (.int (z35_5 + (((p2.toUInt32 >>> ((2 : Int32) &&& 31).toUInt32).toInt32) &&& (7 : Int32)))), .val (.int ((65536 : Int32) + ((p1 &&& (2147483647 : Int32)) - ((p1 &&& (2147483647 : Int32)) / (1048576 : Int32)) * (1048576 : Int32)))), .val (.int (1 : Int32)), .val (.int (1 : Int32)), .unset, .unset] [(.int (F3 ((65536 : Int32) + ((p1 &&& (2147483647 : Int32)) - ((p1 &&& (2147483647 : Int32)) / (1048576 : Int32)) * (1048576 : Int32)))))])) rfl (by rw [hml]; rfl) (argsL := [(.int (F3 ((65536 : Int32) + ((p1 &&& (2147483647 : Int32)) - ((p1 &&& (2147483647 : Int32)) / (1048576 : Int32)) * (1048576 : Int32)))))]) (rest := []) (lenOf pd_0_0 rfl) rfl (by show 2 * 0 + _ ≤ _; exact Nat.le_of_eq rfl) (hb hby at_101) (fun _ _ => ⟨rfl, e18, (by decide : 0 + 0 ≤ _), (by decide : 0 + 0 ≤ _)⟩)
  dsimp only [Pt.U, Pt.locs, Pt.cells, Pt.slots] at X19 l19 y19 z19 st19 hQ19
  subst l19 y19 z19
  obtain ⟨rfl, N19q, e19⟩ := hQ19
  have N19 := Fr.app N18 N19q
  refine OwnG.st (fun t k => st19 t k) ?_
  show OwnG p e below s _ _ _ T19 (mkF m 104 #[.val (.int p1), .val (.int p2), .val (.int (p2 &&& (3 : Int32))), .val (.int z35_5), .val (.int (z35_5 + (((p2.toUInt32 >>> ((2 : Int32) &&& 31).toUInt32).toInt32) &&& (7 : Int32)))), .val (.int ((65536 : Int32) + ((p1 &&& (2147483647 : Int32)) - ((p1 &&& (2147483647 : Int32)) / (1048576 : Int32)) * (1048576 : Int32)))), .val (.int (1 : Int32)), .val (.int (1 : Int32)), .unset, .unset] [(.int (F1 (F3 ((65536 : Int32) + ((p1 &&& (2147483647 : Int32)) - ((p1 &&& (2147483647 : Int32)) / (1048576 : Int32)) * (1048576 : Int32))))))])
  have sg20 : ∀ t, Steps p.tables e below (T19.setTop (mkF m 108 #[.val (.int p1), .val (.int p2), .val (.int (p2 &&& (3 : Int32))), .val (.int z35_5), .val (.int (z35_5 + (((p2.toUInt32 >>> ((2 : Int32) &&& 31).toUInt32).toInt32) &&& (7 : Int32)))), .val (.int ((65536 : Int32) + ((p1 &&& (2147483647 : Int32)) - ((p1 &&& (2147483647 : Int32)) / (1048576 : Int32)) * (1048576 : Int32)))), .val (.int (1 : Int32)), .val (.int (1 : Int32)), .val (.int (F1 (F3 ((65536 : Int32) + ((p1 &&& (2147483647 : Int32)) - ((p1 &&& (2147483647 : Int32)) / (1048576 : Int32)) * (1048576 : Int32)))))), .unset] [(.int ((65536 : Int32) + ((p1 &&& (2147483647 : Int32)) - ((p1 &&& (2147483647 : Int32)) / (1048576 : Int32)) * (1048576 : Int32))))])) t → Steps p.tables e below (T19.setTop (mkF m 104 #[.val (.int p1), .val (.int p2), .val (.int (p2 &&& (3 : Int32))), .val (.int z35_5), .val (.int (z35_5 + (((p2.toUInt32 >>> ((2 : Int32) &&& 31).toUInt32).toInt32) &&& (7 : Int32)))), .val (.int ((65536 : Int32) + ((p1 &&& (2147483647 : Int32)) - ((p1 &&& (2147483647 : Int32)) / (1048576 : Int32)) * (1048576 : Int32)))), .val (.int (1 : Int32)), .val (.int (1 : Int32)), .unset, .unset] [(.int (F1 (F3 ((65536 : Int32) + ((p1 &&& (2147483647 : Int32)) - ((p1 &&& (2147483647 : Int32)) / (1048576 : Int32)) * (1048576 : Int32))))))])) t := by
    intro t k
    refine XS.istore X19.here hx rfl (hb hby at_104) rfl (l' := #[.val (.int p1), .val (.int p2), .val (.int (p2 &&& (3 : Int32))), .val (.int z35_5), .val (.int (z35_5 + (((p2.toUInt32 >>> ((2 : Int32) &&& 31).toUInt32).toInt32) &&& (7 : Int32)))), .val (.int ((65536 : Int32) + ((p1 &&& (2147483647 : Int32)) - ((p1 &&& (2147483647 : Int32)) / (1048576 : Int32)) * (1048576 : Int32)))), .val (.int (1 : Int32)), .val (.int (1 : Int32)), .val (.int (F1 (F3 ((65536 : Int32) + ((p1 &&& (2147483647 : Int32)) - ((p1 &&& (2147483647 : Int32)) / (1048576 : Int32)) * (1048576 : Int32)))))), .unset]) rfl ?_
    show Steps p.tables e below (T19.setTop (mkF m 106 #[.val (.int p1), .val (.int p2), .val (.int (p2 &&& (3 : Int32))), .val (.int z35_5), .val (.int (z35_5 + (((p2.toUInt32 >>> ((2 : Int32) &&& 31).toUInt32).toInt32) &&& (7 : Int32)))), .val (.int ((65536 : Int32) + ((p1 &&& (2147483647 : Int32)) - ((p1 &&& (2147483647 : Int32)) / (1048576 : Int32)) * (1048576 : Int32)))), .val (.int (1 : Int32)), .val (.int (1 : Int32)), .val (.int (F1 (F3 ((65536 : Int32) + ((p1 &&& (2147483647 : Int32)) - ((p1 &&& (2147483647 : Int32)) / (1048576 : Int32)) * (1048576 : Int32)))))), .unset] [])) _
    refine XS.iload X19.here hx rfl (hb hby at_106) rfl ?_
    show Steps p.tables e below (T19.setTop (mkF m 108 #[.val (.int p1), .val (.int p2), .val (.int (p2 &&& (3 : Int32))), .val (.int z35_5), .val (.int (z35_5 + (((p2.toUInt32 >>> ((2 : Int32) &&& 31).toUInt32).toInt32) &&& (7 : Int32)))), .val (.int ((65536 : Int32) + ((p1 &&& (2147483647 : Int32)) - ((p1 &&& (2147483647 : Int32)) / (1048576 : Int32)) * (1048576 : Int32)))), .val (.int (1 : Int32)), .val (.int (1 : Int32)), .val (.int (F1 (F3 ((65536 : Int32) + ((p1 &&& (2147483647 : Int32)) - ((p1 &&& (2147483647 : Int32)) / (1048576 : Int32)) * (1048576 : Int32)))))), .unset] [(.int ((65536 : Int32) + ((p1 &&& (2147483647 : Int32)) - ((p1 &&& (2147483647 : Int32)) / (1048576 : Int32)) * (1048576 : Int32))))])) _
    exact k
  refine OwnG.st sg20 ?_
  obtain ⟨_, _, ⟨T21, L21, k21, n21⟩, -, X21, ⟨Lc21, hQ21, l21, y21, z21⟩, st21⟩ := Jvm.LawKit.callS X19 hx (y := (⟨"com/example/units_to_scalars/unitstoscalars/Utf16", "lowSurrogate", "(I)I"⟩ : MethodName)) hown (mvT hZ (hw _ (List.mem_of_getElem? (i := 18) rfl))) (mvT hZ (hw _ (List.mem_of_getElem? (i := 19) rfl))) (mvT hZ (hw _ (List.mem_of_getElem? (i := 5) rfl))) (mvT hZ (hw _ (List.mem_of_getElem? (i := 20) rfl))) (by decide) (backOf (W := 0) (rm4 l Z a0 hw [] ((65536 : Int32) + ((p1 &&& (2147483647 : Int32)) - ((p1 &&& (2147483647 : Int32)) / (1048576 : Int32)) * (1048576 : Int32)))  h0 n0 Z0 ) hZ (hw _ (List.mem_of_getElem? (i := 20) rfl)) (hw _ (List.mem_of_getElem? (i := 5) rfl)) (by decide) (by decide)) (g := (mkF m 108 #[.val (.int p1), .val (.int p2), .val (.int (p2 &&& (3 : Int32))), .val (.int z35_5), .val (.int (z35_5 + (((p2.toUInt32 >>> ((2 : Int32) &&& 31).toUInt32).toInt32) &&& (7 : Int32)))), .val (.int ((65536 : Int32) + ((p1 &&& (2147483647 : Int32)) - ((p1 &&& (2147483647 : Int32)) / (1048576 : Int32)) * (1048576 : Int32)))), .val (.int (1 : Int32)), .val (.int (1 : Int32)), .val (.int (F1 (F3 ((65536 : Int32) + ((p1 &&& (2147483647 : Int32)) - ((p1 &&& (2147483647 : Int32)) / (1048576 : Int32)) * (1048576 : Int32)))))), .unset] [(.int ((65536 : Int32) + ((p1 &&& (2147483647 : Int32)) - ((p1 &&& (2147483647 : Int32)) / (1048576 : Int32)) * (1048576 : Int32))))])) rfl (by rw [hml]; rfl) (argsL := [(.int ((65536 : Int32) + ((p1 &&& (2147483647 : Int32)) - ((p1 &&& (2147483647 : Int32)) / (1048576 : Int32)) * (1048576 : Int32))))]) (rest := []) (lenOf pd_0_1 rfl) rfl (by show 2 * 0 + _ ≤ _; exact Nat.le_of_eq rfl) (hb hby at_108) (fun _ _ => ⟨rfl, e19, (by decide : 0 + 0 ≤ _), (by decide : 0 + 0 ≤ _)⟩)
  dsimp only [Pt.U, Pt.locs, Pt.cells, Pt.slots] at X21 l21 y21 z21 st21 hQ21
  subst l21 y21 z21
  obtain ⟨rfl, N21q, e21⟩ := hQ21
  have N21 := Fr.app N19 N21q
  refine OwnG.st (fun t k => st21 t k) ?_
  show OwnG p e below s _ _ _ T21 (mkF m 111 #[.val (.int p1), .val (.int p2), .val (.int (p2 &&& (3 : Int32))), .val (.int z35_5), .val (.int (z35_5 + (((p2.toUInt32 >>> ((2 : Int32) &&& 31).toUInt32).toInt32) &&& (7 : Int32)))), .val (.int ((65536 : Int32) + ((p1 &&& (2147483647 : Int32)) - ((p1 &&& (2147483647 : Int32)) / (1048576 : Int32)) * (1048576 : Int32)))), .val (.int (1 : Int32)), .val (.int (1 : Int32)), .val (.int (F1 (F3 ((65536 : Int32) + ((p1 &&& (2147483647 : Int32)) - ((p1 &&& (2147483647 : Int32)) / (1048576 : Int32)) * (1048576 : Int32)))))), .unset] [(.int (F4 ((65536 : Int32) + ((p1 &&& (2147483647 : Int32)) - ((p1 &&& (2147483647 : Int32)) / (1048576 : Int32)) * (1048576 : Int32)))))])
  obtain ⟨_, _, ⟨T22, L22, k22, n22⟩, -, X22, ⟨Lc22, hQ22, l22, y22, z22⟩, st22⟩ := Jvm.LawKit.callS X21 hx (y := (⟨"com/example/units_to_scalars/unitstoscalars/Utf16", "isHighSurrogate", "(I)Z"⟩ : MethodName)) hown (mvT hZ (hw _ (List.mem_of_getElem? (i := 3) rfl))) (mvT hZ (hw _ (List.mem_of_getElem? (i := 4) rfl))) (mvT hZ (hw _ (List.mem_of_getElem? (i := 5) rfl))) (mvT hZ (hw _ (List.mem_of_getElem? (i := 6) rfl))) (by decide) (backOf (W := 0) (rm1 l Z a0 hw [] (F4 ((65536 : Int32) + ((p1 &&& (2147483647 : Int32)) - ((p1 &&& (2147483647 : Int32)) / (1048576 : Int32)) * (1048576 : Int32))))  h0 n0 Z0 ) hZ (hw _ (List.mem_of_getElem? (i := 6) rfl)) (hw _ (List.mem_of_getElem? (i := 5) rfl)) (by decide) (by decide)) (g := (mkF m 111 #[.val (.int p1), .val (.int p2), .val (.int (p2 &&& (3 : Int32))), .val (.int z35_5), .val (.int (z35_5 + (((p2.toUInt32 >>> ((2 : Int32) &&& 31).toUInt32).toInt32) &&& (7 : Int32)))), .val (.int ((65536 : Int32) + ((p1 &&& (2147483647 : Int32)) - ((p1 &&& (2147483647 : Int32)) / (1048576 : Int32)) * (1048576 : Int32)))), .val (.int (1 : Int32)), .val (.int (1 : Int32)), .val (.int (F1 (F3 ((65536 : Int32) + ((p1 &&& (2147483647 : Int32)) - ((p1 &&& (2147483647 : Int32)) / (1048576 : Int32)) * (1048576 : Int32)))))), .unset] [(.int (F4 ((65536 : Int32) + ((p1 &&& (2147483647 : Int32)) - ((p1 &&& (2147483647 : Int32)) / (1048576 : Int32)) * (1048576 : Int32)))))])) rfl (by rw [hml]; rfl) (argsL := [(.int (F4 ((65536 : Int32) + ((p1 &&& (2147483647 : Int32)) - ((p1 &&& (2147483647 : Int32)) / (1048576 : Int32)) * (1048576 : Int32)))))]) (rest := []) (lenOf pd_0_0 rfl) rfl (by show 2 * 0 + _ ≤ _; exact Nat.le_of_eq rfl) (hb hby at_111) (fun _ _ => ⟨rfl, e21, (by decide : 0 + 0 ≤ _), (by decide : 0 + 0 ≤ _)⟩)
  dsimp only [Pt.U, Pt.locs, Pt.cells, Pt.slots] at X22 l22 y22 z22 st22 hQ22
  subst l22 y22 z22
  obtain ⟨rfl, N22q, e22⟩ := hQ22
  have N22 := Fr.app N21 N22q
  refine OwnG.st (fun t k => st22 t k) ?_
  show OwnG p e below s _ _ _ T22 (mkF m 114 #[.val (.int p1), .val (.int p2), .val (.int (p2 &&& (3 : Int32))), .val (.int z35_5), .val (.int (z35_5 + (((p2.toUInt32 >>> ((2 : Int32) &&& 31).toUInt32).toInt32) &&& (7 : Int32)))), .val (.int ((65536 : Int32) + ((p1 &&& (2147483647 : Int32)) - ((p1 &&& (2147483647 : Int32)) / (1048576 : Int32)) * (1048576 : Int32)))), .val (.int (1 : Int32)), .val (.int (1 : Int32)), .val (.int (F1 (F3 ((65536 : Int32) + ((p1 &&& (2147483647 : Int32)) - ((p1 &&& (2147483647 : Int32)) / (1048576 : Int32)) * (1048576 : Int32)))))), .unset] [(.int (F1 (F4 ((65536 : Int32) + ((p1 &&& (2147483647 : Int32)) - ((p1 &&& (2147483647 : Int32)) / (1048576 : Int32)) * (1048576 : Int32))))))])
  have hc114_23 : (F1 (F4 ((65536 : Int32) + ((p1 &&& (2147483647 : Int32)) - ((p1 &&& (2147483647 : Int32)) / (1048576 : Int32)) * (1048576 : Int32))))) = (0 : Int32) := own_l _
  have hc126_24 : ¬ ((1 : Int32) = (0 : Int32)) := by decide
  have hc131_25 : ¬ ((1 : Int32) = (0 : Int32)) := by decide
  have hc136_26 : ¬ ((F1 (F3 ((65536 : Int32) + ((p1 &&& (2147483647 : Int32)) - ((p1 &&& (2147483647 : Int32)) / (1048576 : Int32)) * (1048576 : Int32))))) = (0 : Int32)) := own_h _ (own_v _)
  have hc141_27 : ¬ ((1 : Int32) = (0 : Int32)) := by decide
  have sg28 : ∀ t, Steps p.tables e below (T22.setTop (mkF m 149 #[.val (.int p1), .val (.int p2), .val (.int (p2 &&& (3 : Int32))), .val (.int z35_5), .val (.int (z35_5 + (((p2.toUInt32 >>> ((2 : Int32) &&& 31).toUInt32).toInt32) &&& (7 : Int32)))), .val (.int ((65536 : Int32) + ((p1 &&& (2147483647 : Int32)) - ((p1 &&& (2147483647 : Int32)) / (1048576 : Int32)) * (1048576 : Int32)))), .val (.int (1 : Int32)), .val (.int (1 : Int32)), .val (.int (F1 (F3 ((65536 : Int32) + ((p1 &&& (2147483647 : Int32)) - ((p1 &&& (2147483647 : Int32)) / (1048576 : Int32)) * (1048576 : Int32)))))), .val (.int (1 : Int32))] [(.int (1 : Int32))])) t → Steps p.tables e below (T22.setTop (mkF m 114 #[.val (.int p1), .val (.int p2), .val (.int (p2 &&& (3 : Int32))), .val (.int z35_5), .val (.int (z35_5 + (((p2.toUInt32 >>> ((2 : Int32) &&& 31).toUInt32).toInt32) &&& (7 : Int32)))), .val (.int ((65536 : Int32) + ((p1 &&& (2147483647 : Int32)) - ((p1 &&& (2147483647 : Int32)) / (1048576 : Int32)) * (1048576 : Int32)))), .val (.int (1 : Int32)), .val (.int (1 : Int32)), .val (.int (F1 (F3 ((65536 : Int32) + ((p1 &&& (2147483647 : Int32)) - ((p1 &&& (2147483647 : Int32)) / (1048576 : Int32)) * (1048576 : Int32)))))), .unset] [(.int (F1 (F4 ((65536 : Int32) + ((p1 &&& (2147483647 : Int32)) - ((p1 &&& (2147483647 : Int32)) / (1048576 : Int32)) * (1048576 : Int32))))))])) t := by
    intro t k
    refine XS.ifNo X22.here hx rfl (hb hby at_114) rfl ((if0 _ _).trans (teq hc114_23).2) ?_
    show Steps p.tables e below (T22.setTop (mkF m 117 #[.val (.int p1), .val (.int p2), .val (.int (p2 &&& (3 : Int32))), .val (.int z35_5), .val (.int (z35_5 + (((p2.toUInt32 >>> ((2 : Int32) &&& 31).toUInt32).toInt32) &&& (7 : Int32)))), .val (.int ((65536 : Int32) + ((p1 &&& (2147483647 : Int32)) - ((p1 &&& (2147483647 : Int32)) / (1048576 : Int32)) * (1048576 : Int32)))), .val (.int (1 : Int32)), .val (.int (1 : Int32)), .val (.int (F1 (F3 ((65536 : Int32) + ((p1 &&& (2147483647 : Int32)) - ((p1 &&& (2147483647 : Int32)) / (1048576 : Int32)) * (1048576 : Int32)))))), .unset] [])) _
    refine XS.iconst X22.here hx rfl (hb hby at_117) ?_
    show Steps p.tables e below (T22.setTop (mkF m 118 #[.val (.int p1), .val (.int p2), .val (.int (p2 &&& (3 : Int32))), .val (.int z35_5), .val (.int (z35_5 + (((p2.toUInt32 >>> ((2 : Int32) &&& 31).toUInt32).toInt32) &&& (7 : Int32)))), .val (.int ((65536 : Int32) + ((p1 &&& (2147483647 : Int32)) - ((p1 &&& (2147483647 : Int32)) / (1048576 : Int32)) * (1048576 : Int32)))), .val (.int (1 : Int32)), .val (.int (1 : Int32)), .val (.int (F1 (F3 ((65536 : Int32) + ((p1 &&& (2147483647 : Int32)) - ((p1 &&& (2147483647 : Int32)) / (1048576 : Int32)) * (1048576 : Int32)))))), .unset] [(.int (1 : Int32))])) _
    refine XS.goto X22.here hx rfl (pc0 := 118) (pc' := 122) rfl (hb hby at_118) (by decide) (by decide) ?_
    show Steps p.tables e below (T22.setTop (mkF m 122 #[.val (.int p1), .val (.int p2), .val (.int (p2 &&& (3 : Int32))), .val (.int z35_5), .val (.int (z35_5 + (((p2.toUInt32 >>> ((2 : Int32) &&& 31).toUInt32).toInt32) &&& (7 : Int32)))), .val (.int ((65536 : Int32) + ((p1 &&& (2147483647 : Int32)) - ((p1 &&& (2147483647 : Int32)) / (1048576 : Int32)) * (1048576 : Int32)))), .val (.int (1 : Int32)), .val (.int (1 : Int32)), .val (.int (F1 (F3 ((65536 : Int32) + ((p1 &&& (2147483647 : Int32)) - ((p1 &&& (2147483647 : Int32)) / (1048576 : Int32)) * (1048576 : Int32)))))), .unset] [(.int (1 : Int32))])) _
    refine XS.istore X22.here hx rfl (hb hby at_122) rfl (l' := #[.val (.int p1), .val (.int p2), .val (.int (p2 &&& (3 : Int32))), .val (.int z35_5), .val (.int (z35_5 + (((p2.toUInt32 >>> ((2 : Int32) &&& 31).toUInt32).toInt32) &&& (7 : Int32)))), .val (.int ((65536 : Int32) + ((p1 &&& (2147483647 : Int32)) - ((p1 &&& (2147483647 : Int32)) / (1048576 : Int32)) * (1048576 : Int32)))), .val (.int (1 : Int32)), .val (.int (1 : Int32)), .val (.int (F1 (F3 ((65536 : Int32) + ((p1 &&& (2147483647 : Int32)) - ((p1 &&& (2147483647 : Int32)) / (1048576 : Int32)) * (1048576 : Int32)))))), .val (.int (1 : Int32))]) rfl ?_
    show Steps p.tables e below (T22.setTop (mkF m 124 #[.val (.int p1), .val (.int p2), .val (.int (p2 &&& (3 : Int32))), .val (.int z35_5), .val (.int (z35_5 + (((p2.toUInt32 >>> ((2 : Int32) &&& 31).toUInt32).toInt32) &&& (7 : Int32)))), .val (.int ((65536 : Int32) + ((p1 &&& (2147483647 : Int32)) - ((p1 &&& (2147483647 : Int32)) / (1048576 : Int32)) * (1048576 : Int32)))), .val (.int (1 : Int32)), .val (.int (1 : Int32)), .val (.int (F1 (F3 ((65536 : Int32) + ((p1 &&& (2147483647 : Int32)) - ((p1 &&& (2147483647 : Int32)) / (1048576 : Int32)) * (1048576 : Int32)))))), .val (.int (1 : Int32))] [])) _
    refine XS.iload X22.here hx rfl (hb hby at_124) rfl ?_
    show Steps p.tables e below (T22.setTop (mkF m 126 #[.val (.int p1), .val (.int p2), .val (.int (p2 &&& (3 : Int32))), .val (.int z35_5), .val (.int (z35_5 + (((p2.toUInt32 >>> ((2 : Int32) &&& 31).toUInt32).toInt32) &&& (7 : Int32)))), .val (.int ((65536 : Int32) + ((p1 &&& (2147483647 : Int32)) - ((p1 &&& (2147483647 : Int32)) / (1048576 : Int32)) * (1048576 : Int32)))), .val (.int (1 : Int32)), .val (.int (1 : Int32)), .val (.int (F1 (F3 ((65536 : Int32) + ((p1 &&& (2147483647 : Int32)) - ((p1 &&& (2147483647 : Int32)) / (1048576 : Int32)) * (1048576 : Int32)))))), .val (.int (1 : Int32))] [(.int (1 : Int32))])) _
    refine XS.ifNo X22.here hx rfl (hb hby at_126) rfl ((if0 _ _).trans (feq hc126_24).1) ?_
    show Steps p.tables e below (T22.setTop (mkF m 129 #[.val (.int p1), .val (.int p2), .val (.int (p2 &&& (3 : Int32))), .val (.int z35_5), .val (.int (z35_5 + (((p2.toUInt32 >>> ((2 : Int32) &&& 31).toUInt32).toInt32) &&& (7 : Int32)))), .val (.int ((65536 : Int32) + ((p1 &&& (2147483647 : Int32)) - ((p1 &&& (2147483647 : Int32)) / (1048576 : Int32)) * (1048576 : Int32)))), .val (.int (1 : Int32)), .val (.int (1 : Int32)), .val (.int (F1 (F3 ((65536 : Int32) + ((p1 &&& (2147483647 : Int32)) - ((p1 &&& (2147483647 : Int32)) / (1048576 : Int32)) * (1048576 : Int32)))))), .val (.int (1 : Int32))] [])) _
    refine XS.iload X22.here hx rfl (hb hby at_129) rfl ?_
    show Steps p.tables e below (T22.setTop (mkF m 131 #[.val (.int p1), .val (.int p2), .val (.int (p2 &&& (3 : Int32))), .val (.int z35_5), .val (.int (z35_5 + (((p2.toUInt32 >>> ((2 : Int32) &&& 31).toUInt32).toInt32) &&& (7 : Int32)))), .val (.int ((65536 : Int32) + ((p1 &&& (2147483647 : Int32)) - ((p1 &&& (2147483647 : Int32)) / (1048576 : Int32)) * (1048576 : Int32)))), .val (.int (1 : Int32)), .val (.int (1 : Int32)), .val (.int (F1 (F3 ((65536 : Int32) + ((p1 &&& (2147483647 : Int32)) - ((p1 &&& (2147483647 : Int32)) / (1048576 : Int32)) * (1048576 : Int32)))))), .val (.int (1 : Int32))] [(.int (1 : Int32))])) _
    refine XS.ifNo X22.here hx rfl (hb hby at_131) rfl ((if0 _ _).trans (feq hc131_25).1) ?_
    show Steps p.tables e below (T22.setTop (mkF m 134 #[.val (.int p1), .val (.int p2), .val (.int (p2 &&& (3 : Int32))), .val (.int z35_5), .val (.int (z35_5 + (((p2.toUInt32 >>> ((2 : Int32) &&& 31).toUInt32).toInt32) &&& (7 : Int32)))), .val (.int ((65536 : Int32) + ((p1 &&& (2147483647 : Int32)) - ((p1 &&& (2147483647 : Int32)) / (1048576 : Int32)) * (1048576 : Int32)))), .val (.int (1 : Int32)), .val (.int (1 : Int32)), .val (.int (F1 (F3 ((65536 : Int32) + ((p1 &&& (2147483647 : Int32)) - ((p1 &&& (2147483647 : Int32)) / (1048576 : Int32)) * (1048576 : Int32)))))), .val (.int (1 : Int32))] [])) _
    refine XS.iload X22.here hx rfl (hb hby at_134) rfl ?_
    show Steps p.tables e below (T22.setTop (mkF m 136 #[.val (.int p1), .val (.int p2), .val (.int (p2 &&& (3 : Int32))), .val (.int z35_5), .val (.int (z35_5 + (((p2.toUInt32 >>> ((2 : Int32) &&& 31).toUInt32).toInt32) &&& (7 : Int32)))), .val (.int ((65536 : Int32) + ((p1 &&& (2147483647 : Int32)) - ((p1 &&& (2147483647 : Int32)) / (1048576 : Int32)) * (1048576 : Int32)))), .val (.int (1 : Int32)), .val (.int (1 : Int32)), .val (.int (F1 (F3 ((65536 : Int32) + ((p1 &&& (2147483647 : Int32)) - ((p1 &&& (2147483647 : Int32)) / (1048576 : Int32)) * (1048576 : Int32)))))), .val (.int (1 : Int32))] [(.int (F1 (F3 ((65536 : Int32) + ((p1 &&& (2147483647 : Int32)) - ((p1 &&& (2147483647 : Int32)) / (1048576 : Int32)) * (1048576 : Int32))))))])) _
    refine XS.ifNo X22.here hx rfl (hb hby at_136) rfl ((if0 _ _).trans (feq hc136_26).1) ?_
    show Steps p.tables e below (T22.setTop (mkF m 139 #[.val (.int p1), .val (.int p2), .val (.int (p2 &&& (3 : Int32))), .val (.int z35_5), .val (.int (z35_5 + (((p2.toUInt32 >>> ((2 : Int32) &&& 31).toUInt32).toInt32) &&& (7 : Int32)))), .val (.int ((65536 : Int32) + ((p1 &&& (2147483647 : Int32)) - ((p1 &&& (2147483647 : Int32)) / (1048576 : Int32)) * (1048576 : Int32)))), .val (.int (1 : Int32)), .val (.int (1 : Int32)), .val (.int (F1 (F3 ((65536 : Int32) + ((p1 &&& (2147483647 : Int32)) - ((p1 &&& (2147483647 : Int32)) / (1048576 : Int32)) * (1048576 : Int32)))))), .val (.int (1 : Int32))] [])) _
    refine XS.iload X22.here hx rfl (hb hby at_139) rfl ?_
    show Steps p.tables e below (T22.setTop (mkF m 141 #[.val (.int p1), .val (.int p2), .val (.int (p2 &&& (3 : Int32))), .val (.int z35_5), .val (.int (z35_5 + (((p2.toUInt32 >>> ((2 : Int32) &&& 31).toUInt32).toInt32) &&& (7 : Int32)))), .val (.int ((65536 : Int32) + ((p1 &&& (2147483647 : Int32)) - ((p1 &&& (2147483647 : Int32)) / (1048576 : Int32)) * (1048576 : Int32)))), .val (.int (1 : Int32)), .val (.int (1 : Int32)), .val (.int (F1 (F3 ((65536 : Int32) + ((p1 &&& (2147483647 : Int32)) - ((p1 &&& (2147483647 : Int32)) / (1048576 : Int32)) * (1048576 : Int32)))))), .val (.int (1 : Int32))] [(.int (1 : Int32))])) _
    refine XS.ifNo X22.here hx rfl (hb hby at_141) rfl ((if0 _ _).trans (feq hc141_27).1) ?_
    show Steps p.tables e below (T22.setTop (mkF m 144 #[.val (.int p1), .val (.int p2), .val (.int (p2 &&& (3 : Int32))), .val (.int z35_5), .val (.int (z35_5 + (((p2.toUInt32 >>> ((2 : Int32) &&& 31).toUInt32).toInt32) &&& (7 : Int32)))), .val (.int ((65536 : Int32) + ((p1 &&& (2147483647 : Int32)) - ((p1 &&& (2147483647 : Int32)) / (1048576 : Int32)) * (1048576 : Int32)))), .val (.int (1 : Int32)), .val (.int (1 : Int32)), .val (.int (F1 (F3 ((65536 : Int32) + ((p1 &&& (2147483647 : Int32)) - ((p1 &&& (2147483647 : Int32)) / (1048576 : Int32)) * (1048576 : Int32)))))), .val (.int (1 : Int32))] [])) _
    refine XS.iconst X22.here hx rfl (hb hby at_144) ?_
    show Steps p.tables e below (T22.setTop (mkF m 145 #[.val (.int p1), .val (.int p2), .val (.int (p2 &&& (3 : Int32))), .val (.int z35_5), .val (.int (z35_5 + (((p2.toUInt32 >>> ((2 : Int32) &&& 31).toUInt32).toInt32) &&& (7 : Int32)))), .val (.int ((65536 : Int32) + ((p1 &&& (2147483647 : Int32)) - ((p1 &&& (2147483647 : Int32)) / (1048576 : Int32)) * (1048576 : Int32)))), .val (.int (1 : Int32)), .val (.int (1 : Int32)), .val (.int (F1 (F3 ((65536 : Int32) + ((p1 &&& (2147483647 : Int32)) - ((p1 &&& (2147483647 : Int32)) / (1048576 : Int32)) * (1048576 : Int32)))))), .val (.int (1 : Int32))] [(.int (1 : Int32))])) _
    refine XS.goto X22.here hx rfl (pc0 := 145) (pc' := 149) rfl (hb hby at_145) (by decide) (by decide) ?_
    show Steps p.tables e below (T22.setTop (mkF m 149 #[.val (.int p1), .val (.int p2), .val (.int (p2 &&& (3 : Int32))), .val (.int z35_5), .val (.int (z35_5 + (((p2.toUInt32 >>> ((2 : Int32) &&& 31).toUInt32).toInt32) &&& (7 : Int32)))), .val (.int ((65536 : Int32) + ((p1 &&& (2147483647 : Int32)) - ((p1 &&& (2147483647 : Int32)) / (1048576 : Int32)) * (1048576 : Int32)))), .val (.int (1 : Int32)), .val (.int (1 : Int32)), .val (.int (F1 (F3 ((65536 : Int32) + ((p1 &&& (2147483647 : Int32)) - ((p1 &&& (2147483647 : Int32)) / (1048576 : Int32)) * (1048576 : Int32)))))), .val (.int (1 : Int32))] [(.int (1 : Int32))])) _
    exact k
  refine OwnG.st sg28 ?_
  have hv : (1 : Int32) = 1 := rfl
  exact OwnG.retN X22 hx (t := .boolean) (by simp) Bd.returns (BodyLoose.notSynchronized Bd) (hb hby at_149) ⟨congrArg (fun w => some (Value.int (nar .boolean w))) hv, N22⟩ (by decide) (by decide)
set_option maxRecDepth 65536 in
set_option maxHeartbeats 40000000 in
theorem comes_1 {Post : Tables → Env → Array Value → State → Outcome → State → Prop} (hpost : ∀ tb e args s v u, (limb_1_1.after args s (.returned v) u = true ∧ limb_1_2.after args s (.returned v) u = true ∧ True) → FrameEnd s (.returned v) u (Jvm.fieldLocs frame_1_writes args s ++ Jvm.arrayLocs frame_1_arrays args s ++ Jvm.staticLocs frame_1_statics s) 0 0 → Post tb e args s (.returned v) u) :
    ArmFor flags0 classFile x code maxLocals ret World_1 tables_1 room_1 Calls_1 rest_1 Pre_1 Post := by
  intro l hfl _ _ p e ha hc hk s m args below hf hA hF happ hP
  obtain ⟨hcalls, hrest, hpre⟩ := hP
  obtain ⟨-, -, -, hnamed, -, -, -, hat⟩ := (Spec.applies_iff hf).mp happ
  obtain ⟨hg, hn⟩ := and_e (Cond.before_iff.mp (show (Jvm.Cond.and given_1 narrow_1).before args s = true from hpre))
  obtain ⟨g1, g2⟩ := and_e hg
  obtain ⟨g3, g4⟩ := and_e g2
  obtain ⟨w0, w1, rfl⟩ : ∃ w0 w1 : Value, args = #[w0, w1] := by
    have hs : args.size = 2 := by simpa [Cond.value, given_1] using g1
    obtain ⟨L⟩ := args
    match L, hs with
    | [w0, w1], _ => exact ⟨w0, w1, rfl⟩
  have hw := fun d (hd : d ∈ tables_1) => atoms_spec (ws := Jvm.Cond.code x code maxLocals ret :: tables_1) hat d (List.mem_cons_of_mem _ hd)
  obtain ⟨i0, ei0⟩ := is_v g3
  obtain rfl : w0 = (.int i0) := Option.some.inj ei0
  obtain ⟨i1, ei1⟩ := is_v g4
  obtain rfl : w1 = (.int i1) := Option.some.inj ei1
  obtain ⟨n, o, h1, h2, h3, _, L, rfl, ⟨rfl, N⟩, hq⟩ := rm0 l s _ hw tables_1 i0 i1  s.heap s.heap.size (Nat.le_refl _)  p e ha hc hk s m _ below hf ((Spec.applies_iff_loose hf).mp happ).1 ⟨rfl, State.Warmed39.refl s, rfl⟩ trivial
  refine ⟨n, _, h1, h2, h3, hpost _ _ _ _ _ _ ⟨Cond.after_iff.mpr rfl, Cond.after_iff.mpr (eq_i res_at (Term.int_eval (1)) rfl), trivial⟩ ⟨hq.1, hq.2.1, (hq.2.2.sift fun y hy => Or.inr (N y hy)).mono (by decide) (by decide)⟩⟩
theorem main_1_1 : Claimed_1_1 := comes_1 fun _ _ _ _ _ _ h hF => ⟨h.1, hF⟩
theorem main_1_2 : Claimed_1_2 := comes_1 fun _ _ _ _ _ _ h hF => ⟨h.2.1, hF⟩
end Jvm.Pilot.@@N@@
namespace Jvm.Pilot.@@N@@
open Jvm Jvm.ClassFile Sem Op Lib Jvm.Free Jvm.Stand Jvm.Pilot.@@N@@.Jvm.D
/-! MADE BY PROGRAM (witnessworld.py) out of the Statement's table words and the real class files: 11 classes; the members and pool entries that the words name. The judged class is class 1, her method 2. -/
namespace start1
open Jvm.ClassFile
def u (s : String) : CpInfo := .utf8 (stringToUtf16 s)
/-- a pool by its gaps: so many unusable entries, then the entry; so many at the end -/
def gap : Nat → List CpInfo → List CpInfo
  | 0, r => r
  | n + 1, r => .unusable :: gap n r
def poolList (es : List (Nat × CpInfo)) (last : Nat) : List CpInfo := es.foldr (fun e r => gap e.1 (e.2 :: r)) (gap last [])
def pool (es : List (Nat × CpInfo)) (last : Nat) : Array CpInfo := ⟨poolList es last⟩
def fileOf (pool : Array CpInfo) (this : Nat) (attrs : Array Attribute := #[]) (ms : Array MethodInfo := #[]) (fl : Nat := 33) (sup : Nat := 0) (ifs : Array Nat := #[]) (fds : Array FieldInfo := #[]) : ClassFile where
  minorVersion := 0
  majorVersion := 65
  constantPool := pool
  accessFlags := fl
  thisClass := this
  superClass := sup
  interfaces := ifs
  fields := fds
  methods := ms
  attributes := attrs
def plain (name : String) (sup : Option ClassId) : Class where
  name := name
  kind := .ordinary
  loader := none
  accessFlags := 33
  super := sup
  interfaces := #[]
  cf := none
  fields := #[]
  methods := #[]
  instanceTypes := #[]
  staticTypes := #[]
  resolved := #[]
  callSites := []
  init := .initialized
  statics := none
  mirror := none

def pool0 : Array CpInfo := pool [(5, u "<init>"), (0, u "()V"), (1, .class_ 10), (1, u "java/lang/Object")] 113

def k0m0 : Method := { name := "<init>", desc := "()V", sig := { parameters := [], returnType := none }, accessFlags := 1, code := none }
/-- java/lang/Object -/
def k0 : Class := { plain "java/lang/Object" none with
  accessFlags := 33
  interfaces := #[]
  cf := some (fileOf pool0 8 #[] #[{ accessFlags := 1, nameIndex := 5, descriptorIndex := 6, attributes := #[] }] 33 0 #[] #[])
  fields := #[]
  methods := #[k0m0]
  instanceTypes := #[]
  staticTypes := #[]
  resolved := Array.replicate 124 none
  statics := none }

def pool1 : Array CpInfo := pool [(2, .class_ 4), (1, u "java/lang/Object"), (0, u "<init>"), (0, u "()V"), (0, .integer 55296), (0, .integer 55292), (0, .integer 56316), (0, .integer 57340), (0, .integer 65536), (0, .integer 2147483647), (0, .integer 1048576), (0, .methodref 15 16), (0, .class_ 17), (0, .nameAndType 18 19), (0, u "com/example/units_to_scalars/unitstoscalars/Utf16"), (0, u "isHighSurrogate"), (0, u "(I)Z"), (0, .methodref 21 22), (0, .class_ 23), (0, .nameAndType 24 19), (0, u "com/example/units_to_scalars/unitstoscalars/Utf16IsHighSurrogatePinLaw"), (0, u "ref"), (0, .methodref 15 26), (0, .nameAndType 27 28), (0, u "highSurrogate"), (0, u "(I)I"), (0, .methodref 15 30), (0, .nameAndType 31 28), (0, u "lowSurrogate"), (3, u "law"), (0, u "(II)Z")] 2

def k1m0 : Method := { name := "<init>", desc := "()V", sig := { parameters := [], returnType := none }, accessFlags := 1, code := none }
def k1c1 : Code := { maxStack := 2, maxLocals := 1, code := method_2_code, exceptionTable := #[], attributes := #[] }
def k1m1 : Method := { name := "ref", desc := "(I)Z", sig := { parameters := [.int], returnType := some .boolean }, accessFlags := 10, code := some k1c1 }
def k1c2 : Code := { maxStack := 3, maxLocals := 10, code := code, exceptionTable := #[], attributes := #[] }
def k1m2 : Method := { name := "law", desc := "(II)Z", sig := { parameters := [.int, .int], returnType := some .boolean }, accessFlags := 9, code := some k1c2 }
/-- com/example/units_to_scalars/unitstoscalars/Utf16IsHighSurrogatePinLaw -/
def k1 : Class := { plain "com/example/units_to_scalars/unitstoscalars/Utf16IsHighSurrogatePinLaw" (some 0) with
  accessFlags := 49
  interfaces := #[]
  cf := some (fileOf pool1 21 #[] #[{ accessFlags := 1, nameIndex := 5, descriptorIndex := 6, attributes := #[] }, { accessFlags := 10, nameIndex := 24, descriptorIndex := 19, attributes := #[] }, { accessFlags := 9, nameIndex := 35, descriptorIndex := 36, attributes := #[] }] 49 2 #[] #[])
  fields := #[]
  methods := #[k1m0, k1m1, k1m2]
  instanceTypes := #[]
  staticTypes := #[]
  resolved := Array.replicate 39 none
  statics := none }

def pool2 : Array CpInfo := pool [(8, .class_ 10), (1, u "com/example/units_to_scalars/unitstoscalars/Codec"), (9, u "I"), (140, .class_ 162), (0, u "java/lang/Object"), (0, u "LONGEST")] 33

/-- com/example/units_to_scalars/unitstoscalars/Codec -/
def k2 : Class := { plain "com/example/units_to_scalars/unitstoscalars/Codec" (some 0) with
  accessFlags := 1536
  interfaces := #[]
  cf := some (fileOf pool2 8 #[] #[] 1536 161 #[] #[{ accessFlags := 25, nameIndex := 163, descriptorIndex := 20, attributes := #[] }])
  fields := #[{ name := "LONGEST", type := .int, accessFlags := 25, slot := 0, constantValue := 0 }]
  methods := #[]
  instanceTypes := #[]
  staticTypes := #[.int]
  resolved := Array.replicate 197 none
  statics := none }

def pool3 : Array CpInfo := pool [(2, .class_ 4), (1, u "java/lang/Object"), (3, .class_ 10), (1, u "com/example/units_to_scalars/unitstoscalars/ByteOrderedCodec"), (0, u "unitLength"), (0, u "I"), (2, u "order"), (0, u "Ljava/nio/ByteOrder;"), (2, u "marked"), (0, u "Z"), (14, u "BYTE_ORDERS"), (0, u "[Ljava/nio/ByteOrder;"), (42, .class_ 80), (0, u "com/example/units_to_scalars/unitstoscalars/Codec"), (0, u "BYTE_ORDER_MARK")] 19

/-- com/example/units_to_scalars/unitstoscalars/ByteOrderedCodec -/
def k3 : Class := { plain "com/example/units_to_scalars/unitstoscalars/ByteOrderedCodec" (some 0) with
  accessFlags := 1056
  interfaces := #[2]
  cf := some (fileOf pool3 8 #[] #[] 1056 2 #[79] #[{ accessFlags := 26, nameIndex := 81, descriptorIndex := 12, attributes := #[] }, { accessFlags := 26, nameIndex := 35, descriptorIndex := 36, attributes := #[] }, { accessFlags := 18, nameIndex := 11, descriptorIndex := 12, attributes := #[] }, { accessFlags := 18, nameIndex := 15, descriptorIndex := 16, attributes := #[] }, { accessFlags := 18, nameIndex := 19, descriptorIndex := 20, attributes := #[] }])
  fields := #[{ name := "BYTE_ORDER_MARK", type := .int, accessFlags := 26, slot := 0, constantValue := 0 }, { name := "BYTE_ORDERS", type := (.array (.object "java/nio/ByteOrder")), accessFlags := 26, slot := 1, constantValue := 0 }, { name := "unitLength", type := .int, accessFlags := 18, slot := 0, constantValue := 0 }, { name := "order", type := (.object "java/nio/ByteOrder"), accessFlags := 18, slot := 1, constantValue := 0 }, { name := "marked", type := .boolean, accessFlags := 18, slot := 2, constantValue := 0 }]
  methods := #[]
  instanceTypes := #[.int, (.object "java/nio/ByteOrder"), .boolean]
  staticTypes := #[.int, (.array (.object "java/nio/ByteOrder"))]
  resolved := Array.replicate 101 none
  statics := none }

def pool4 : Array CpInfo := pool [(1, .class_ 2), (0, u "com/example/units_to_scalars/unitstoscalars/Utf16"), (1, .class_ 6), (1, u "com/example/units_to_scalars/unitstoscalars/ByteOrderedCodec"), (2, .integer 65536), (0, .integer 55296), (1, .integer 56320), (13, u "(I)Z"), (2, u "isHighSurrogate"), (21, u "(I)I"), (6, u "highSurrogate"), (2, u "lowSurrogate"), (13, u "I"), (32, u "BIG_ENDIAN"), (6, u "Lcom/example/units_to_scalars/unitstoscalars/Codec;"), (2, u "LITTLE_ENDIAN"), (4, u "MARKED"), (0, u "UNIT_LENGTH"), (2, u "FIRST_HIGH_SURROGATE"), (0, u "FIRST_LOW_SURROGATE"), (0, u "LAST_SURROGATE"), (0, u "FIRST_SUPPLEMENTARY")] 16

def k4c0 : Code := { maxStack := 2, maxLocals := 1, code := prog_17_method_4_code, exceptionTable := #[], attributes := #[] }
def k4m0 : Method := { name := "isHighSurrogate", desc := "(I)Z", sig := { parameters := [.int], returnType := some .boolean }, accessFlags := 8, code := some k4c0 }
def k4c1 : Code := { maxStack := 3, maxLocals := 1, code := prog_17_method_7_code, exceptionTable := #[], attributes := #[] }
def k4m1 : Method := { name := "highSurrogate", desc := "(I)I", sig := { parameters := [.int], returnType := some .int }, accessFlags := 8, code := some k4c1 }
def k4c2 : Code := { maxStack := 3, maxLocals := 1, code := prog_17_method_8_code, exceptionTable := #[], attributes := #[] }
def k4m2 : Method := { name := "lowSurrogate", desc := "(I)I", sig := { parameters := [.int], returnType := some .int }, accessFlags := 8, code := some k4c2 }
/-- com/example/units_to_scalars/unitstoscalars/Utf16 -/
def k4 : Class := { plain "com/example/units_to_scalars/unitstoscalars/Utf16" (some 3) with
  accessFlags := 48
  interfaces := #[]
  cf := some (fileOf pool4 1 #[] #[{ accessFlags := 8, nameIndex := 29, descriptorIndex := 26, attributes := #[] }, { accessFlags := 8, nameIndex := 58, descriptorIndex := 51, attributes := #[] }, { accessFlags := 8, nameIndex := 61, descriptorIndex := 51, attributes := #[] }] 48 4 #[] #[{ accessFlags := 24, nameIndex := 108, descriptorIndex := 115, attributes := #[] }, { accessFlags := 24, nameIndex := 118, descriptorIndex := 115, attributes := #[] }, { accessFlags := 24, nameIndex := 123, descriptorIndex := 115, attributes := #[] }, { accessFlags := 26, nameIndex := 124, descriptorIndex := 75, attributes := #[] }, { accessFlags := 26, nameIndex := 127, descriptorIndex := 75, attributes := #[] }, { accessFlags := 26, nameIndex := 128, descriptorIndex := 75, attributes := #[] }, { accessFlags := 26, nameIndex := 129, descriptorIndex := 75, attributes := #[] }, { accessFlags := 26, nameIndex := 130, descriptorIndex := 75, attributes := #[] }])
  fields := #[{ name := "BIG_ENDIAN", type := (.object "com/example/units_to_scalars/unitstoscalars/Codec"), accessFlags := 24, slot := 0, constantValue := 0 }, { name := "LITTLE_ENDIAN", type := (.object "com/example/units_to_scalars/unitstoscalars/Codec"), accessFlags := 24, slot := 1, constantValue := 0 }, { name := "MARKED", type := (.object "com/example/units_to_scalars/unitstoscalars/Codec"), accessFlags := 24, slot := 2, constantValue := 0 }, { name := "UNIT_LENGTH", type := .int, accessFlags := 26, slot := 3, constantValue := 0 }, { name := "FIRST_HIGH_SURROGATE", type := .int, accessFlags := 26, slot := 4, constantValue := 0 }, { name := "FIRST_LOW_SURROGATE", type := .int, accessFlags := 26, slot := 5, constantValue := 0 }, { name := "LAST_SURROGATE", type := .int, accessFlags := 26, slot := 6, constantValue := 0 }, { name := "FIRST_SUPPLEMENTARY", type := .int, accessFlags := 26, slot := 7, constantValue := 0 }]
  methods := #[k4m0, k4m1, k4m2]
  instanceTypes := #[.int, (.object "java/nio/ByteOrder"), .boolean]
  staticTypes := #[(.object "com/example/units_to_scalars/unitstoscalars/Codec"), (.object "com/example/units_to_scalars/unitstoscalars/Codec"), (.object "com/example/units_to_scalars/unitstoscalars/Codec"), .int, .int, .int, .int, .int]
  resolved := Array.replicate 147 none
  statics := none }

def pool5 : Array CpInfo := pool [(1, u "java/lang/Cloneable"), (0, .class_ 1), (0, u "java/lang/Object"), (0, .class_ 3)] 3

/-- java/lang/Cloneable -/
def k5 : Class := { plain "java/lang/Cloneable" (some 0) with
  accessFlags := 1537
  interfaces := #[]
  cf := some (fileOf pool5 2 #[] #[] 1537 4 #[] #[])
  fields := #[]
  methods := #[]
  instanceTypes := #[]
  staticTypes := #[]
  resolved := Array.replicate 8 none
  statics := none }

def pool6 : Array CpInfo := pool [(1, u "java/io/Serializable"), (0, .class_ 1), (0, u "java/lang/Object"), (0, .class_ 3)] 3

/-- java/io/Serializable -/
def k6 : Class := { plain "java/io/Serializable" (some 0) with
  accessFlags := 1537
  interfaces := #[]
  cf := some (fileOf pool6 2 #[] #[] 1537 4 #[] #[])
  fields := #[]
  methods := #[]
  instanceTypes := #[]
  staticTypes := #[]
  resolved := Array.replicate 8 none
  statics := none }

/-- the primitive byte -/
def k7 : Class := { plain "byte" none with kind := .primitive 'B', accessFlags := 0x411 }
/-- [B -/
def k8 : Class := { plain "[B" (some 0) with kind := .array 7 .byte, interfaces := #[5, 6], accessFlags := 1041 }

/-- the primitive int -/
def k9 : Class := { plain "int" none with kind := .primitive 'I', accessFlags := 0x411 }
/-- [I -/
def k10 : Class := { plain "[I" (some 0) with kind := .array 9 .int, interfaces := #[5, 6], accessFlags := 1041 }

def heap : Heap := #[]
def classes : Array Class := #[k0, k1, k2, k3, k4, k5, k6, k7, k8, k9, k10]
def interned : List (Array UInt16 × Addr) := []
def slotsUsed : Nat := 0
def theMethod : MethodId := ⟨1, 2⟩
def args0 : Array Value := #[.int 5, .int 5]
def aboutOver (below : List Frame) : State where
  vm := { classes := classes, interned := interned.toArray }
  heap := heap
  slotsUsed := slotsUsed
  threads := #[{ frames := .invoking theMethod args0 :: below }]
def below0 : List Frame := [.native { method := ⟨0, 0⟩, args := #[] }]
def about1 : State := aboutOver below0
def p0 : Program := .bare "" "" ""
def e0 : Env := launch0.env 0 0 0
theorem w_frames : about1.frames = Frame.invoking theMethod args0 :: below0 := rfl
set_option maxRecDepth 65536 in
theorem w_args : argsFit about1.vm theMethod args0 = true := by decide +kernel
set_option maxRecDepth 65536 in
theorem w_heap : heapFits about1 = true := by decide +kernel
set_option maxRecDepth 65536 in
theorem w_runnable : about1.curStatus? = some .runnable := by decide +kernel
set_option maxRecDepth 65536 in
theorem w_alone : about1.alone = true := by decide +kernel
set_option maxRecDepth 65536 in
theorem w_named : about1.methodNamed? x = some theMethod := by decide +kernel
set_option maxRecDepth 65536 in
theorem w_hears : about1.hears theMethod below0 = true := by decide +kernel
set_option maxRecDepth 65536 in
theorem w_ripe : about1.ripe theMethod args0 below0 = true := by decide +kernel
theorem w_running : about1.status = .running := rfl
set_option maxRecDepth 65536 in
theorem w_room : about1.hasRoom e0.platform room_1 = true :=
  launch0.hasRoom_least _ room_1 (by decide +kernel) (by decide +kernel) (by decide +kernel) (by decide +kernel) (by decide +kernel) (by decide +kernel)
theorem allAtoms_all (ts : List Jvm.Cond) (a : Array Jvm.Value) (st : Jvm.State) : (allAtoms ts).before a st = ts.all (fun c => c.before a st) := by
  induction ts with
  | nil => rfl
  | cons c t ih =>
    show (Jvm.Cond.and c (allAtoms t)).before a st = _
    rw [Jvm.Cond.before_and, ih, List.all_cons]
def words1 : List Jvm.Cond := Jvm.Cond.code x code maxLocals ret :: tables_1
/-- a 'code' word, met by the world's own term for the bytes: nothing is compared byte by byte -/
theorem code_word {y : MethodName} {bytes : ByteArray} {mx : Nat} {rt : Option FieldType} {a : Array Value} {s : State} {m : MethodId} {meth : Method} {c : Code} (h1 : s.methodNamed? y = some m) (h2 : s.vm.method? m = some meth) (h3 : meth.code = some c) (h4 : c.code = bytes)
    (h5 : (c.maxLocals == mx && c.exceptionTable.isEmpty && decide (c.maxStack ≤ mostOperands) && decide (meth.sig.returnType = rt) && !meth.locks && decide (parseMethodDescriptor y.desc = some meth.sig)) = true) : (Jvm.Cond.code y bytes mx rt).before a s = true := by
  simp only [Bool.and_eq_true, beq_iff_eq, Bool.not_eq_true', decide_eq_true_eq] at h5
  obtain ⟨⟨⟨⟨⟨g1, g2⟩, g3⟩, g4⟩, g5⟩, g6⟩ := h5
  simp [Cond.before, Cond.holds, Cond.value, h1, h2, h3, h4, g1, g2, g3, g4, g5, g6]
def isCode : Jvm.Cond → Bool
  | .code _ _ _ _ => true
  | _ => false
theorem all_split {L : List Jvm.Cond} {P : Jvm.Cond → Bool} (h1 : L.all (fun c => isCode c || P c) = true) (h2 : ∀ c ∈ L.filter isCode, P c = true) : L.all P = true := by
  refine List.all_eq_true.mpr fun c hc => ?_
  have h := List.all_eq_true.mp h1 c hc
  rcases Bool.eq_false_or_eq_true (isCode c) with hi | hi
  · exact h2 c (List.mem_filter.mpr ⟨hc, hi⟩)
  · simpa [hi] using h
set_option maxRecDepth 65536 in
theorem w_c0 : (Jvm.Cond.code x code maxLocals ret).before args0 about1 = true := code_word (m := ⟨1, 2⟩) (meth := k1m2) (c := k1c2) (by decide +kernel) rfl rfl rfl (by decide +kernel)
set_option maxRecDepth 65536 in
theorem w_c1 : (Jvm.Cond.code ({ cls := "com/example/units_to_scalars/unitstoscalars/Utf16", name := "isHighSurrogate", desc := "(I)Z" } : Jvm.MethodName) prog_17_method_4_code (1 : Nat) (Option.some Jvm.ClassFile.FieldType.boolean)).before args0 about1 = true := code_word (m := ⟨4, 0⟩) (meth := k4m0) (c := k4c0) (by decide +kernel) rfl rfl rfl (by decide +kernel)
set_option maxRecDepth 65536 in
theorem w_c2 : (Jvm.Cond.code ({ cls := "com/example/units_to_scalars/unitstoscalars/Utf16IsHighSurrogatePinLaw", name := "ref", desc := "(I)Z" } : Jvm.MethodName) method_2_code (1 : Nat) (Option.some Jvm.ClassFile.FieldType.boolean)).before args0 about1 = true := code_word (m := ⟨1, 1⟩) (meth := k1m1) (c := k1c1) (by decide +kernel) rfl rfl rfl (by decide +kernel)
set_option maxRecDepth 65536 in
theorem w_c3 : (Jvm.Cond.code ({ cls := "com/example/units_to_scalars/unitstoscalars/Utf16", name := "highSurrogate", desc := "(I)I" } : Jvm.MethodName) prog_17_method_7_code (1 : Nat) (Option.some Jvm.ClassFile.FieldType.int)).before args0 about1 = true := code_word (m := ⟨4, 1⟩) (meth := k4m1) (c := k4c1) (by decide +kernel) rfl rfl rfl (by decide +kernel)
set_option maxRecDepth 65536 in
theorem w_c4 : (Jvm.Cond.code ({ cls := "com/example/units_to_scalars/unitstoscalars/Utf16", name := "lowSurrogate", desc := "(I)I" } : Jvm.MethodName) prog_17_method_8_code (1 : Nat) (Option.some Jvm.ClassFile.FieldType.int)).before args0 about1 = true := code_word (m := ⟨4, 2⟩) (meth := k4m2) (c := k4c2) (by decide +kernel) rfl rfl rfl (by decide +kernel)
def codes1 : List Jvm.Cond := [Jvm.Cond.code x code maxLocals ret, Jvm.Cond.code ({ cls := "com/example/units_to_scalars/unitstoscalars/Utf16", name := "isHighSurrogate", desc := "(I)Z" } : Jvm.MethodName) prog_17_method_4_code (1 : Nat) (Option.some Jvm.ClassFile.FieldType.boolean), Jvm.Cond.code ({ cls := "com/example/units_to_scalars/unitstoscalars/Utf16IsHighSurrogatePinLaw", name := "ref", desc := "(I)Z" } : Jvm.MethodName) method_2_code (1 : Nat) (Option.some Jvm.ClassFile.FieldType.boolean), Jvm.Cond.code ({ cls := "com/example/units_to_scalars/unitstoscalars/Utf16", name := "highSurrogate", desc := "(I)I" } : Jvm.MethodName) prog_17_method_7_code (1 : Nat) (Option.some Jvm.ClassFile.FieldType.int), Jvm.Cond.code ({ cls := "com/example/units_to_scalars/unitstoscalars/Utf16", name := "lowSurrogate", desc := "(I)I" } : Jvm.MethodName) prog_17_method_8_code (1 : Nat) (Option.some Jvm.ClassFile.FieldType.int)]
set_option maxRecDepth 65536 in
theorem codes_eq : words1.filter isCode = codes1 := rfl
theorem w_codes : ∀ c ∈ words1.filter isCode, c.before args0 about1 = true := by
  rw [codes_eq]
  intro c hc
  simp only [codes1, List.mem_cons, List.not_mem_nil, or_false] at hc
  rcases hc with rfl | rfl | rfl | rfl | rfl
  · exact w_c0
  · exact w_c1
  · exact w_c2
  · exact w_c3
  · exact w_c4
set_option maxRecDepth 65536 in
theorem w_t1 : (words1.take 24).all (fun c => isCode c || c.before args0 about1) = true := by decide +kernel
set_option maxRecDepth 65536 in
theorem w_t2 : (words1.drop 24).all (fun c => isCode c || c.before args0 about1) = true := by decide +kernel
theorem w_tables : (allAtoms (Jvm.Cond.code x code maxLocals ret :: tables_1)).before args0 about1 = true := by
  rw [allAtoms_all]
  show words1.all (fun c => c.before args0 about1) = true
  refine all_split ?_ w_codes
  rw [← List.take_append_drop 24 words1, List.all_append, w_t1, w_t2]
  rfl
set_option maxRecDepth 65536 in
theorem w_case : (Jvm.Cond.and given_1 narrow_1).before args0 about1 = true := by decide +kernel
theorem w_applies : (headSpec (Jvm.Cond.code x code maxLocals ret :: tables_1) room_1).applies x e0.platform about1 = true :=
  (Spec.applies_iff w_frames).mpr ⟨w_running, w_runnable, w_alone, w_named, w_hears, w_ripe, w_room, w_tables⟩
theorem atStart : AtStart classFile x code maxLocals ret World_1 tables_1 room_1 Calls_1 rest_1 Pre_1 launch0 p0 e0 about1 theMethod args0 below0 :=
  ⟨lists_1, trivial, launch0.admits_env _ _ _, launch0.least_env, fairChoices_fair.cas, fairChoices_fair.clock, w_frames, w_args, w_heap, w_applies, trivial, trivial, w_case⟩
end start1
theorem witness_1 : WitnessClaimed_1 := ⟨start1.p0, start1.e0, start1.about1, start1.theMethod, start1.args0, start1.below0, start1.atStart⟩
end Jvm.Pilot.@@N@@
