import JvmDerived
import JvmDerived.Pilot.@@N@@Statement
import JvmDerived.Pilot.@@N@@Code
set_option linter.unusedVariables false
set_option linter.unusedSimpArgs false
set_option maxHeartbeats 4000000
set_option maxRecDepth 8192
namespace Jvm.OwnKit
open Sem ClassFile Op Lib Jvm.Stand Jvm.Free Jvm.LawKit Jvm.RoadKit
section Own
variable {p : Program} {l : Launch} {e : Env} {R : Room} {s : State} {m : MethodId} {args : Array Value} {below : List Frame} {meth : Method} {c : Code} {T T' : State} {locs : List Loc} {cells slots : Nat}
/-- from the state T with the frame F on top the run comes to the method's end, and what Q says holds there -/
def OwnG (p : Program) (e : Env) (below : List Frame) (s : State) (Q : Option Value → Heap → List Loc → Prop) (k n : Nat) (T : State) (F : JFrame) : Prop :=
  ∃ s₂ o, Steps p.tables e below (T.setTop F) s₂ ∧ s₂.status = .running ∧ Ended s₂ below o ∧ ∃ v L, o = .returned v ∧ Q v s₂.heap L ∧ FrameEnd s o s₂ L k n
theorem OwnG.st {Q : Option Value → Heap → List Loc → Prop} {k n : Nat} {F F' : JFrame} (h : ∀ t, Steps p.tables e below (T'.setTop F') t → Steps p.tables e below (T.setTop F) t) (g : OwnG p e below s Q k n T' F') : OwnG p e below s Q k n T F := by
  obtain ⟨s2, o, h1, r⟩ := g
  exact ⟨s2, o, h _ h1, r⟩
theorem OwnG.leave (X : Stand p l e R s m args below meth c T locs cells slots) {Q : Option Value → Heap → List Loc → Prop} {k n : Nat} {F : JFrame} {v : Option Value} (hv : meth.sig.returnType = none → v = none) (hlk : meth.locks = false)
    (hs : ∀ fs, (∀ (f : JFrame) (acts : List Action), f.method = m → f.locked = none → f.entered = [] → (doReturn e (T.setTop f) acts v).1 = T.setFrames fs) → Steps p.tables e below (T.setTop F) (T.setFrames fs)) (hq : Q v T.heap locs) (hk : cells ≤ k) (hn : slots ≤ n) : OwnG p e below s Q k n T F := by
  obtain ⟨fs, hr, hrun, hended, hW, hsame⟩ := X.leave hv hlk
  exact ⟨_, _, hs fs hr, hrun, hended, _, _, rfl, hq, ⟨_, rfl⟩, hW, hsame.mono hk hn⟩
theorem OwnG.retI (X : Stand p l e R s m args below meth c T locs cells slots) (hx : p.tables.exec = Jvm.exec) {Q : Option Value → Heap → List Loc → Prop} {k n pc : Nat} {Ls : Array Slot} {z : Int32} {rest : List Value} (hret : meth.sig.returnType = some .int) (hlk : meth.locks = false) (hd : decode c.code pc = .ok (.ireturn, 1)) (hq : Q (some (.int z)) T.heap locs) (hk : cells ≤ k) (hn : slots ≤ n) : OwnG p e below s Q k n T (mkF m pc Ls (.int z :: rest)) :=
  OwnG.leave X (fun h => by rw [hret] at h; cases h) hlk (fun fs hr => retOut X hx hret rfl (Or.inl ⟨rfl, Or.inl rfl, z, rfl⟩) hd hr) hq hk hn
theorem OwnG.retJ (X : Stand p l e R s m args below meth c T locs cells slots) (hx : p.tables.exec = Jvm.exec) {Q : Option Value → Heap → List Loc → Prop} {k n pc : Nat} {Ls : Array Slot} {z : Int64} {rest : List Value} (hret : meth.sig.returnType = some .long) (hlk : meth.locks = false) (hd : decode c.code pc = .ok (.lreturn, 1)) (hq : Q (some (.long z)) T.heap locs) (hk : cells ≤ k) (hn : slots ≤ n) : OwnG p e below s Q k n T (mkF m pc Ls (.long z :: rest)) :=
  OwnG.leave X (fun h => by rw [hret] at h; cases h) hlk (fun fs hr => retOut X hx hret rfl (Or.inr (Or.inl ⟨rfl, rfl, z, rfl⟩)) hd hr) hq hk hn
theorem OwnG.retR (X : Stand p l e R s m args below meth c T locs cells slots) (hx : p.tables.exec = Jvm.exec) {Q : Option Value → Heap → List Loc → Prop} {k n pc : Nat} {Ls : Array Slot} {a : Addr} {rest : List Value} {t : FieldType} (hret : meth.sig.returnType = some t) (ht : t.isReference = true) (hnn : narrow t (.ref a) = .ref a) (hlk : meth.locks = false) (hd : decode c.code pc = .ok (.areturn, 1)) (hq : Q (some (.ref a)) T.heap locs) (hk : cells ≤ k) (hn : slots ≤ n) : OwnG p e below s Q k n T (mkF m pc Ls (.ref a :: rest)) :=
  OwnG.leave X (fun h => by rw [hret] at h; cases h) hlk (fun fs hr => retOut X hx hret hnn (Or.inr (Or.inr (Or.inr (Or.inr ⟨rfl, ht, rfl⟩)))) hd hr) hq hk hn
theorem OwnG.retN (X : Stand p l e R s m args below meth c T locs cells slots) (hx : p.tables.exec = Jvm.exec) {Q : Option Value → Heap → List Loc → Prop} {k n pc : Nat} {Ls : Array Slot} {z : Int32} {rest : List Value} {t : FieldType} (ht : t = .boolean ∨ t = .byte ∨ t = .char ∨ t = .short) (hret : meth.sig.returnType = some t) (hlk : meth.locks = false) (hd : decode c.code pc = .ok (.ireturn, 1)) (hq : Q (some (.int (nar t z))) T.heap locs) (hk : cells ≤ k) (hn : slots ≤ n) : OwnG p e below s Q k n T (mkF m pc Ls (.int z :: rest)) :=
  OwnG.leave X (fun h => by rw [hret] at h; cases h) hlk (fun fs hr => Jvm.RoadKit.retN X hx hret ht hd hr) hq hk hn
theorem OwnG.retV (X : Stand p l e R s m args below meth c T locs cells slots) (hx : p.tables.exec = Jvm.exec) {Q : Option Value → Heap → List Loc → Prop} {k n pc : Nat} {Ls : Array Slot} (hret : meth.sig.returnType = none) (hlk : meth.locks = false) (hd : decode c.code pc = .ok (.return_, 1)) (hq : Q none T.heap locs) (hk : cells ≤ k) (hn : slots ≤ n) : OwnG p e below s Q k n T (mkF m pc Ls []) :=
  OwnG.leave X (fun _ => rfl) hlk (fun fs hr => X.returnOut hx hret hd hr) hq hk hn
end Own
end Jvm.OwnKit
namespace Jvm.OwnKit
open Jvm.RoadKit
theorem x_iadd (x y : Int32) (h : -2147483648 ≤ x.toInt + y.toInt ∧ x.toInt + y.toInt < 2147483648) : (x + y).toInt = x.toInt + y.toInt := by
  have a := c_iadd x y
  have b := rng32 (x + y)
  omega
theorem x_isub (x y : Int32) (h : -2147483648 ≤ x.toInt - y.toInt ∧ x.toInt - y.toInt < 2147483648) : (x - y).toInt = x.toInt - y.toInt := by
  have a := c_isub x y
  have b := rng32 (x - y)
  omega
theorem x_imul (x y : Int32) (z : Int) (hz : x.toInt * y.toInt = z) (h : -2147483648 ≤ z ∧ z < 2147483648) : (x * y).toInt = z := by
  have a := c_imul x y
  have b := rng32 (x * y)
  rw [hz] at a
  omega
theorem x_ladd (x y : Int64) (h : -9223372036854775808 ≤ x.toInt + y.toInt ∧ x.toInt + y.toInt < 9223372036854775808) : (x + y).toInt = x.toInt + y.toInt := by
  have a := c_ladd x y
  have b := rng64 (x + y)
  omega
theorem x_lsub (x y : Int64) (h : -9223372036854775808 ≤ x.toInt - y.toInt ∧ x.toInt - y.toInt < 9223372036854775808) : (x - y).toInt = x.toInt - y.toInt := by
  have a := c_lsub x y
  have b := rng64 (x - y)
  omega
theorem x_lmul (x y : Int64) (z : Int) (hz : x.toInt * y.toInt = z) (h : -9223372036854775808 ≤ z ∧ z < 9223372036854775808) : (x * y).toInt = z := by
  have a := c_lmul x y
  have b := rng64 (x * y)
  rw [hz] at a
  omega
theorem x_l2i (x : Int64) (h : -2147483648 ≤ x.toInt ∧ x.toInt < 2147483648) : x.toInt32.toInt = x.toInt := by
  have a := c_l2i x
  have b := rng32 x.toInt32
  omega
end Jvm.OwnKit
namespace Jvm.Pilot.@@N@@
open Jvm Jvm.ClassFile Sem Op Lib Jvm.Free Jvm.Stand Jvm.LawKit Jvm.RoadKit Bundle Jvm.Pilot.@@N@@.Jvm.D Jvm.OwnKit
def F1 (p1 : Int32) : Int32 := (if (24 : Int32) < p1 then (if (((p1 - (1 : Int32)) - (24 : Int32)) - (((p1 - (1 : Int32)) - (24 : Int32)) / (12 : Int32)) * (12 : Int32)) = (0 : Int32) then (1 : Int32) else (0 : Int32)) else (0 : Int32))
theorem d1_0 : decode prog_12_method_31_code 0 = .ok (.iload_n 0, 1) := by decide +kernel
theorem d1_1 : decode prog_12_method_31_code 1 = .ok (.bipush 24, 2) := by decide +kernel
theorem d1_3 : decode prog_12_method_31_code 3 = .ok (.if_icmp .le 19, 3) := by decide +kernel
theorem d1_6 : decode prog_12_method_31_code 6 = .ok (.iload_n 0, 1) := by decide +kernel
theorem d1_7 : decode prog_12_method_31_code 7 = .ok (.iconst 1, 1) := by decide +kernel
theorem d1_8 : decode prog_12_method_31_code 8 = .ok (.isub, 1) := by decide +kernel
theorem d1_9 : decode prog_12_method_31_code 9 = .ok (.bipush 24, 2) := by decide +kernel
theorem d1_11 : decode prog_12_method_31_code 11 = .ok (.isub, 1) := by decide +kernel
theorem d1_12 : decode prog_12_method_31_code 12 = .ok (.bipush 12, 2) := by decide +kernel
theorem d1_14 : decode prog_12_method_31_code 14 = .ok (.irem, 1) := by decide +kernel
theorem d1_15 : decode prog_12_method_31_code 15 = .ok (.ifCond .ne 7, 3) := by decide +kernel
theorem d1_18 : decode prog_12_method_31_code 18 = .ok (.iconst 1, 1) := by decide +kernel
theorem d1_19 : decode prog_12_method_31_code 19 = .ok (.goto 4, 3) := by decide +kernel
theorem d1_22 : decode prog_12_method_31_code 22 = .ok (.iconst 0, 1) := by decide +kernel
theorem d1_23 : decode prog_12_method_31_code 23 = .ok (.ireturn, 1) := by decide +kernel
theorem pn_1 : plainName "com/example/provenir/provenir/Iso2709Record" = true := by first | (simp [plainName, overriddenIn]; done) | decide +kernel
theorem ef_1 (m : MethodId) (p1 : Int32) : entryFrame m #[(.int p1)] 1 = mkF m 0 #[.val (.int p1)] [] := by first | (simp [entryFrame, mkF, argsToLocals, Value.category]; done) | rfl
def Q1 (Z : State) (p1 : Int32) (h0 : Heap) (n0 : Nat) (v : Option Value) (h : Heap) (L : List Loc) : Prop := v = some (.int (F1 p1)) ∧ Fr n0 L ∧ h = h0
set_option maxRecDepth 65536 in
set_option maxHeartbeats 40000000 in
theorem rm1 (l : Launch) (Z : State) (a0 : Array Value) (hw : ∀ d ∈ tables_1, d.before a0 Z = true) (ws : List Jvm.Cond) (p1 : Int32)  (h0 : Heap) (n0 : Nat) (Z0 : n0 ≤ h0.size)  :
    MetFree l (⟨"com/example/provenir/provenir/Iso2709Record", "followsWholeEntries", "(I)Z"⟩ : MethodName) (head1 (Jvm.Cond.code (⟨"com/example/provenir/provenir/Iso2709Record", "followsWholeEntries", "(I)Z"⟩ : MethodName) prog_12_method_31_code 1 (some .boolean) :: ws) ({ frames := 0, cells := 0, slots := 0, locals := 0 } : Room)) (fun a U => a = #[(.int p1)] ∧ Z.Warmed39 U.vm ∧ U.heap = h0) (fun _ _ _ _ _ => True) (fun _ U o U' => ∃ v L, o = .returned v ∧ Q1 Z p1 h0 n0 v U'.heap L ∧ FrameEnd U o U' L ({ frames := 0, cells := 0, slots := 0, locals := 0 } : Room).cells ({ frames := 0, cells := 0, slots := 0, locals := 0 } : Room).slots) := by
  refine MetFree.of_bodySF (plainFor_of_name pn_1) hisR ?_
  intro p e s m args below meth c s₁ Bd hml0 hP hK
  obtain ⟨rfl, hZ, hh⟩ := hP
  have hx := Bd.exec
  have hby := Bd.bytes
  have hml : c.maxLocals = 1 := hml0
  have hown : s.vm.findClass "com/example/provenir/provenir/Iso2709Record" = some m.cls := findClass_of_methodNamed Bd.named
  have hnm := (name_of_methodNamed Bd.named Bd.method).1
  have X0 : Stand p l e ({ frames := 0, cells := 0, slots := 0, locals := 0 } : Room) s m #[(.int p1)] below meth c s₁ [] 0 0 := Stand.of_body Bd
  have e0 : s₁.heap = h0 := by rw [← hh, Bd.state]; rfl
  have N0 := Fr.nil n0
  suffices hG : OwnG p e below s (Q1 Z p1 h0 n0) ({ frames := 0, cells := 0, slots := 0, locals := 0 } : Room).cells ({ frames := 0, cells := 0, slots := 0, locals := 0 } : Room).slots s₁ (mkF m 0 #[.val (.int p1)] []) by
    obtain ⟨s2, o2, g1, g2⟩ := hG
    exact ⟨s2, o2, castTop (ef_1 m p1) g1, g2⟩
  have sg1 : ∀ tgt, Steps p.tables e below (s₁.setTop (mkF m 3 #[.val (.int p1)] [(.int (24 : Int32)), (.int p1)])) tgt → Steps p.tables e below (s₁.setTop (mkF m 0 #[.val (.int p1)] [])) tgt := by
    intro tgt kt
    refine XS.iloadN X0.here hx rfl (hb hby d1_0) rfl ?_
    show Steps p.tables e below (s₁.setTop (mkF m 1 #[.val (.int p1)] [(.int p1)])) _
    refine XS.bipush X0.here hx rfl (hb hby d1_1) ?_
    show Steps p.tables e below (s₁.setTop (mkF m 3 #[.val (.int p1)] [(.int (24 : Int32)), (.int p1)])) _
    exact kt
  refine OwnG.st sg1 ?_
  by_cases hc3_2 : (24 : Int32) < p1
  · have sg3 : ∀ tgt, Steps p.tables e below (s₁.setTop (mkF m 15 #[.val (.int p1)] [(.int (((p1 - (1 : Int32)) - (24 : Int32)) - (((p1 - (1 : Int32)) - (24 : Int32)) / (12 : Int32)) * (12 : Int32)))])) tgt → Steps p.tables e below (s₁.setTop (mkF m 3 #[.val (.int p1)] [(.int (24 : Int32)), (.int p1)])) tgt := by
      intro tgt kt
      refine XS.icmpNo X0.here hx rfl (hb hby d1_3) rfl (tlt hc3_2).2.2.2 ?_
      show Steps p.tables e below (s₁.setTop (mkF m 6 #[.val (.int p1)] [])) _
      refine XS.iloadN X0.here hx rfl (hb hby d1_6) rfl ?_
      show Steps p.tables e below (s₁.setTop (mkF m 7 #[.val (.int p1)] [(.int p1)])) _
      refine XS.iconst X0.here hx rfl (hb hby d1_7) ?_
      show Steps p.tables e below (s₁.setTop (mkF m 8 #[.val (.int p1)] [(.int (1 : Int32)), (.int p1)])) _
      refine XS.isub X0.here hx rfl (hb hby d1_8) rfl ?_
      show Steps p.tables e below (s₁.setTop (mkF m 9 #[.val (.int p1)] [(.int (p1 - (1 : Int32)))])) _
      refine XS.bipush X0.here hx rfl (hb hby d1_9) ?_
      show Steps p.tables e below (s₁.setTop (mkF m 11 #[.val (.int p1)] [(.int (24 : Int32)), (.int (p1 - (1 : Int32)))])) _
      refine XS.isub X0.here hx rfl (hb hby d1_11) rfl ?_
      show Steps p.tables e below (s₁.setTop (mkF m 12 #[.val (.int p1)] [(.int ((p1 - (1 : Int32)) - (24 : Int32)))])) _
      refine XS.bipush X0.here hx rfl (hb hby d1_12) ?_
      show Steps p.tables e below (s₁.setTop (mkF m 14 #[.val (.int p1)] [(.int (12 : Int32)), (.int ((p1 - (1 : Int32)) - (24 : Int32)))])) _
      refine XS.irem X0.here hx rfl (hb hby d1_14) rfl (by decide) ?_
      show Steps p.tables e below (s₁.setTop (mkF m 15 #[.val (.int p1)] [(.int (((p1 - (1 : Int32)) - (24 : Int32)) - (((p1 - (1 : Int32)) - (24 : Int32)) / (12 : Int32)) * (12 : Int32)))])) _
      exact kt
    refine OwnG.st sg3 ?_
    by_cases hc15_4 : (((p1 - (1 : Int32)) - (24 : Int32)) - (((p1 - (1 : Int32)) - (24 : Int32)) / (12 : Int32)) * (12 : Int32)) = (0 : Int32)
    · have sg5 : ∀ tgt, Steps p.tables e below (s₁.setTop (mkF m 23 #[.val (.int p1)] [(.int (1 : Int32))])) tgt → Steps p.tables e below (s₁.setTop (mkF m 15 #[.val (.int p1)] [(.int (((p1 - (1 : Int32)) - (24 : Int32)) - (((p1 - (1 : Int32)) - (24 : Int32)) / (12 : Int32)) * (12 : Int32)))])) tgt := by
        intro tgt kt
        refine XS.ifNo X0.here hx rfl (hb hby d1_15) rfl ((if0 _ _).trans (teq hc15_4).2) ?_
        show Steps p.tables e below (s₁.setTop (mkF m 18 #[.val (.int p1)] [])) _
        refine XS.iconst X0.here hx rfl (hb hby d1_18) ?_
        show Steps p.tables e below (s₁.setTop (mkF m 19 #[.val (.int p1)] [(.int (1 : Int32))])) _
        refine XS.goto X0.here hx rfl (pc0 := 19) (pc' := 23) rfl (hb hby d1_19) (by decide) (by decide) ?_
        show Steps p.tables e below (s₁.setTop (mkF m 23 #[.val (.int p1)] [(.int (1 : Int32))])) _
        exact kt
      refine OwnG.st sg5 ?_
      have hv : (1 : Int32) = F1 p1 := by simp only [F1, if_pos hc3_2, if_pos hc15_4]
      exact OwnG.retN X0 hx (t := .boolean) (by simp) Bd.returns (BodyLoose.notSynchronized Bd) (hb hby d1_23) ⟨congrArg (fun w => some (Value.int w)) ((show nar .boolean (1 : Int32) = (1 : Int32) from rfl).trans hv), N0, e0⟩ (by decide) (by decide)
    · have sg6 : ∀ tgt, Steps p.tables e below (s₁.setTop (mkF m 23 #[.val (.int p1)] [(.int (0 : Int32))])) tgt → Steps p.tables e below (s₁.setTop (mkF m 15 #[.val (.int p1)] [(.int (((p1 - (1 : Int32)) - (24 : Int32)) - (((p1 - (1 : Int32)) - (24 : Int32)) / (12 : Int32)) * (12 : Int32)))])) tgt := by
        intro tgt kt
        refine XS.ifYes X0.here hx rfl (pc0 := 15) (pc' := 22) rfl (hb hby d1_15) rfl ((if0 _ _).trans (feq hc15_4).2) (by decide) (by decide) ?_
        show Steps p.tables e below (s₁.setTop (mkF m 22 #[.val (.int p1)] [])) _
        refine XS.iconst X0.here hx rfl (hb hby d1_22) ?_
        show Steps p.tables e below (s₁.setTop (mkF m 23 #[.val (.int p1)] [(.int (0 : Int32))])) _
        exact kt
      refine OwnG.st sg6 ?_
      have hv : (0 : Int32) = F1 p1 := by simp only [F1, if_pos hc3_2, if_neg hc15_4]
      exact OwnG.retN X0 hx (t := .boolean) (by simp) Bd.returns (BodyLoose.notSynchronized Bd) (hb hby d1_23) ⟨congrArg (fun w => some (Value.int w)) ((show nar .boolean (0 : Int32) = (0 : Int32) from rfl).trans hv), N0, e0⟩ (by decide) (by decide)
  · have sg7 : ∀ tgt, Steps p.tables e below (s₁.setTop (mkF m 23 #[.val (.int p1)] [(.int (0 : Int32))])) tgt → Steps p.tables e below (s₁.setTop (mkF m 3 #[.val (.int p1)] [(.int (24 : Int32)), (.int p1)])) tgt := by
      intro tgt kt
      refine XS.icmpYes X0.here hx rfl (pc0 := 3) (pc' := 22) rfl (hb hby d1_3) rfl (flt hc3_2).2.2.2 (by decide) (by decide) ?_
      show Steps p.tables e below (s₁.setTop (mkF m 22 #[.val (.int p1)] [])) _
      refine XS.iconst X0.here hx rfl (hb hby d1_22) ?_
      show Steps p.tables e below (s₁.setTop (mkF m 23 #[.val (.int p1)] [(.int (0 : Int32))])) _
      exact kt
    refine OwnG.st sg7 ?_
    have hv : (0 : Int32) = F1 p1 := by simp only [F1, if_neg hc3_2]
    exact OwnG.retN X0 hx (t := .boolean) (by simp) Bd.returns (BodyLoose.notSynchronized Bd) (hb hby d1_23) ⟨congrArg (fun w => some (Value.int w)) ((show nar .boolean (0 : Int32) = (0 : Int32) from rfl).trans hv), N0, e0⟩ (by decide) (by decide)
theorem own_rem (x : Int32) : -178956974 < (x - (x / (178956974 : Int32)) * (178956974 : Int32)).toInt ∧ (x - (x / (178956974 : Int32)) * (178956974 : Int32)).toInt < 178956974 := by
  have h1 := c_idiv x 178956974 178956974 rfl (by decide)
  have h2 := c_imul (x / 178956974) 178956974
  have h3 := c_isub x ((x / 178956974) * 178956974)
  have e0 : (178956974 : Int32).toInt = 178956974 := rfl
  rw [e0] at h2
  have r := rng32 x
  have r2 := rng32 (x - (x / 178956974) * 178956974)
  by_cases h : 0 ≤ x.toInt
  · have := h1.1 h; omega
  · have := h1.2 (by omega); omega
theorem own_r12 (y : Int32) : 0 ≤ ((y &&& (2147483647 : Int32)) - ((y &&& (2147483647 : Int32)) / (12 : Int32)) * (12 : Int32)).toInt ∧ ((y &&& (2147483647 : Int32)) - ((y &&& (2147483647 : Int32)) / (12 : Int32)) * (12 : Int32)).toInt < 12 := by
  have h0 := c_mask y 2147483647 31 (by decide) (by decide)
  obtain ⟨x, hx⟩ : ∃ x, x = y &&& (2147483647 : Int32) := ⟨_, rfl⟩
  rw [← hx] at h0 ⊢
  have h1 := (c_idiv x 12 12 rfl (by decide)).1 (by omega)
  have h2 := c_imul (x / 12) 12
  have h3 := c_isub x ((x / 12) * 12)
  have e0 : (12 : Int32).toInt = 12 := rfl
  rw [e0] at h2
  have r := rng32 x
  have r2 := rng32 (x - (x / 12) * 12)
  omega
theorem own_m3 (n r : Int32) (b : Int64) (hn : -178956974 < n.toInt ∧ n.toInt < 178956974) (hr : 0 ≤ r.toInt ∧ r.toInt < 12) (hb : b = (((25 : Int64) + ((12 : Int64) * (n.toInt64))) + (r.toInt64))) (h1 : ¬ (2147483647 : Int64) < b) (h2 : ¬ b < (-2147483648 : Int64)) :
    F1 (b.toInt32) = (if n < (0 : Int32) then (0 : Int32) else (if r = (0 : Int32) then (1 : Int32) else (0 : Int32))) := by
  have a1 := c_i2l n
  have a2 := c_i2l r
  have e1 : (25 : Int64).toInt = 25 := rfl
  have e2 : (2147483647 : Int64).toInt = 2147483647 := rfl
  have e3 : (-2147483648 : Int64).toInt = -2147483648 := rfl
  have e4 : (24 : Int32).toInt = 24 := rfl
  have e5 : (1 : Int32).toInt = 1 := rfl
  have e7 : (0 : Int32).toInt = 0 := rfl
  have a3 := x_lmul 12 n.toInt64 (12 * n.toInt) (by rw [a1]; rfl) (by omega)
  have a4 := x_ladd 25 ((12 : Int64) * n.toInt64) (by omega)
  have a5 := x_ladd (25 + (12 : Int64) * n.toInt64) r.toInt64 (by omega)
  rw [← hb] at a5
  rw [Int64.lt_iff_toInt_lt] at h1 h2
  have a6 := x_l2i b (by omega)
  obtain ⟨w, hw⟩ : ∃ w, w = b.toInt32 := ⟨_, rfl⟩
  rw [← hw] at a6 ⊢
  have hwb : w.toInt = 25 + 12 * n.toInt + r.toInt := by omega
  have rww := rng32 w
  clear a6 hw h1 h2 a5 a4 a3 hb
  unfold F1
  by_cases c1 : (24 : Int32) < w
  · have c1' := c1
    rw [Int32.lt_iff_toInt_lt] at c1
    have b1 := x_isub w 1 (by omega)
    have b2 := x_isub (w - 1) 24 (by omega)
    have b3 := (c_idiv (w - 1 - 24) 12 12 rfl (by decide)).1 (by omega)
    have b4 := x_imul ((w - 1 - 24) / 12) 12 (((w - 1 - 24) / 12).toInt * 12) rfl (by omega)
    have b5 := x_isub (w - 1 - 24) (((w - 1 - 24) / 12) * 12) (by omega)
    have hs : (w - 1 - 24 - (((w - 1 - 24) / 12) * 12)).toInt = r.toInt := by omega
    have c2 : ¬ n < 0 := by rw [Int32.lt_iff_toInt_lt]; omega
    rw [if_pos c1', if_neg c2, Int32.toInt_inj.mp hs]
  · rw [if_neg c1]
    rw [Int32.lt_iff_toInt_lt] at c1
    have c2 : n < 0 := by rw [Int32.lt_iff_toInt_lt]; omega
    rw [if_pos c2]
theorem pn_0 : plainName "com/example/provenir/provenir/Iso2709RecordFollowsWholeEntriesPinLaw" = true := by first | (simp [plainName, overriddenIn]; done) | decide +kernel
theorem pd_0_0 : parseMethodDescriptor "(I)Z" = some ⟨[.int], some .boolean⟩ := by decide +kernel
theorem ef_0 (m : MethodId) (p1 : Int32) (p2 : Int32) : entryFrame m #[(.int p1), (.int p2)] maxLocals = mkF m 0 #[.val (.int p1), .val (.int p2), .unset, .unset, .unset, .unset, .unset, .unset] [] := by first | (simp [entryFrame, mkF, argsToLocals, Value.category, maxLocals]; done) | rfl
def Q0 (Z : State) (p1 : Int32) (p2 : Int32) (h0 : Heap) (n0 : Nat) (v : Option Value) (h : Heap) (L : List Loc) : Prop := v = some (.int 1) ∧ Fr n0 L
set_option maxRecDepth 65536 in
set_option maxHeartbeats 40000000 in
theorem rm0 (l : Launch) (Z : State) (a0 : Array Value) (hw : ∀ d ∈ tables_1, d.before a0 Z = true) (ws : List Jvm.Cond) (p1 : Int32) (p2 : Int32)  (h0 : Heap) (n0 : Nat) (Z0 : n0 ≤ h0.size)  :
    MetFree l x (head1 (Jvm.Cond.code x code maxLocals ret :: ws) room_1) (fun a U => a = #[(.int p1), (.int p2)] ∧ Z.Warmed39 U.vm ∧ U.heap = h0) (fun _ _ _ _ _ => True) (fun _ U o U' => ∃ v L, o = .returned v ∧ Q0 Z p1 p2 h0 n0 v U'.heap L ∧ FrameEnd U o U' L room_1.cells room_1.slots) := by
  refine MetFree.of_bodySF (plainFor_of_name pn_0) hisR ?_
  intro p e s m args below meth c s₁ Bd hml0 hP hK
  obtain ⟨rfl, hZ, hh⟩ := hP
  have hx := Bd.exec
  have hby := Bd.bytes
  have hml : c.maxLocals = 8 := hml0
  have hown : s.vm.findClass "com/example/provenir/provenir/Iso2709RecordFollowsWholeEntriesPinLaw" = some m.cls := findClass_of_methodNamed Bd.named
  have hnm := (name_of_methodNamed Bd.named Bd.method).1
  have X0 : Stand p l e room_1 s m #[(.int p1), (.int p2)] below meth c s₁ [] 0 0 := Stand.of_body Bd
  have e0 : s₁.heap = h0 := by rw [← hh, Bd.state]; rfl
  have N0 := Fr.nil n0
  suffices hG : OwnG p e below s (Q0 Z p1 p2 h0 n0) room_1.cells room_1.slots s₁ (mkF m 0 #[.val (.int p1), .val (.int p2), .unset, .unset, .unset, .unset, .unset, .unset] []) by
    obtain ⟨s2, o2, g1, g2⟩ := hG
    exact ⟨s2, o2, castTop (ef_0 m p1 p2) g1, g2⟩
  have sg1 : ∀ tgt, Steps p.tables e below (s₁.setTop (mkF m 13 #[.val (.int p1), .val (.int p2), .val (.int (p1 - (p1 / (178956974 : Int32)) * (178956974 : Int32))), .val (.int ((p2 &&& (2147483647 : Int32)) - ((p2 &&& (2147483647 : Int32)) / (12 : Int32)) * (12 : Int32))), .unset, .unset, .unset, .unset] [])) tgt → Steps p.tables e below (s₁.setTop (mkF m 0 #[.val (.int p1), .val (.int p2), .unset, .unset, .unset, .unset, .unset, .unset] [])) tgt := by
    intro tgt kt
    refine XS.iloadN X0.here hx rfl (hb hby at_0) rfl ?_
    show Steps p.tables e below (s₁.setTop (mkF m 1 #[.val (.int p1), .val (.int p2), .unset, .unset, .unset, .unset, .unset, .unset] [(.int p1)])) _
    refine X0.ldcInt hx hown (mvT hZ (hw _ (List.mem_of_getElem? (i := 0) rfl))) (g := (mkF m 1 #[.val (.int p1), .val (.int p2), .unset, .unset, .unset, .unset, .unset, .unset] [(.int p1)])) rfl (hb hby at_1) _ ?_
    show Steps p.tables e below (s₁.setTop (mkF m 3 #[.val (.int p1), .val (.int p2), .unset, .unset, .unset, .unset, .unset, .unset] [(.int (178956974 : Int32)), (.int p1)])) _
    refine XS.irem X0.here hx rfl (hb hby at_3) rfl (by decide) ?_
    show Steps p.tables e below (s₁.setTop (mkF m 4 #[.val (.int p1), .val (.int p2), .unset, .unset, .unset, .unset, .unset, .unset] [(.int (p1 - (p1 / (178956974 : Int32)) * (178956974 : Int32)))])) _
    refine XS.istoreN X0.here hx rfl (hb hby at_4) rfl (l' := #[.val (.int p1), .val (.int p2), .val (.int (p1 - (p1 / (178956974 : Int32)) * (178956974 : Int32))), .unset, .unset, .unset, .unset, .unset]) rfl ?_
    show Steps p.tables e below (s₁.setTop (mkF m 5 #[.val (.int p1), .val (.int p2), .val (.int (p1 - (p1 / (178956974 : Int32)) * (178956974 : Int32))), .unset, .unset, .unset, .unset, .unset] [])) _
    refine XS.iloadN X0.here hx rfl (hb hby at_5) rfl ?_
    show Steps p.tables e below (s₁.setTop (mkF m 6 #[.val (.int p1), .val (.int p2), .val (.int (p1 - (p1 / (178956974 : Int32)) * (178956974 : Int32))), .unset, .unset, .unset, .unset, .unset] [(.int p2)])) _
    refine X0.ldcInt hx hown (mvT hZ (hw _ (List.mem_of_getElem? (i := 1) rfl))) (g := (mkF m 6 #[.val (.int p1), .val (.int p2), .val (.int (p1 - (p1 / (178956974 : Int32)) * (178956974 : Int32))), .unset, .unset, .unset, .unset, .unset] [(.int p2)])) rfl (hb hby at_6) _ ?_
    show Steps p.tables e below (s₁.setTop (mkF m 8 #[.val (.int p1), .val (.int p2), .val (.int (p1 - (p1 / (178956974 : Int32)) * (178956974 : Int32))), .unset, .unset, .unset, .unset, .unset] [(.int (2147483647 : Int32)), (.int p2)])) _
    refine XS.iand X0.here hx rfl (hb hby at_8) rfl ?_
    show Steps p.tables e below (s₁.setTop (mkF m 9 #[.val (.int p1), .val (.int p2), .val (.int (p1 - (p1 / (178956974 : Int32)) * (178956974 : Int32))), .unset, .unset, .unset, .unset, .unset] [(.int (p2 &&& (2147483647 : Int32)))])) _
    refine XS.bipush X0.here hx rfl (hb hby at_9) ?_
    show Steps p.tables e below (s₁.setTop (mkF m 11 #[.val (.int p1), .val (.int p2), .val (.int (p1 - (p1 / (178956974 : Int32)) * (178956974 : Int32))), .unset, .unset, .unset, .unset, .unset] [(.int (12 : Int32)), (.int (p2 &&& (2147483647 : Int32)))])) _
    refine XS.irem X0.here hx rfl (hb hby at_11) rfl (by decide) ?_
    show Steps p.tables e below (s₁.setTop (mkF m 12 #[.val (.int p1), .val (.int p2), .val (.int (p1 - (p1 / (178956974 : Int32)) * (178956974 : Int32))), .unset, .unset, .unset, .unset, .unset] [(.int ((p2 &&& (2147483647 : Int32)) - ((p2 &&& (2147483647 : Int32)) / (12 : Int32)) * (12 : Int32)))])) _
    refine XS.istoreN X0.here hx rfl (hb hby at_12) rfl (l' := #[.val (.int p1), .val (.int p2), .val (.int (p1 - (p1 / (178956974 : Int32)) * (178956974 : Int32))), .val (.int ((p2 &&& (2147483647 : Int32)) - ((p2 &&& (2147483647 : Int32)) / (12 : Int32)) * (12 : Int32))), .unset, .unset, .unset, .unset]) rfl ?_
    show Steps p.tables e below (s₁.setTop (mkF m 13 #[.val (.int p1), .val (.int p2), .val (.int (p1 - (p1 / (178956974 : Int32)) * (178956974 : Int32))), .val (.int ((p2 &&& (2147483647 : Int32)) - ((p2 &&& (2147483647 : Int32)) / (12 : Int32)) * (12 : Int32))), .unset, .unset, .unset, .unset] [])) _
    exact kt
  refine OwnG.st sg1 ?_
  obtain ⟨z2_2, hz2_2⟩ : ∃ w : Int32, w = (p1 - (p1 / (178956974 : Int32)) * (178956974 : Int32)) := ⟨_, rfl⟩
  obtain ⟨z3_3, hz3_3⟩ : ∃ w : Int32, w = ((p2 &&& (2147483647 : Int32)) - ((p2 &&& (2147483647 : Int32)) / (12 : Int32)) * (12 : Int32)) := ⟨_, rfl⟩
  rw [← hz2_2, ← hz3_3]
  show OwnG p e below s _ _ _ s₁ (mkF m 13 #[.val (.int p1), .val (.int p2), .val (.int z2_2), .val (.int z3_3), .unset, .unset, .unset, .unset] [])
  have sg4 : ∀ tgt, Steps p.tables e below (s₁.setTop (mkF m 28 #[.val (.int p1), .val (.int p2), .val (.int z2_2), .val (.int z3_3), .val (.long (((25 : Int64) + ((12 : Int64) * (z2_2.toInt64))) + (z3_3.toInt64))), .second, .unset, .unset] [])) tgt → Steps p.tables e below (s₁.setTop (mkF m 13 #[.val (.int p1), .val (.int p2), .val (.int z2_2), .val (.int z3_3), .unset, .unset, .unset, .unset] [])) tgt := by
    intro tgt kt
    refine X0.ldc2Long hx hown (mvT hZ (hw _ (List.mem_of_getElem? (i := 2) rfl))) (g := (mkF m 13 #[.val (.int p1), .val (.int p2), .val (.int z2_2), .val (.int z3_3), .unset, .unset, .unset, .unset] [])) rfl (hb hby at_13) _ ?_
    show Steps p.tables e below (s₁.setTop (mkF m 16 #[.val (.int p1), .val (.int p2), .val (.int z2_2), .val (.int z3_3), .unset, .unset, .unset, .unset] [(.long (25 : Int64))])) _
    refine X0.ldc2Long hx hown (mvT hZ (hw _ (List.mem_of_getElem? (i := 3) rfl))) (g := (mkF m 16 #[.val (.int p1), .val (.int p2), .val (.int z2_2), .val (.int z3_3), .unset, .unset, .unset, .unset] [(.long (25 : Int64))])) rfl (hb hby at_16) _ ?_
    show Steps p.tables e below (s₁.setTop (mkF m 19 #[.val (.int p1), .val (.int p2), .val (.int z2_2), .val (.int z3_3), .unset, .unset, .unset, .unset] [(.long (12 : Int64)), (.long (25 : Int64))])) _
    refine XS.iloadN X0.here hx rfl (hb hby at_19) rfl ?_
    show Steps p.tables e below (s₁.setTop (mkF m 20 #[.val (.int p1), .val (.int p2), .val (.int z2_2), .val (.int z3_3), .unset, .unset, .unset, .unset] [(.int z2_2), (.long (12 : Int64)), (.long (25 : Int64))])) _
    refine XS.i2l X0.here hx rfl (hb hby at_20) rfl ?_
    show Steps p.tables e below (s₁.setTop (mkF m 21 #[.val (.int p1), .val (.int p2), .val (.int z2_2), .val (.int z3_3), .unset, .unset, .unset, .unset] [(.long (z2_2.toInt64)), (.long (12 : Int64)), (.long (25 : Int64))])) _
    refine XS.lmul X0.here hx rfl (hb hby at_21) rfl ?_
    show Steps p.tables e below (s₁.setTop (mkF m 22 #[.val (.int p1), .val (.int p2), .val (.int z2_2), .val (.int z3_3), .unset, .unset, .unset, .unset] [(.long ((12 : Int64) * (z2_2.toInt64))), (.long (25 : Int64))])) _
    refine XS.ladd X0.here hx rfl (hb hby at_22) rfl ?_
    show Steps p.tables e below (s₁.setTop (mkF m 23 #[.val (.int p1), .val (.int p2), .val (.int z2_2), .val (.int z3_3), .unset, .unset, .unset, .unset] [(.long ((25 : Int64) + ((12 : Int64) * (z2_2.toInt64))))])) _
    refine XS.iloadN X0.here hx rfl (hb hby at_23) rfl ?_
    show Steps p.tables e below (s₁.setTop (mkF m 24 #[.val (.int p1), .val (.int p2), .val (.int z2_2), .val (.int z3_3), .unset, .unset, .unset, .unset] [(.int z3_3), (.long ((25 : Int64) + ((12 : Int64) * (z2_2.toInt64))))])) _
    refine XS.i2l X0.here hx rfl (hb hby at_24) rfl ?_
    show Steps p.tables e below (s₁.setTop (mkF m 25 #[.val (.int p1), .val (.int p2), .val (.int z2_2), .val (.int z3_3), .unset, .unset, .unset, .unset] [(.long (z3_3.toInt64)), (.long ((25 : Int64) + ((12 : Int64) * (z2_2.toInt64))))])) _
    refine XS.ladd X0.here hx rfl (hb hby at_25) rfl ?_
    show Steps p.tables e below (s₁.setTop (mkF m 26 #[.val (.int p1), .val (.int p2), .val (.int z2_2), .val (.int z3_3), .unset, .unset, .unset, .unset] [(.long (((25 : Int64) + ((12 : Int64) * (z2_2.toInt64))) + (z3_3.toInt64)))])) _
    refine XS.lstore X0.here hx rfl (hb hby at_26) rfl (l' := #[.val (.int p1), .val (.int p2), .val (.int z2_2), .val (.int z3_3), .val (.long (((25 : Int64) + ((12 : Int64) * (z2_2.toInt64))) + (z3_3.toInt64))), .second, .unset, .unset]) rfl ?_
    show Steps p.tables e below (s₁.setTop (mkF m 28 #[.val (.int p1), .val (.int p2), .val (.int z2_2), .val (.int z3_3), .val (.long (((25 : Int64) + ((12 : Int64) * (z2_2.toInt64))) + (z3_3.toInt64))), .second, .unset, .unset] [])) _
    exact kt
  refine OwnG.st sg4 ?_
  obtain ⟨z4_5, hz4_5⟩ : ∃ w : Int64, w = (((25 : Int64) + ((12 : Int64) * (z2_2.toInt64))) + (z3_3.toInt64)) := ⟨_, rfl⟩
  rw [← hz4_5]
  show OwnG p e below s _ _ _ s₁ (mkF m 28 #[.val (.int p1), .val (.int p2), .val (.int z2_2), .val (.int z3_3), .val (.long z4_5), .second, .unset, .unset] [])
  have sg6 : ∀ tgt, Steps p.tables e below (s₁.setTop (mkF m 34 #[.val (.int p1), .val (.int p2), .val (.int z2_2), .val (.int z3_3), .val (.long z4_5), .second, .unset, .unset] [(.int (lcmpW z4_5 (2147483647 : Int64)))])) tgt → Steps p.tables e below (s₁.setTop (mkF m 28 #[.val (.int p1), .val (.int p2), .val (.int z2_2), .val (.int z3_3), .val (.long z4_5), .second, .unset, .unset] [])) tgt := by
    intro tgt kt
    refine XS.lload X0.here hx rfl (hb hby at_28) rfl ?_
    show Steps p.tables e below (s₁.setTop (mkF m 30 #[.val (.int p1), .val (.int p2), .val (.int z2_2), .val (.int z3_3), .val (.long z4_5), .second, .unset, .unset] [(.long z4_5)])) _
    refine X0.ldc2Long hx hown (mvT hZ (hw _ (List.mem_of_getElem? (i := 4) rfl))) (g := (mkF m 30 #[.val (.int p1), .val (.int p2), .val (.int z2_2), .val (.int z3_3), .val (.long z4_5), .second, .unset, .unset] [(.long z4_5)])) rfl (hb hby at_30) _ ?_
    show Steps p.tables e below (s₁.setTop (mkF m 33 #[.val (.int p1), .val (.int p2), .val (.int z2_2), .val (.int z3_3), .val (.long z4_5), .second, .unset, .unset] [(.long (2147483647 : Int64)), (.long z4_5)])) _
    refine XS.lcmp X0.here hx rfl (hb hby at_33) rfl ?_
    show Steps p.tables e below (s₁.setTop (mkF m 34 #[.val (.int p1), .val (.int p2), .val (.int z2_2), .val (.int z3_3), .val (.long z4_5), .second, .unset, .unset] [(.int (lcmpW z4_5 (2147483647 : Int64)))])) _
    exact kt
  refine OwnG.st sg6 ?_
  by_cases hc34_7 : (2147483647 : Int64) < z4_5
  · have sg8 : ∀ tgt, Steps p.tables e below (s₁.setTop (mkF m 47 #[.val (.int p1), .val (.int p2), .val (.int z2_2), .val (.int z3_3), .val (.long z4_5), .second, .unset, .unset] [(.int (1 : Int32))])) tgt → Steps p.tables e below (s₁.setTop (mkF m 34 #[.val (.int p1), .val (.int p2), .val (.int z2_2), .val (.int z3_3), .val (.long z4_5), .second, .unset, .unset] [(.int (lcmpW z4_5 (2147483647 : Int64)))])) tgt := by
      intro tgt kt
      refine XS.ifYes X0.here hx rfl (pc0 := 34) (pc' := 46) rfl (hb hby at_34) rfl ((if0 _ _).trans (tlt ((lw_gt z4_5 (2147483647 : Int64)).mpr hc34_7)).2.2.1) (by decide) (by decide) ?_
      show Steps p.tables e below (s₁.setTop (mkF m 46 #[.val (.int p1), .val (.int p2), .val (.int z2_2), .val (.int z3_3), .val (.long z4_5), .second, .unset, .unset] [])) _
      refine XS.iconst X0.here hx rfl (hb hby at_46) ?_
      show Steps p.tables e below (s₁.setTop (mkF m 47 #[.val (.int p1), .val (.int p2), .val (.int z2_2), .val (.int z3_3), .val (.long z4_5), .second, .unset, .unset] [(.int (1 : Int32))])) _
      exact kt
    refine OwnG.st sg8 ?_
    have hv : (1 : Int32) = 1 := rfl
    exact OwnG.retN X0 hx (t := .boolean) (by simp) Bd.returns (BodyLoose.notSynchronized Bd) (hb hby at_47) ⟨congrArg (fun w => some (Value.int (nar .boolean w))) hv, N0⟩ (by decide) (by decide)
  · have sg9 : ∀ tgt, Steps p.tables e below (s₁.setTop (mkF m 43 #[.val (.int p1), .val (.int p2), .val (.int z2_2), .val (.int z3_3), .val (.long z4_5), .second, .unset, .unset] [(.int (lcmpW z4_5 (-2147483648 : Int64)))])) tgt → Steps p.tables e below (s₁.setTop (mkF m 34 #[.val (.int p1), .val (.int p2), .val (.int z2_2), .val (.int z3_3), .val (.long z4_5), .second, .unset, .unset] [(.int (lcmpW z4_5 (2147483647 : Int64)))])) tgt := by
      intro tgt kt
      refine XS.ifNo X0.here hx rfl (hb hby at_34) rfl ((if0 _ _).trans (flt (mt (lw_gt z4_5 (2147483647 : Int64)).mp hc34_7)).2.2.1) ?_
      show Steps p.tables e below (s₁.setTop (mkF m 37 #[.val (.int p1), .val (.int p2), .val (.int z2_2), .val (.int z3_3), .val (.long z4_5), .second, .unset, .unset] [])) _
      refine XS.lload X0.here hx rfl (hb hby at_37) rfl ?_
      show Steps p.tables e below (s₁.setTop (mkF m 39 #[.val (.int p1), .val (.int p2), .val (.int z2_2), .val (.int z3_3), .val (.long z4_5), .second, .unset, .unset] [(.long z4_5)])) _
      refine X0.ldc2Long hx hown (mvT hZ (hw _ (List.mem_of_getElem? (i := 5) rfl))) (g := (mkF m 39 #[.val (.int p1), .val (.int p2), .val (.int z2_2), .val (.int z3_3), .val (.long z4_5), .second, .unset, .unset] [(.long z4_5)])) rfl (hb hby at_39) _ ?_
      show Steps p.tables e below (s₁.setTop (mkF m 42 #[.val (.int p1), .val (.int p2), .val (.int z2_2), .val (.int z3_3), .val (.long z4_5), .second, .unset, .unset] [(.long (-2147483648 : Int64)), (.long z4_5)])) _
      refine XS.lcmp X0.here hx rfl (hb hby at_42) rfl ?_
      show Steps p.tables e below (s₁.setTop (mkF m 43 #[.val (.int p1), .val (.int p2), .val (.int z2_2), .val (.int z3_3), .val (.long z4_5), .second, .unset, .unset] [(.int (lcmpW z4_5 (-2147483648 : Int64)))])) _
      exact kt
    refine OwnG.st sg9 ?_
    by_cases hc43_10 : z4_5 < (-2147483648 : Int64)
    · have sg11 : ∀ tgt, Steps p.tables e below (s₁.setTop (mkF m 47 #[.val (.int p1), .val (.int p2), .val (.int z2_2), .val (.int z3_3), .val (.long z4_5), .second, .unset, .unset] [(.int (1 : Int32))])) tgt → Steps p.tables e below (s₁.setTop (mkF m 43 #[.val (.int p1), .val (.int p2), .val (.int z2_2), .val (.int z3_3), .val (.long z4_5), .second, .unset, .unset] [(.int (lcmpW z4_5 (-2147483648 : Int64)))])) tgt := by
        intro tgt kt
        refine XS.ifNo X0.here hx rfl (hb hby at_43) rfl ((if0 _ _).trans (tlt ((lw_lt z4_5 (-2147483648 : Int64)).mpr hc43_10)).2.1) ?_
        show Steps p.tables e below (s₁.setTop (mkF m 46 #[.val (.int p1), .val (.int p2), .val (.int z2_2), .val (.int z3_3), .val (.long z4_5), .second, .unset, .unset] [])) _
        refine XS.iconst X0.here hx rfl (hb hby at_46) ?_
        show Steps p.tables e below (s₁.setTop (mkF m 47 #[.val (.int p1), .val (.int p2), .val (.int z2_2), .val (.int z3_3), .val (.long z4_5), .second, .unset, .unset] [(.int (1 : Int32))])) _
        exact kt
      refine OwnG.st sg11 ?_
      have hv : (1 : Int32) = 1 := rfl
      exact OwnG.retN X0 hx (t := .boolean) (by simp) Bd.returns (BodyLoose.notSynchronized Bd) (hb hby at_47) ⟨congrArg (fun w => some (Value.int (nar .boolean w))) hv, N0⟩ (by decide) (by decide)
    · have sg12 : ∀ tgt, Steps p.tables e below (s₁.setTop (mkF m 54 #[.val (.int p1), .val (.int p2), .val (.int z2_2), .val (.int z3_3), .val (.long z4_5), .second, .val (.int (z4_5.toInt32)), .unset] [(.int z2_2)])) tgt → Steps p.tables e below (s₁.setTop (mkF m 43 #[.val (.int p1), .val (.int p2), .val (.int z2_2), .val (.int z3_3), .val (.long z4_5), .second, .unset, .unset] [(.int (lcmpW z4_5 (-2147483648 : Int64)))])) tgt := by
        intro tgt kt
        refine XS.ifYes X0.here hx rfl (pc0 := 43) (pc' := 48) rfl (hb hby at_43) rfl ((if0 _ _).trans (flt (mt (lw_lt z4_5 (-2147483648 : Int64)).mp hc43_10)).2.1) (by decide) (by decide) ?_
        show Steps p.tables e below (s₁.setTop (mkF m 48 #[.val (.int p1), .val (.int p2), .val (.int z2_2), .val (.int z3_3), .val (.long z4_5), .second, .unset, .unset] [])) _
        refine XS.lload X0.here hx rfl (hb hby at_48) rfl ?_
        show Steps p.tables e below (s₁.setTop (mkF m 50 #[.val (.int p1), .val (.int p2), .val (.int z2_2), .val (.int z3_3), .val (.long z4_5), .second, .unset, .unset] [(.long z4_5)])) _
        refine XS.l2i X0.here hx rfl (hb hby at_50) rfl ?_
        show Steps p.tables e below (s₁.setTop (mkF m 51 #[.val (.int p1), .val (.int p2), .val (.int z2_2), .val (.int z3_3), .val (.long z4_5), .second, .unset, .unset] [(.int (z4_5.toInt32))])) _
        refine XS.istore X0.here hx rfl (hb hby at_51) rfl (l' := #[.val (.int p1), .val (.int p2), .val (.int z2_2), .val (.int z3_3), .val (.long z4_5), .second, .val (.int (z4_5.toInt32)), .unset]) rfl ?_
        show Steps p.tables e below (s₁.setTop (mkF m 53 #[.val (.int p1), .val (.int p2), .val (.int z2_2), .val (.int z3_3), .val (.long z4_5), .second, .val (.int (z4_5.toInt32)), .unset] [])) _
        refine XS.iloadN X0.here hx rfl (hb hby at_53) rfl ?_
        show Steps p.tables e below (s₁.setTop (mkF m 54 #[.val (.int p1), .val (.int p2), .val (.int z2_2), .val (.int z3_3), .val (.long z4_5), .second, .val (.int (z4_5.toInt32)), .unset] [(.int z2_2)])) _
        exact kt
      refine OwnG.st sg12 ?_
      obtain ⟨z66_15, hz66_15⟩ : ∃ w : Int32, w = (if z2_2 < (0 : Int32) then (0 : Int32) else (if z3_3 = (0 : Int32) then (1 : Int32) else (0 : Int32))) := ⟨_, rfl⟩
      have dj16 : ∀ tgt, Steps p.tables e below (s₁.setTop (mkF m 66 #[.val (.int p1), .val (.int p2), .val (.int z2_2), .val (.int z3_3), .val (.long z4_5), .second, .val (.int (z4_5.toInt32)), .unset] [(.int z66_15)])) tgt → Steps p.tables e below (s₁.setTop (mkF m 54 #[.val (.int p1), .val (.int p2), .val (.int z2_2), .val (.int z3_3), .val (.long z4_5), .second, .val (.int (z4_5.toInt32)), .unset] [(.int z2_2)])) tgt := by
        intro tgt kt
        by_cases hc54_13 : z2_2 < (0 : Int32)
        · have qz66_15 : z66_15 = (0 : Int32) := by rw [hz66_15, if_pos hc54_13]
          rw [qz66_15] at kt
          refine XS.ifYes X0.here hx rfl (pc0 := 54) (pc' := 65) rfl (hb hby at_54) rfl ((if0 _ _).trans (tlt hc54_13).1) (by decide) (by decide) ?_
          show Steps p.tables e below (s₁.setTop (mkF m 65 #[.val (.int p1), .val (.int p2), .val (.int z2_2), .val (.int z3_3), .val (.long z4_5), .second, .val (.int (z4_5.toInt32)), .unset] [])) _
          refine XS.iconst X0.here hx rfl (hb hby at_65) ?_
          show Steps p.tables e below (s₁.setTop (mkF m 66 #[.val (.int p1), .val (.int p2), .val (.int z2_2), .val (.int z3_3), .val (.long z4_5), .second, .val (.int (z4_5.toInt32)), .unset] [(.int (0 : Int32))])) _
          exact kt
        · refine XS.ifNo X0.here hx rfl (hb hby at_54) rfl ((if0 _ _).trans (flt hc54_13).1) ?_
          show Steps p.tables e below (s₁.setTop (mkF m 57 #[.val (.int p1), .val (.int p2), .val (.int z2_2), .val (.int z3_3), .val (.long z4_5), .second, .val (.int (z4_5.toInt32)), .unset] [])) _
          refine XS.iloadN X0.here hx rfl (hb hby at_57) rfl ?_
          show Steps p.tables e below (s₁.setTop (mkF m 58 #[.val (.int p1), .val (.int p2), .val (.int z2_2), .val (.int z3_3), .val (.long z4_5), .second, .val (.int (z4_5.toInt32)), .unset] [(.int z3_3)])) _
          by_cases hc58_14 : z3_3 = (0 : Int32)
          · have qz66_15 : z66_15 = (1 : Int32) := by rw [hz66_15, if_neg hc54_13, if_pos hc58_14]
            rw [qz66_15] at kt
            refine XS.ifNo X0.here hx rfl (hb hby at_58) rfl ((if0 _ _).trans (teq hc58_14).2) ?_
            show Steps p.tables e below (s₁.setTop (mkF m 61 #[.val (.int p1), .val (.int p2), .val (.int z2_2), .val (.int z3_3), .val (.long z4_5), .second, .val (.int (z4_5.toInt32)), .unset] [])) _
            refine XS.iconst X0.here hx rfl (hb hby at_61) ?_
            show Steps p.tables e below (s₁.setTop (mkF m 62 #[.val (.int p1), .val (.int p2), .val (.int z2_2), .val (.int z3_3), .val (.long z4_5), .second, .val (.int (z4_5.toInt32)), .unset] [(.int (1 : Int32))])) _
            refine XS.goto X0.here hx rfl (pc0 := 62) (pc' := 66) rfl (hb hby at_62) (by decide) (by decide) ?_
            show Steps p.tables e below (s₁.setTop (mkF m 66 #[.val (.int p1), .val (.int p2), .val (.int z2_2), .val (.int z3_3), .val (.long z4_5), .second, .val (.int (z4_5.toInt32)), .unset] [(.int (1 : Int32))])) _
            exact kt
          · have qz66_15 : z66_15 = (0 : Int32) := by rw [hz66_15, if_neg hc54_13, if_neg hc58_14]
            rw [qz66_15] at kt
            refine XS.ifYes X0.here hx rfl (pc0 := 58) (pc' := 65) rfl (hb hby at_58) rfl ((if0 _ _).trans (feq hc58_14).2) (by decide) (by decide) ?_
            show Steps p.tables e below (s₁.setTop (mkF m 65 #[.val (.int p1), .val (.int p2), .val (.int z2_2), .val (.int z3_3), .val (.long z4_5), .second, .val (.int (z4_5.toInt32)), .unset] [])) _
            refine XS.iconst X0.here hx rfl (hb hby at_65) ?_
            show Steps p.tables e below (s₁.setTop (mkF m 66 #[.val (.int p1), .val (.int p2), .val (.int z2_2), .val (.int z3_3), .val (.long z4_5), .second, .val (.int (z4_5.toInt32)), .unset] [(.int (0 : Int32))])) _
            exact kt
      refine OwnG.st dj16 ?_
      have sg17 : ∀ tgt, Steps p.tables e below (s₁.setTop (mkF m 70 #[.val (.int p1), .val (.int p2), .val (.int z2_2), .val (.int z3_3), .val (.long z4_5), .second, .val (.int (z4_5.toInt32)), .val (.int z66_15)] [(.int (z4_5.toInt32))])) tgt → Steps p.tables e below (s₁.setTop (mkF m 66 #[.val (.int p1), .val (.int p2), .val (.int z2_2), .val (.int z3_3), .val (.long z4_5), .second, .val (.int (z4_5.toInt32)), .unset] [(.int z66_15)])) tgt := by
        intro tgt kt
        refine XS.istore X0.here hx rfl (hb hby at_66) rfl (l' := #[.val (.int p1), .val (.int p2), .val (.int z2_2), .val (.int z3_3), .val (.long z4_5), .second, .val (.int (z4_5.toInt32)), .val (.int z66_15)]) rfl ?_
        show Steps p.tables e below (s₁.setTop (mkF m 68 #[.val (.int p1), .val (.int p2), .val (.int z2_2), .val (.int z3_3), .val (.long z4_5), .second, .val (.int (z4_5.toInt32)), .val (.int z66_15)] [])) _
        refine XS.iload X0.here hx rfl (hb hby at_68) rfl ?_
        show Steps p.tables e below (s₁.setTop (mkF m 70 #[.val (.int p1), .val (.int p2), .val (.int z2_2), .val (.int z3_3), .val (.long z4_5), .second, .val (.int (z4_5.toInt32)), .val (.int z66_15)] [(.int (z4_5.toInt32))])) _
        exact kt
      refine OwnG.st sg17 ?_
      obtain ⟨_, _, ⟨T18, L18, k18, n18⟩, -, X18, ⟨Lc18, hQ18, l18, y18, z18⟩, st18⟩ := Jvm.LawKit.callS X0 hx (y := (⟨"com/example/provenir/provenir/Iso2709Record", "followsWholeEntries", "(I)Z"⟩ : MethodName)) hown (mvT hZ (hw _ (List.mem_of_getElem? (i := 6) rfl))) (mvT hZ (hw _ (List.mem_of_getElem? (i := 7) rfl))) (mvT hZ (hw _ (List.mem_of_getElem? (i := 8) rfl))) (mvT hZ (hw _ (List.mem_of_getElem? (i := 9) rfl))) (by decide) (backOf (W := 0) (rm1 l Z a0 hw [] (z4_5.toInt32)  h0 n0 Z0 ) hZ (hw _ (List.mem_of_getElem? (i := 9) rfl)) (hw _ (List.mem_of_getElem? (i := 8) rfl)) (by decide) (by decide)) (g := (mkF m 70 #[.val (.int p1), .val (.int p2), .val (.int z2_2), .val (.int z3_3), .val (.long z4_5), .second, .val (.int (z4_5.toInt32)), .val (.int z66_15)] [(.int (z4_5.toInt32))])) rfl (by rw [hml]; rfl) (argsL := [(.int (z4_5.toInt32))]) (rest := []) (lenOf pd_0_0 rfl) rfl (by show 2 * 0 + _ ≤ _; exact Nat.le_of_eq rfl) (hb hby at_70) (fun _ _ => ⟨rfl, e0, (by decide : 0 + 0 ≤ _), (by decide : 0 + 0 ≤ _)⟩)
      dsimp only [Pt.U, Pt.locs, Pt.cells, Pt.slots] at X18 l18 y18 z18 st18 hQ18
      subst l18 y18 z18
      obtain ⟨rfl, N18q, e18⟩ := hQ18
      have N18 := Fr.app N0 N18q
      refine OwnG.st (fun t k => st18 t k) ?_
      show OwnG p e below s _ _ _ T18 (mkF m 73 #[.val (.int p1), .val (.int p2), .val (.int z2_2), .val (.int z3_3), .val (.long z4_5), .second, .val (.int (z4_5.toInt32)), .val (.int z66_15)] [(.int (F1 (z4_5.toInt32)))])
      have hc75_19 : (F1 (z4_5.toInt32)) = z66_15 := by rw [hz66_15]; exact own_m3 _ _ _ (by rw [hz2_2]; exact own_rem _) (by rw [hz3_3]; exact own_r12 _) hz4_5 hc34_7 hc43_10
      have sg20 : ∀ tgt, Steps p.tables e below (T18.setTop (mkF m 83 #[.val (.int p1), .val (.int p2), .val (.int z2_2), .val (.int z3_3), .val (.long z4_5), .second, .val (.int (z4_5.toInt32)), .val (.int z66_15)] [(.int (1 : Int32))])) tgt → Steps p.tables e below (T18.setTop (mkF m 73 #[.val (.int p1), .val (.int p2), .val (.int z2_2), .val (.int z3_3), .val (.long z4_5), .second, .val (.int (z4_5.toInt32)), .val (.int z66_15)] [(.int (F1 (z4_5.toInt32)))])) tgt := by
        intro tgt kt
        refine XS.iload X18.here hx rfl (hb hby at_73) rfl ?_
        show Steps p.tables e below (T18.setTop (mkF m 75 #[.val (.int p1), .val (.int p2), .val (.int z2_2), .val (.int z3_3), .val (.long z4_5), .second, .val (.int (z4_5.toInt32)), .val (.int z66_15)] [(.int z66_15), (.int (F1 (z4_5.toInt32)))])) _
        refine XS.icmpNo X18.here hx rfl (hb hby at_75) rfl (teq hc75_19).2 ?_
        show Steps p.tables e below (T18.setTop (mkF m 78 #[.val (.int p1), .val (.int p2), .val (.int z2_2), .val (.int z3_3), .val (.long z4_5), .second, .val (.int (z4_5.toInt32)), .val (.int z66_15)] [])) _
        refine XS.iconst X18.here hx rfl (hb hby at_78) ?_
        show Steps p.tables e below (T18.setTop (mkF m 79 #[.val (.int p1), .val (.int p2), .val (.int z2_2), .val (.int z3_3), .val (.long z4_5), .second, .val (.int (z4_5.toInt32)), .val (.int z66_15)] [(.int (1 : Int32))])) _
        refine XS.goto X18.here hx rfl (pc0 := 79) (pc' := 83) rfl (hb hby at_79) (by decide) (by decide) ?_
        show Steps p.tables e below (T18.setTop (mkF m 83 #[.val (.int p1), .val (.int p2), .val (.int z2_2), .val (.int z3_3), .val (.long z4_5), .second, .val (.int (z4_5.toInt32)), .val (.int z66_15)] [(.int (1 : Int32))])) _
        exact kt
      refine OwnG.st sg20 ?_
      have hv : (1 : Int32) = 1 := rfl
      exact OwnG.retN X18 hx (t := .boolean) (by simp) Bd.returns (BodyLoose.notSynchronized Bd) (hb hby at_83) ⟨congrArg (fun w => some (Value.int (nar .boolean w))) hv, N18⟩ (by decide) (by decide)
set_option maxRecDepth 65536 in
set_option maxHeartbeats 40000000 in
theorem comes_1 {Post : Tables → Env → Array Value → State → Outcome → State → Prop} (hpost : ∀ tb e args s v u, (limb_1_1.after args s (.returned v) u = true ∧ limb_1_2.after args s (.returned v) u = true ∧ True) → FrameEnd s (.returned v) u (Jvm.fieldLocs frame_1_writes args s ++ Jvm.arrayLocs frame_1_arrays args s ++ Jvm.staticLocs frame_1_statics s) 0 0 → Post tb e args s (.returned v) u) :
    ArmFor flags0 classFile x code maxLocals ret World_1 tables_1 room_1 Calls_1 rest_1 Pre_1 Post := by
  intro l hfl _ _ p e ha hc hk s m args below hf hA hF happ hP
  obtain ⟨hcalls, hrest, hpre⟩ := hP
  obtain ⟨-, -, -, hnamed, -, -, -, hat⟩ := (Spec.applies_iff hf).mp happ
  obtain ⟨hg, hn⟩ := and_e (Cond.before_iff.mp (show (Jvm.Cond.and given_1 narrow_1).before args s = true from hpre))
  obtain ⟨g1, g2⟩ := and_e hg
  obtain ⟨g3, g4⟩ := and_e g2
  obtain ⟨w0, w1, rfl⟩ : ∃ w0 w1 : Value, args = #[w0, w1] := by
    have hs : args.size = 2 := by simpa [Cond.value, given_1] using g1
    obtain ⟨L⟩ := args
    match L, hs with
    | [w0, w1], _ => exact ⟨w0, w1, rfl⟩
  have hw := fun d (hd : d ∈ tables_1) => atoms_spec (ws := Jvm.Cond.code x code maxLocals ret :: tables_1) hat d (List.mem_cons_of_mem _ hd)
  obtain ⟨i0, ei0⟩ := is_v g3
  obtain rfl : w0 = (.int i0) := Option.some.inj ei0
  obtain ⟨i1, ei1⟩ := is_v g4
  obtain rfl : w1 = (.int i1) := Option.some.inj ei1
  obtain ⟨n, o, h1, h2, h3, _, L, rfl, ⟨rfl, N⟩, hq⟩ := rm0 l s _ hw tables_1 i0 i1  s.heap s.heap.size (Nat.le_refl _)  p e ha hc hk s m _ below hf ((Spec.applies_iff_loose hf).mp happ).1 ⟨rfl, State.Warmed39.refl s, rfl⟩ trivial
  refine ⟨n, _, h1, h2, h3, hpost _ _ _ _ _ _ ⟨Cond.after_iff.mpr rfl, Cond.after_iff.mpr (eq_i res_at (Term.int_eval (1)) rfl), trivial⟩ ⟨hq.1, hq.2.1, (hq.2.2.sift fun y hy => Or.inr (N y hy)).mono (by decide) (by decide)⟩⟩
theorem main_1_1 : Claimed_1_1 := comes_1 fun _ _ _ _ _ _ h hF => ⟨h.1, hF⟩
theorem main_1_2 : Claimed_1_2 := comes_1 fun _ _ _ _ _ _ h hF => ⟨h.2.1, hF⟩
end Jvm.Pilot.@@N@@
namespace Jvm.Pilot.@@N@@
open Jvm Jvm.ClassFile Sem Op Lib Jvm.Free Jvm.Stand Jvm.Pilot.@@N@@.Jvm.D
/-! MADE BY PROGRAM (witnessworld.py) out of the Statement's table words and the real class files: 10 classes; the members and pool entries that the words name. The judged class is class 1, her method 1. -/
namespace start1
open Jvm.ClassFile
def u (s : String) : CpInfo := .utf8 (stringToUtf16 s)
/-- a pool by its gaps: so many unusable entries, then the entry; so many at the end -/
def gap : Nat → List CpInfo → List CpInfo
  | 0, r => r
  | n + 1, r => .unusable :: gap n r
def poolList (es : List (Nat × CpInfo)) (last : Nat) : List CpInfo := es.foldr (fun e r => gap e.1 (e.2 :: r)) (gap last [])
def pool (es : List (Nat × CpInfo)) (last : Nat) : Array CpInfo := ⟨poolList es last⟩
def fileOf (pool : Array CpInfo) (this : Nat) (attrs : Array Attribute := #[]) (ms : Array MethodInfo := #[]) (fl : Nat := 33) (sup : Nat := 0) (ifs : Array Nat := #[]) (fds : Array FieldInfo := #[]) : ClassFile where
  minorVersion := 0
  majorVersion := 65
  constantPool := pool
  accessFlags := fl
  thisClass := this
  superClass := sup
  interfaces := ifs
  fields := fds
  methods := ms
  attributes := attrs
def plain (name : String) (sup : Option ClassId) : Class where
  name := name
  kind := .ordinary
  loader := none
  accessFlags := 33
  super := sup
  interfaces := #[]
  cf := none
  fields := #[]
  methods := #[]
  instanceTypes := #[]
  staticTypes := #[]
  resolved := #[]
  callSites := []
  init := .initialized
  statics := none
  mirror := none

def pool0 : Array CpInfo := pool [(5, u "<init>"), (0, u "()V"), (1, .class_ 10), (1, u "java/lang/Object")] 113

def k0m0 : Method := { name := "<init>", desc := "()V", sig := { parameters := [], returnType := none }, accessFlags := 1, code := none }
/-- java/lang/Object -/
def k0 : Class := { plain "java/lang/Object" none with
  accessFlags := 33
  interfaces := #[]
  cf := some (fileOf pool0 8 #[] #[{ accessFlags := 1, nameIndex := 5, descriptorIndex := 6, attributes := #[] }] 33 0 #[] #[])
  fields := #[]
  methods := #[k0m0]
  instanceTypes := #[]
  staticTypes := #[]
  resolved := Array.replicate 124 none
  statics := none }

def pool1 : Array CpInfo := pool [(2, .class_ 4), (1, u "java/lang/Object"), (0, u "<init>"), (0, u "()V"), (0, .integer 178956974), (0, .integer 2147483647), (0, .long 25), (1, .long 12), (1, .long 2147483647), (1, .long 18446744071562067968), (1, .methodref 18 19), (0, .class_ 20), (0, .nameAndType 21 22), (0, u "com/example/provenir/provenir/Iso2709Record"), (0, u "followsWholeEntries"), (0, u "(I)Z"), (0, .class_ 24), (0, u "com/example/provenir/provenir/Iso2709RecordFollowsWholeEntriesPinLaw"), (2, u "law"), (0, u "(II)Z")] 3

def k1m0 : Method := { name := "<init>", desc := "()V", sig := { parameters := [], returnType := none }, accessFlags := 1, code := none }
def k1c1 : Code := { maxStack := 6, maxLocals := 8, code := code, exceptionTable := #[], attributes := #[] }
def k1m1 : Method := { name := "law", desc := "(II)Z", sig := { parameters := [.int, .int], returnType := some .boolean }, accessFlags := 9, code := some k1c1 }
/-- com/example/provenir/provenir/Iso2709RecordFollowsWholeEntriesPinLaw -/
def k1 : Class := { plain "com/example/provenir/provenir/Iso2709RecordFollowsWholeEntriesPinLaw" (some 0) with
  accessFlags := 49
  interfaces := #[]
  cf := some (fileOf pool1 23 #[] #[{ accessFlags := 1, nameIndex := 5, descriptorIndex := 6, attributes := #[] }, { accessFlags := 9, nameIndex := 27, descriptorIndex := 28, attributes := #[] }] 49 2 #[] #[])
  fields := #[]
  methods := #[k1m0, k1m1]
  instanceTypes := #[]
  staticTypes := #[]
  resolved := Array.replicate 32 none
  statics := none }

def pool2 : Array CpInfo := pool [(2, .class_ 4), (1, u "com/example/provenir/provenir/UnimarcRecord"), (7, .class_ 14), (1, u "com/example/provenir/provenir/UnimarcRecord$Fields"), (2, .class_ 18), (0, u "java/lang/Object"), (0, u "LEADER_LENGTH"), (0, u "I"), (18, .class_ 40), (0, u "com/example/provenir/provenir/UnimarcRecord$Fields$1")] 2

/-- com/example/provenir/provenir/UnimarcRecord -/
def k2 : Class := { plain "com/example/provenir/provenir/UnimarcRecord" (some 0) with
  accessFlags := 1536
  interfaces := #[]
  cf := some (fileOf pool2 2 #[.nestMembers #[12, 39]] #[] 1536 17 #[] #[{ accessFlags := 25, nameIndex := 19, descriptorIndex := 20, attributes := #[] }])
  fields := #[{ name := "LEADER_LENGTH", type := .int, accessFlags := 25, slot := 0, constantValue := 0 }]
  methods := #[]
  instanceTypes := #[]
  staticTypes := #[.int]
  resolved := Array.replicate 43 none
  statics := none }

def pool3 : Array CpInfo := pool [(2, .class_ 4), (1, u "java/lang/Object"), (0, u "<init>"), (0, u "()V"), (4, .class_ 13), (1, u "com/example/provenir/provenir/Iso2709Record"), (0, u "controlText"), (0, u "Lcom/example/provenir/provenir/Utf8Text;"), (0, .class_ 17), (0, u "com/example/provenir/provenir/Iso2709Record$InPlaceFields"), (5, u "fields"), (0, u "Lcom/example/provenir/provenir/Iso2709Record$InPlaceFields;"), (2, u "bytes"), (0, u "[B"), (2, u "length"), (0, u "I"), (2, u "starts"), (0, u "[I"), (2, u "ends"), (2, u "count"), (89, .class_ 133), (0, u "com/example/provenir/provenir/Iso2709Record$Edit"), (77, u "(I)Z"), (31, .class_ 244), (0, u "com/example/provenir/provenir/UnimarcRecord"), (38, .class_ 284), (0, u "com/example/provenir/provenir/Iso2709Record$Encoded"), (84, u "followsWholeEntries"), (77, u "MINIMUM_LENGTH"), (2, u "LENGTH_DIGITS"), (1, u "MAXIMUM_LENGTH"), (0, u "MAXIMUM_FIELD_LENGTH"), (1, u "BASE_ADDRESS"), (1, u "BASE_ADDRESS_DIGITS"), (0, u "ENTRY_LENGTH"), (0, u "TAG_LENGTH"), (1, u "FIELD_LENGTH_DIGITS"), (1, u "START_DIGITS"), (0, u "SUBFIELD_DELIMITER"), (0, u "B"), (1, u "FIELD_TERMINATOR"), (1, u "RECORD_TERMINATOR"), (41, .class_ 512), (0, u "com/example/provenir/provenir/Iso2709Record$Length")] 79

def k3m0 : Method := { name := "<init>", desc := "()V", sig := { parameters := [], returnType := none }, accessFlags := 0, code := none }
def k3c1 : Code := { maxStack := 2, maxLocals := 1, code := prog_12_method_31_code, exceptionTable := #[], attributes := #[] }
def k3m1 : Method := { name := "followsWholeEntries", desc := "(I)Z", sig := { parameters := [.int], returnType := some .boolean }, accessFlags := 8, code := some k3c1 }
/-- com/example/provenir/provenir/Iso2709Record -/
def k3 : Class := { plain "com/example/provenir/provenir/Iso2709Record" (some 0) with
  accessFlags := 48
  interfaces := #[2]
  cf := some (fileOf pool3 11 #[.nestMembers #[511, 283, 16, 132]] #[{ accessFlags := 0, nameIndex := 5, descriptorIndex := 6, attributes := #[] }, { accessFlags := 8, nameIndex := 369, descriptorIndex := 211, attributes := #[] }] 48 2 #[243] #[{ accessFlags := 24, nameIndex := 447, descriptorIndex := 32, attributes := #[] }, { accessFlags := 24, nameIndex := 450, descriptorIndex := 32, attributes := #[] }, { accessFlags := 24, nameIndex := 452, descriptorIndex := 32, attributes := #[] }, { accessFlags := 24, nameIndex := 453, descriptorIndex := 32, attributes := #[] }, { accessFlags := 26, nameIndex := 455, descriptorIndex := 32, attributes := #[] }, { accessFlags := 26, nameIndex := 457, descriptorIndex := 32, attributes := #[] }, { accessFlags := 26, nameIndex := 458, descriptorIndex := 32, attributes := #[] }, { accessFlags := 26, nameIndex := 459, descriptorIndex := 32, attributes := #[] }, { accessFlags := 26, nameIndex := 461, descriptorIndex := 32, attributes := #[] }, { accessFlags := 26, nameIndex := 463, descriptorIndex := 32, attributes := #[] }, { accessFlags := 26, nameIndex := 464, descriptorIndex := 465, attributes := #[] }, { accessFlags := 26, nameIndex := 467, descriptorIndex := 465, attributes := #[] }, { accessFlags := 24, nameIndex := 469, descriptorIndex := 465, attributes := #[] }, { accessFlags := 2, nameIndex := 27, descriptorIndex := 28, attributes := #[] }, { accessFlags := 2, nameIndex := 31, descriptorIndex := 32, attributes := #[] }, { accessFlags := 2, nameIndex := 35, descriptorIndex := 36, attributes := #[] }, { accessFlags := 2, nameIndex := 39, descriptorIndex := 36, attributes := #[] }, { accessFlags := 2, nameIndex := 42, descriptorIndex := 32, attributes := #[] }, { accessFlags := 18, nameIndex := 14, descriptorIndex := 15, attributes := #[] }, { accessFlags := 18, nameIndex := 23, descriptorIndex := 24, attributes := #[] }])
  fields := #[{ name := "MINIMUM_LENGTH", type := .int, accessFlags := 24, slot := 0, constantValue := 0 }, { name := "LENGTH_DIGITS", type := .int, accessFlags := 24, slot := 1, constantValue := 0 }, { name := "MAXIMUM_LENGTH", type := .int, accessFlags := 24, slot := 2, constantValue := 0 }, { name := "MAXIMUM_FIELD_LENGTH", type := .int, accessFlags := 24, slot := 3, constantValue := 0 }, { name := "BASE_ADDRESS", type := .int, accessFlags := 26, slot := 4, constantValue := 0 }, { name := "BASE_ADDRESS_DIGITS", type := .int, accessFlags := 26, slot := 5, constantValue := 0 }, { name := "ENTRY_LENGTH", type := .int, accessFlags := 26, slot := 6, constantValue := 0 }, { name := "TAG_LENGTH", type := .int, accessFlags := 26, slot := 7, constantValue := 0 }, { name := "FIELD_LENGTH_DIGITS", type := .int, accessFlags := 26, slot := 8, constantValue := 0 }, { name := "START_DIGITS", type := .int, accessFlags := 26, slot := 9, constantValue := 0 }, { name := "SUBFIELD_DELIMITER", type := .byte, accessFlags := 26, slot := 10, constantValue := 0 }, { name := "FIELD_TERMINATOR", type := .byte, accessFlags := 26, slot := 11, constantValue := 0 }, { name := "RECORD_TERMINATOR", type := .byte, accessFlags := 24, slot := 12, constantValue := 0 }, { name := "bytes", type := (.array .byte), accessFlags := 2, slot := 0, constantValue := 0 }, { name := "length", type := .int, accessFlags := 2, slot := 1, constantValue := 0 }, { name := "starts", type := (.array .int), accessFlags := 2, slot := 2, constantValue := 0 }, { name := "ends", type := (.array .int), accessFlags := 2, slot := 3, constantValue := 0 }, { name := "count", type := .int, accessFlags := 2, slot := 4, constantValue := 0 }, { name := "controlText", type := (.object "com/example/provenir/provenir/Utf8Text"), accessFlags := 18, slot := 5, constantValue := 0 }, { name := "fields", type := (.object "com/example/provenir/provenir/Iso2709Record$InPlaceFields"), accessFlags := 18, slot := 6, constantValue := 0 }]
  methods := #[k3m0, k3m1]
  instanceTypes := #[(.array .byte), .int, (.array .int), (.array .int), .int, (.object "com/example/provenir/provenir/Utf8Text"), (.object "com/example/provenir/provenir/Iso2709Record$InPlaceFields")]
  staticTypes := #[.int, .int, .int, .int, .int, .int, .int, .int, .int, .int, .byte, .byte, .byte]
  resolved := Array.replicate 592 none
  statics := none }

def pool4 : Array CpInfo := pool [(1, u "java/lang/Cloneable"), (0, .class_ 1), (0, u "java/lang/Object"), (0, .class_ 3)] 3

/-- java/lang/Cloneable -/
def k4 : Class := { plain "java/lang/Cloneable" (some 0) with
  accessFlags := 1537
  interfaces := #[]
  cf := some (fileOf pool4 2 #[] #[] 1537 4 #[] #[])
  fields := #[]
  methods := #[]
  instanceTypes := #[]
  staticTypes := #[]
  resolved := Array.replicate 8 none
  statics := none }

def pool5 : Array CpInfo := pool [(1, u "java/io/Serializable"), (0, .class_ 1), (0, u "java/lang/Object"), (0, .class_ 3)] 3

/-- java/io/Serializable -/
def k5 : Class := { plain "java/io/Serializable" (some 0) with
  accessFlags := 1537
  interfaces := #[]
  cf := some (fileOf pool5 2 #[] #[] 1537 4 #[] #[])
  fields := #[]
  methods := #[]
  instanceTypes := #[]
  staticTypes := #[]
  resolved := Array.replicate 8 none
  statics := none }

/-- the primitive byte -/
def k6 : Class := { plain "byte" none with kind := .primitive 'B', accessFlags := 0x411 }
/-- [B -/
def k7 : Class := { plain "[B" (some 0) with kind := .array 6 .byte, interfaces := #[4, 5], accessFlags := 1041 }

/-- the primitive int -/
def k8 : Class := { plain "int" none with kind := .primitive 'I', accessFlags := 0x411 }
/-- [I -/
def k9 : Class := { plain "[I" (some 0) with kind := .array 8 .int, interfaces := #[4, 5], accessFlags := 1041 }

def heap : Heap := #[]
def classes : Array Class := #[k0, k1, k2, k3, k4, k5, k6, k7, k8, k9]
def interned : List (Array UInt16 × Addr) := []
def slotsUsed : Nat := 0
def theMethod : MethodId := ⟨1, 1⟩
def args0 : Array Value := #[.int 5, .int 5]
def aboutOver (below : List Frame) : State where
  vm := { classes := classes, interned := interned.toArray }
  heap := heap
  slotsUsed := slotsUsed
  threads := #[{ frames := .invoking theMethod args0 :: below }]
def below0 : List Frame := [.native { method := ⟨0, 0⟩, args := #[] }]
def about1 : State := aboutOver below0
def p0 : Program := .bare "" "" ""
def e0 : Env := launch0.env 0 0 0
theorem w_frames : about1.frames = Frame.invoking theMethod args0 :: below0 := rfl
set_option maxRecDepth 65536 in
theorem w_args : argsFit about1.vm theMethod args0 = true := by decide +kernel
set_option maxRecDepth 65536 in
theorem w_heap : heapFits about1 = true := by decide +kernel
set_option maxRecDepth 65536 in
theorem w_runnable : about1.curStatus? = some .runnable := by decide +kernel
set_option maxRecDepth 65536 in
theorem w_alone : about1.alone = true := by decide +kernel
set_option maxRecDepth 65536 in
theorem w_named : about1.methodNamed? x = some theMethod := by decide +kernel
set_option maxRecDepth 65536 in
theorem w_hears : about1.hears theMethod below0 = true := by decide +kernel
set_option maxRecDepth 65536 in
theorem w_ripe : about1.ripe theMethod args0 below0 = true := by decide +kernel
theorem w_running : about1.status = .running := rfl
set_option maxRecDepth 65536 in
theorem w_room : about1.hasRoom e0.platform room_1 = true :=
  launch0.hasRoom_least _ room_1 (by decide +kernel) (by decide +kernel) (by decide +kernel) (by decide +kernel) (by decide +kernel) (by decide +kernel)
theorem allAtoms_all (ts : List Jvm.Cond) (a : Array Jvm.Value) (st : Jvm.State) : (allAtoms ts).before a st = ts.all (fun c => c.before a st) := by
  induction ts with
  | nil => rfl
  | cons c t ih =>
    show (Jvm.Cond.and c (allAtoms t)).before a st = _
    rw [Jvm.Cond.before_and, ih, List.all_cons]
def words1 : List Jvm.Cond := Jvm.Cond.code x code maxLocals ret :: tables_1
/-- a 'code' word, met by the world's own term for the bytes: nothing is compared byte by byte -/
theorem code_word {y : MethodName} {bytes : ByteArray} {mx : Nat} {rt : Option FieldType} {a : Array Value} {s : State} {m : MethodId} {meth : Method} {c : Code} (h1 : s.methodNamed? y = some m) (h2 : s.vm.method? m = some meth) (h3 : meth.code = some c) (h4 : c.code = bytes)
    (h5 : (c.maxLocals == mx && c.exceptionTable.isEmpty && decide (c.maxStack ≤ mostOperands) && decide (meth.sig.returnType = rt) && !meth.locks && decide (parseMethodDescriptor y.desc = some meth.sig)) = true) : (Jvm.Cond.code y bytes mx rt).before a s = true := by
  simp only [Bool.and_eq_true, beq_iff_eq, Bool.not_eq_true', decide_eq_true_eq] at h5
  obtain ⟨⟨⟨⟨⟨g1, g2⟩, g3⟩, g4⟩, g5⟩, g6⟩ := h5
  simp [Cond.before, Cond.holds, Cond.value, h1, h2, h3, h4, g1, g2, g3, g4, g5, g6]
def isCode : Jvm.Cond → Bool
  | .code _ _ _ _ => true
  | _ => false
theorem all_split {L : List Jvm.Cond} {P : Jvm.Cond → Bool} (h1 : L.all (fun c => isCode c || P c) = true) (h2 : ∀ c ∈ L.filter isCode, P c = true) : L.all P = true := by
  refine List.all_eq_true.mpr fun c hc => ?_
  have h := List.all_eq_true.mp h1 c hc
  rcases Bool.eq_false_or_eq_true (isCode c) with hi | hi
  · exact h2 c (List.mem_filter.mpr ⟨hc, hi⟩)
  · simpa [hi] using h
set_option maxRecDepth 65536 in
theorem w_c0 : (Jvm.Cond.code x code maxLocals ret).before args0 about1 = true := code_word (m := ⟨1, 1⟩) (meth := k1m1) (c := k1c1) (by decide +kernel) rfl rfl rfl (by decide +kernel)
set_option maxRecDepth 65536 in
theorem w_c1 : (Jvm.Cond.code ({ cls := "com/example/provenir/provenir/Iso2709Record", name := "followsWholeEntries", desc := "(I)Z" } : Jvm.MethodName) prog_12_method_31_code (1 : Nat) (Option.some Jvm.ClassFile.FieldType.boolean)).before args0 about1 = true := code_word (m := ⟨3, 1⟩) (meth := k3m1) (c := k3c1) (by decide +kernel) rfl rfl rfl (by decide +kernel)
def codes1 : List Jvm.Cond := [Jvm.Cond.code x code maxLocals ret, Jvm.Cond.code ({ cls := "com/example/provenir/provenir/Iso2709Record", name := "followsWholeEntries", desc := "(I)Z" } : Jvm.MethodName) prog_12_method_31_code (1 : Nat) (Option.some Jvm.ClassFile.FieldType.boolean)]
set_option maxRecDepth 65536 in
theorem codes_eq : words1.filter isCode = codes1 := rfl
theorem w_codes : ∀ c ∈ words1.filter isCode, c.before args0 about1 = true := by
  rw [codes_eq]
  intro c hc
  simp only [codes1, List.mem_cons, List.not_mem_nil, or_false] at hc
  rcases hc with rfl | rfl
  · exact w_c0
  · exact w_c1
set_option maxRecDepth 65536 in
theorem w_t1 : words1.all (fun c => isCode c || c.before args0 about1) = true := by decide +kernel
theorem w_tables : (allAtoms (Jvm.Cond.code x code maxLocals ret :: tables_1)).before args0 about1 = true := by
  rw [allAtoms_all]
  show words1.all (fun c => c.before args0 about1) = true
  refine all_split ?_ w_codes
  rw [w_t1]
set_option maxRecDepth 65536 in
theorem w_case : (Jvm.Cond.and given_1 narrow_1).before args0 about1 = true := by decide +kernel
theorem w_applies : (headSpec (Jvm.Cond.code x code maxLocals ret :: tables_1) room_1).applies x e0.platform about1 = true :=
  (Spec.applies_iff w_frames).mpr ⟨w_running, w_runnable, w_alone, w_named, w_hears, w_ripe, w_room, w_tables⟩
theorem atStart : AtStart classFile x code maxLocals ret World_1 tables_1 room_1 Calls_1 rest_1 Pre_1 launch0 p0 e0 about1 theMethod args0 below0 :=
  ⟨lists_1, trivial, launch0.admits_env _ _ _, launch0.least_env, fairChoices_fair.cas, fairChoices_fair.clock, w_frames, w_args, w_heap, w_applies, trivial, trivial, w_case⟩
end start1
theorem witness_1 : WitnessClaimed_1 := ⟨start1.p0, start1.e0, start1.about1, start1.theMethod, start1.args0, start1.below0, start1.atStart⟩
end Jvm.Pilot.@@N@@
