import JvmDerived
import JvmDerived.Pilot.@@N@@Statement
import JvmDerived.Pilot.@@N@@Code
set_option linter.unusedVariables false
set_option linter.unusedSimpArgs false
set_option maxHeartbeats 4000000
set_option maxRecDepth 8192
namespace Jvm.OwnKit
open Sem ClassFile Op Lib Jvm.Stand Jvm.Free Jvm.LawKit Jvm.RoadKit
section Own
variable {p : Program} {l : Launch} {e : Env} {R : Room} {s : State} {m : MethodId} {args : Array Value} {below : List Frame} {meth : Method} {c : Code} {T T' : State} {locs : List Loc} {cells slots : Nat}
/-- from the state T with the frame F on top the run comes to the method's end, and what Q says holds there -/
def OwnG (p : Program) (e : Env) (below : List Frame) (s : State) (Q : Option Value → Heap → List Loc → Prop) (k n : Nat) (T : State) (F : JFrame) : Prop :=
  ∃ s₂ o, Steps p.tables e below (T.setTop F) s₂ ∧ s₂.status = .running ∧ Ended s₂ below o ∧ ∃ v L, o = .returned v ∧ Q v s₂.heap L ∧ FrameEnd s o s₂ L k n
theorem OwnG.st {Q : Option Value → Heap → List Loc → Prop} {k n : Nat} {F F' : JFrame} (h : ∀ t, Steps p.tables e below (T'.setTop F') t → Steps p.tables e below (T.setTop F) t) (g : OwnG p e below s Q k n T' F') : OwnG p e below s Q k n T F := by
  obtain ⟨s2, o, h1, r⟩ := g
  exact ⟨s2, o, h _ h1, r⟩
theorem OwnG.leave (X : Stand p l e R s m args below meth c T locs cells slots) {Q : Option Value → Heap → List Loc → Prop} {k n : Nat} {F : JFrame} {v : Option Value} (hv : meth.sig.returnType = none → v = none) (hlk : meth.locks = false)
    (hs : ∀ fs, (∀ (f : JFrame) (acts : List Action), f.method = m → f.locked = none → f.entered = [] → (doReturn e (T.setTop f) acts v).1 = T.setFrames fs) → Steps p.tables e below (T.setTop F) (T.setFrames fs)) (hq : Q v T.heap locs) (hk : cells ≤ k) (hn : slots ≤ n) : OwnG p e below s Q k n T F := by
  obtain ⟨fs, hr, hrun, hended, hW, hsame⟩ := X.leave hv hlk
  exact ⟨_, _, hs fs hr, hrun, hended, _, _, rfl, hq, ⟨_, rfl⟩, hW, hsame.mono hk hn⟩
theorem OwnG.retI (X : Stand p l e R s m args below meth c T locs cells slots) (hx : p.tables.exec = Jvm.exec) {Q : Option Value → Heap → List Loc → Prop} {k n pc : Nat} {Ls : Array Slot} {z : Int32} {rest : List Value} (hret : meth.sig.returnType = some .int) (hlk : meth.locks = false) (hd : decode c.code pc = .ok (.ireturn, 1)) (hq : Q (some (.int z)) T.heap locs) (hk : cells ≤ k) (hn : slots ≤ n) : OwnG p e below s Q k n T (mkF m pc Ls (.int z :: rest)) :=
  OwnG.leave X (fun h => by rw [hret] at h; cases h) hlk (fun fs hr => retOut X hx hret rfl (Or.inl ⟨rfl, Or.inl rfl, z, rfl⟩) hd hr) hq hk hn
theorem OwnG.retJ (X : Stand p l e R s m args below meth c T locs cells slots) (hx : p.tables.exec = Jvm.exec) {Q : Option Value → Heap → List Loc → Prop} {k n pc : Nat} {Ls : Array Slot} {z : Int64} {rest : List Value} (hret : meth.sig.returnType = some .long) (hlk : meth.locks = false) (hd : decode c.code pc = .ok (.lreturn, 1)) (hq : Q (some (.long z)) T.heap locs) (hk : cells ≤ k) (hn : slots ≤ n) : OwnG p e below s Q k n T (mkF m pc Ls (.long z :: rest)) :=
  OwnG.leave X (fun h => by rw [hret] at h; cases h) hlk (fun fs hr => retOut X hx hret rfl (Or.inr (Or.inl ⟨rfl, rfl, z, rfl⟩)) hd hr) hq hk hn
theorem OwnG.retR (X : Stand p l e R s m args below meth c T locs cells slots) (hx : p.tables.exec = Jvm.exec) {Q : Option Value → Heap → List Loc → Prop} {k n pc : Nat} {Ls : Array Slot} {a : Addr} {rest : List Value} {t : FieldType} (hret : meth.sig.returnType = some t) (ht : t.isReference = true) (hnn : narrow t (.ref a) = .ref a) (hlk : meth.locks = false) (hd : decode c.code pc = .ok (.areturn, 1)) (hq : Q (some (.ref a)) T.heap locs) (hk : cells ≤ k) (hn : slots ≤ n) : OwnG p e below s Q k n T (mkF m pc Ls (.ref a :: rest)) :=
  OwnG.leave X (fun h => by rw [hret] at h; cases h) hlk (fun fs hr => retOut X hx hret hnn (Or.inr (Or.inr (Or.inr (Or.inr ⟨rfl, ht, rfl⟩)))) hd hr) hq hk hn
theorem OwnG.retN (X : Stand p l e R s m args below meth c T locs cells slots) (hx : p.tables.exec = Jvm.exec) {Q : Option Value → Heap → List Loc → Prop} {k n pc : Nat} {Ls : Array Slot} {z : Int32} {rest : List Value} {t : FieldType} (ht : t = .boolean ∨ t = .byte ∨ t = .char ∨ t = .short) (hret : meth.sig.returnType = some t) (hlk : meth.locks = false) (hd : decode c.code pc = .ok (.ireturn, 1)) (hq : Q (some (.int (nar t z))) T.heap locs) (hk : cells ≤ k) (hn : slots ≤ n) : OwnG p e below s Q k n T (mkF m pc Ls (.int z :: rest)) :=
  OwnG.leave X (fun h => by rw [hret] at h; cases h) hlk (fun fs hr => Jvm.RoadKit.retN X hx hret ht hd hr) hq hk hn
theorem OwnG.retV (X : Stand p l e R s m args below meth c T locs cells slots) (hx : p.tables.exec = Jvm.exec) {Q : Option Value → Heap → List Loc → Prop} {k n pc : Nat} {Ls : Array Slot} (hret : meth.sig.returnType = none) (hlk : meth.locks = false) (hd : decode c.code pc = .ok (.return_, 1)) (hq : Q none T.heap locs) (hk : cells ≤ k) (hn : slots ≤ n) : OwnG p e below s Q k n T (mkF m pc Ls []) :=
  OwnG.leave X (fun _ => rfl) hlk (fun fs hr => X.returnOut hx hret hd hr) hq hk hn
end Own
end Jvm.OwnKit
namespace Jvm.OwnKit
open Jvm.RoadKit
theorem x_iadd (x y : Int32) (h : -2147483648 ≤ x.toInt + y.toInt ∧ x.toInt + y.toInt < 2147483648) : (x + y).toInt = x.toInt + y.toInt := by
  have a := c_iadd x y
  have b := rng32 (x + y)
  omega
theorem x_isub (x y : Int32) (h : -2147483648 ≤ x.toInt - y.toInt ∧ x.toInt - y.toInt < 2147483648) : (x - y).toInt = x.toInt - y.toInt := by
  have a := c_isub x y
  have b := rng32 (x - y)
  omega
theorem x_imul (x y : Int32) (z : Int) (hz : x.toInt * y.toInt = z) (h : -2147483648 ≤ z ∧ z < 2147483648) : (x * y).toInt = z := by
  have a := c_imul x y
  have b := rng32 (x * y)
  rw [hz] at a
  omega
theorem x_ladd (x y : Int64) (h : -9223372036854775808 ≤ x.toInt + y.toInt ∧ x.toInt + y.toInt < 9223372036854775808) : (x + y).toInt = x.toInt + y.toInt := by
  have a := c_ladd x y
  have b := rng64 (x + y)
  omega
theorem x_lsub (x y : Int64) (h : -9223372036854775808 ≤ x.toInt - y.toInt ∧ x.toInt - y.toInt < 9223372036854775808) : (x - y).toInt = x.toInt - y.toInt := by
  have a := c_lsub x y
  have b := rng64 (x - y)
  omega
theorem x_lmul (x y : Int64) (z : Int) (hz : x.toInt * y.toInt = z) (h : -9223372036854775808 ≤ z ∧ z < 9223372036854775808) : (x * y).toInt = z := by
  have a := c_lmul x y
  have b := rng64 (x * y)
  rw [hz] at a
  omega
theorem x_l2i (x : Int64) (h : -2147483648 ≤ x.toInt ∧ x.toInt < 2147483648) : x.toInt32.toInt = x.toInt := by
  have a := c_l2i x
  have b := rng32 x.toInt32
  omega
end Jvm.OwnKit
namespace Jvm.Pilot.@@N@@
open Jvm Jvm.ClassFile Sem Op Lib Jvm.Free Jvm.Stand Jvm.LawKit Jvm.RoadKit Bundle Jvm.Pilot.@@N@@.Jvm.D Jvm.OwnKit
def F1 (p1 : Int32) (p2 : Int32) : Int64 := (((p1.toInt64) <<< ((44 : Int32) &&& 0x3f).toInt64) ||| ((p2.toInt64) &&& (4294967295 : Int64)))
theorem d1_0 : decode prog_70_method_2_code 0 = .ok (.iload_n 0, 1) := by decide +kernel
theorem d1_1 : decode prog_70_method_2_code 1 = .ok (.i2l, 1) := by decide +kernel
theorem d1_2 : decode prog_70_method_2_code 2 = .ok (.bipush 44, 2) := by decide +kernel
theorem d1_4 : decode prog_70_method_2_code 4 = .ok (.lshl, 1) := by decide +kernel
theorem d1_5 : decode prog_70_method_2_code 5 = .ok (.iload_n 1, 1) := by decide +kernel
theorem d1_6 : decode prog_70_method_2_code 6 = .ok (.i2l, 1) := by decide +kernel
theorem d1_7 : decode prog_70_method_2_code 7 = .ok (.ldc2_w 9, 3) := by decide +kernel
theorem d1_10 : decode prog_70_method_2_code 10 = .ok (.land, 1) := by decide +kernel
theorem d1_11 : decode prog_70_method_2_code 11 = .ok (.lor, 1) := by decide +kernel
theorem d1_12 : decode prog_70_method_2_code 12 = .ok (.lreturn, 1) := by decide +kernel
theorem pn_1 : plainName "com/example/weiche/weiche/graphgame/Token" = true := by first | (simp [plainName, overriddenIn]; done) | decide +kernel
theorem ef_1 (m : MethodId) (p1 : Int32) (p2 : Int32) : entryFrame m #[(.int p1), (.int p2)] 2 = mkF m 0 #[.val (.int p1), .val (.int p2)] [] := by first | (simp [entryFrame, mkF, argsToLocals, Value.category]; done) | rfl
def Q1 (Z : State) (p1 : Int32) (p2 : Int32) (h0 : Heap) (n0 : Nat) (v : Option Value) (h : Heap) (L : List Loc) : Prop := v = some (.long (F1 p1 p2)) ∧ Fr n0 L ∧ h = h0
set_option maxRecDepth 65536 in
set_option maxHeartbeats 40000000 in
theorem rm1 (l : Launch) (Z : State) (a0 : Array Value) (hw : ∀ d ∈ tables_1, d.before a0 Z = true) (ws : List Jvm.Cond) (p1 : Int32) (p2 : Int32)  (h0 : Heap) (n0 : Nat) (Z0 : n0 ≤ h0.size)  :
    MetFree l (⟨"com/example/weiche/weiche/graphgame/Token", "of", "(II)J"⟩ : MethodName) (head1 (Jvm.Cond.code (⟨"com/example/weiche/weiche/graphgame/Token", "of", "(II)J"⟩ : MethodName) prog_70_method_2_code 2 (some .long) :: ws) ({ frames := 0, cells := 0, slots := 0, locals := 0 } : Room)) (fun a U => a = #[(.int p1), (.int p2)] ∧ Z.Warmed39 U.vm ∧ U.heap = h0) (fun _ _ _ _ _ => True) (fun _ U o U' => ∃ v L, o = .returned v ∧ Q1 Z p1 p2 h0 n0 v U'.heap L ∧ FrameEnd U o U' L ({ frames := 0, cells := 0, slots := 0, locals := 0 } : Room).cells ({ frames := 0, cells := 0, slots := 0, locals := 0 } : Room).slots) := by
  refine MetFree.of_bodySF (plainFor_of_name pn_1) hisR ?_
  intro p e s m args below meth c s₁ Bd hml0 hP hK
  obtain ⟨rfl, hZ, hh⟩ := hP
  have hx := Bd.exec
  have hby := Bd.bytes
  have hml : c.maxLocals = 2 := hml0
  have hown : s.vm.findClass "com/example/weiche/weiche/graphgame/Token" = some m.cls := findClass_of_methodNamed Bd.named
  have hnm := (name_of_methodNamed Bd.named Bd.method).1
  have X0 : Stand p l e ({ frames := 0, cells := 0, slots := 0, locals := 0 } : Room) s m #[(.int p1), (.int p2)] below meth c s₁ [] 0 0 := Stand.of_body Bd
  have e0 : s₁.heap = h0 := by rw [← hh, Bd.state]; rfl
  have N0 := Fr.nil n0
  suffices hG : OwnG p e below s (Q1 Z p1 p2 h0 n0) ({ frames := 0, cells := 0, slots := 0, locals := 0 } : Room).cells ({ frames := 0, cells := 0, slots := 0, locals := 0 } : Room).slots s₁ (mkF m 0 #[.val (.int p1), .val (.int p2)] []) by
    obtain ⟨s2, o2, g1, g2⟩ := hG
    exact ⟨s2, o2, castTop (ef_1 m p1 p2) g1, g2⟩
  have sg1 : ∀ t, Steps p.tables e below (s₁.setTop (mkF m 12 #[.val (.int p1), .val (.int p2)] [(.long (((p1.toInt64) <<< ((44 : Int32) &&& 0x3f).toInt64) ||| ((p2.toInt64) &&& (4294967295 : Int64))))])) t → Steps p.tables e below (s₁.setTop (mkF m 0 #[.val (.int p1), .val (.int p2)] [])) t := by
    intro t k
    refine XS.iloadN X0.here hx rfl (hb hby d1_0) rfl ?_
    show Steps p.tables e below (s₁.setTop (mkF m 1 #[.val (.int p1), .val (.int p2)] [(.int p1)])) _
    refine XS.i2l X0.here hx rfl (hb hby d1_1) rfl ?_
    show Steps p.tables e below (s₁.setTop (mkF m 2 #[.val (.int p1), .val (.int p2)] [(.long (p1.toInt64))])) _
    refine XS.bipush X0.here hx rfl (hb hby d1_2) ?_
    show Steps p.tables e below (s₁.setTop (mkF m 4 #[.val (.int p1), .val (.int p2)] [(.int (44 : Int32)), (.long (p1.toInt64))])) _
    refine XS.lshl X0.here hx rfl (hb hby d1_4) rfl ?_
    show Steps p.tables e below (s₁.setTop (mkF m 5 #[.val (.int p1), .val (.int p2)] [(.long ((p1.toInt64) <<< ((44 : Int32) &&& 0x3f).toInt64))])) _
    refine XS.iloadN X0.here hx rfl (hb hby d1_5) rfl ?_
    show Steps p.tables e below (s₁.setTop (mkF m 6 #[.val (.int p1), .val (.int p2)] [(.int p2), (.long ((p1.toInt64) <<< ((44 : Int32) &&& 0x3f).toInt64))])) _
    refine XS.i2l X0.here hx rfl (hb hby d1_6) rfl ?_
    show Steps p.tables e below (s₁.setTop (mkF m 7 #[.val (.int p1), .val (.int p2)] [(.long (p2.toInt64)), (.long ((p1.toInt64) <<< ((44 : Int32) &&& 0x3f).toInt64))])) _
    refine X0.ldc2Long hx hown (mvT hZ (hw _ (List.mem_of_getElem? (i := 5) rfl))) (g := (mkF m 7 #[.val (.int p1), .val (.int p2)] [(.long (p2.toInt64)), (.long ((p1.toInt64) <<< ((44 : Int32) &&& 0x3f).toInt64))])) rfl (hb hby d1_7) _ ?_
    show Steps p.tables e below (s₁.setTop (mkF m 10 #[.val (.int p1), .val (.int p2)] [(.long (4294967295 : Int64)), (.long (p2.toInt64)), (.long ((p1.toInt64) <<< ((44 : Int32) &&& 0x3f).toInt64))])) _
    refine XS.land X0.here hx rfl (hb hby d1_10) rfl ?_
    show Steps p.tables e below (s₁.setTop (mkF m 11 #[.val (.int p1), .val (.int p2)] [(.long ((p2.toInt64) &&& (4294967295 : Int64))), (.long ((p1.toInt64) <<< ((44 : Int32) &&& 0x3f).toInt64))])) _
    refine XS.lor X0.here hx rfl (hb hby d1_11) rfl ?_
    show Steps p.tables e below (s₁.setTop (mkF m 12 #[.val (.int p1), .val (.int p2)] [(.long (((p1.toInt64) <<< ((44 : Int32) &&& 0x3f).toInt64) ||| ((p2.toInt64) &&& (4294967295 : Int64))))])) _
    exact k
  refine OwnG.st sg1 ?_
  have hv : (((p1.toInt64) <<< ((44 : Int32) &&& 0x3f).toInt64) ||| ((p2.toInt64) &&& (4294967295 : Int64))) = F1 p1 p2 := by simp only [F1]
  exact OwnG.retJ X0 hx Bd.returns (BodyLoose.notSynchronized Bd) (hb hby d1_12) ⟨congrArg (fun w => some (Value.long w)) hv, N0, e0⟩ (by decide) (by decide)
def F2 (p1 : Int32) : Int64 := (if p1 < (0 : Int32) then ((p1.toInt64) + (4294967296 : Int64)) else (p1.toInt64))
theorem d2_0 : decode method_2_code 0 = .ok (.iload_n 0, 1) := by decide +kernel
theorem d2_1 : decode method_2_code 1 = .ok (.ifCond .ge 10, 3) := by decide +kernel
theorem d2_4 : decode method_2_code 4 = .ok (.iload_n 0, 1) := by decide +kernel
theorem d2_5 : decode method_2_code 5 = .ok (.i2l, 1) := by decide +kernel
theorem d2_6 : decode method_2_code 6 = .ok (.ldc2_w 7, 3) := by decide +kernel
theorem d2_9 : decode method_2_code 9 = .ok (.ladd, 1) := by decide +kernel
theorem d2_10 : decode method_2_code 10 = .ok (.lreturn, 1) := by decide +kernel
theorem d2_11 : decode method_2_code 11 = .ok (.iload_n 0, 1) := by decide +kernel
theorem d2_12 : decode method_2_code 12 = .ok (.i2l, 1) := by decide +kernel
theorem d2_13 : decode method_2_code 13 = .ok (.lreturn, 1) := by decide +kernel
theorem pn_2 : plainName "com/example/weiche/weiche/graphgame/TokenOfPinLaw" = true := by first | (simp [plainName, overriddenIn]; done) | decide +kernel
theorem ef_2 (m : MethodId) (p1 : Int32) : entryFrame m #[(.int p1)] 1 = mkF m 0 #[.val (.int p1)] [] := by first | (simp [entryFrame, mkF, argsToLocals, Value.category]; done) | rfl
def Q2 (Z : State) (p1 : Int32) (h0 : Heap) (n0 : Nat) (v : Option Value) (h : Heap) (L : List Loc) : Prop := v = some (.long (F2 p1)) ∧ Fr n0 L ∧ h = h0
set_option maxRecDepth 65536 in
set_option maxHeartbeats 40000000 in
theorem rm2 (l : Launch) (Z : State) (a0 : Array Value) (hw : ∀ d ∈ tables_1, d.before a0 Z = true) (ws : List Jvm.Cond) (p1 : Int32)  (h0 : Heap) (n0 : Nat) (Z0 : n0 ≤ h0.size)  :
    MetFree l (⟨"com/example/weiche/weiche/graphgame/TokenOfPinLaw", "unsigned32", "(I)J"⟩ : MethodName) (head1 (Jvm.Cond.code (⟨"com/example/weiche/weiche/graphgame/TokenOfPinLaw", "unsigned32", "(I)J"⟩ : MethodName) method_2_code 1 (some .long) :: ws) ({ frames := 0, cells := 0, slots := 0, locals := 0 } : Room)) (fun a U => a = #[(.int p1)] ∧ Z.Warmed39 U.vm ∧ U.heap = h0) (fun _ _ _ _ _ => True) (fun _ U o U' => ∃ v L, o = .returned v ∧ Q2 Z p1 h0 n0 v U'.heap L ∧ FrameEnd U o U' L ({ frames := 0, cells := 0, slots := 0, locals := 0 } : Room).cells ({ frames := 0, cells := 0, slots := 0, locals := 0 } : Room).slots) := by
  refine MetFree.of_bodySF (plainFor_of_name pn_2) hisR ?_
  intro p e s m args below meth c s₁ Bd hml0 hP hK
  obtain ⟨rfl, hZ, hh⟩ := hP
  have hx := Bd.exec
  have hby := Bd.bytes
  have hml : c.maxLocals = 1 := hml0
  have hown : s.vm.findClass "com/example/weiche/weiche/graphgame/TokenOfPinLaw" = some m.cls := findClass_of_methodNamed Bd.named
  have hnm := (name_of_methodNamed Bd.named Bd.method).1
  have X0 : Stand p l e ({ frames := 0, cells := 0, slots := 0, locals := 0 } : Room) s m #[(.int p1)] below meth c s₁ [] 0 0 := Stand.of_body Bd
  have e0 : s₁.heap = h0 := by rw [← hh, Bd.state]; rfl
  have N0 := Fr.nil n0
  suffices hG : OwnG p e below s (Q2 Z p1 h0 n0) ({ frames := 0, cells := 0, slots := 0, locals := 0 } : Room).cells ({ frames := 0, cells := 0, slots := 0, locals := 0 } : Room).slots s₁ (mkF m 0 #[.val (.int p1)] []) by
    obtain ⟨s2, o2, g1, g2⟩ := hG
    exact ⟨s2, o2, castTop (ef_2 m p1) g1, g2⟩
  have sg1 : ∀ t, Steps p.tables e below (s₁.setTop (mkF m 1 #[.val (.int p1)] [(.int p1)])) t → Steps p.tables e below (s₁.setTop (mkF m 0 #[.val (.int p1)] [])) t := by
    intro t k
    refine XS.iloadN X0.here hx rfl (hb hby d2_0) rfl ?_
    show Steps p.tables e below (s₁.setTop (mkF m 1 #[.val (.int p1)] [(.int p1)])) _
    exact k
  refine OwnG.st sg1 ?_
  by_cases hc1_2 : p1 < (0 : Int32)
  · have sg3 : ∀ t, Steps p.tables e below (s₁.setTop (mkF m 10 #[.val (.int p1)] [(.long ((p1.toInt64) + (4294967296 : Int64)))])) t → Steps p.tables e below (s₁.setTop (mkF m 1 #[.val (.int p1)] [(.int p1)])) t := by
      intro t k
      refine XS.ifNo X0.here hx rfl (hb hby d2_1) rfl ((if0 _ _).trans (tlt hc1_2).2.1) ?_
      show Steps p.tables e below (s₁.setTop (mkF m 4 #[.val (.int p1)] [])) _
      refine XS.iloadN X0.here hx rfl (hb hby d2_4) rfl ?_
      show Steps p.tables e below (s₁.setTop (mkF m 5 #[.val (.int p1)] [(.int p1)])) _
      refine XS.i2l X0.here hx rfl (hb hby d2_5) rfl ?_
      show Steps p.tables e below (s₁.setTop (mkF m 6 #[.val (.int p1)] [(.long (p1.toInt64))])) _
      refine X0.ldc2Long hx hown (mvT hZ (hw _ (List.mem_of_getElem? (i := 21) rfl))) (g := (mkF m 6 #[.val (.int p1)] [(.long (p1.toInt64))])) rfl (hb hby d2_6) _ ?_
      show Steps p.tables e below (s₁.setTop (mkF m 9 #[.val (.int p1)] [(.long (4294967296 : Int64)), (.long (p1.toInt64))])) _
      refine XS.ladd X0.here hx rfl (hb hby d2_9) rfl ?_
      show Steps p.tables e below (s₁.setTop (mkF m 10 #[.val (.int p1)] [(.long ((p1.toInt64) + (4294967296 : Int64)))])) _
      exact k
    refine OwnG.st sg3 ?_
    have hv : ((p1.toInt64) + (4294967296 : Int64)) = F2 p1 := by simp only [F2, if_pos hc1_2]
    exact OwnG.retJ X0 hx Bd.returns (BodyLoose.notSynchronized Bd) (hb hby d2_10) ⟨congrArg (fun w => some (Value.long w)) hv, N0, e0⟩ (by decide) (by decide)
  · have sg4 : ∀ t, Steps p.tables e below (s₁.setTop (mkF m 13 #[.val (.int p1)] [(.long (p1.toInt64))])) t → Steps p.tables e below (s₁.setTop (mkF m 1 #[.val (.int p1)] [(.int p1)])) t := by
      intro t k
      refine XS.ifYes X0.here hx rfl (pc0 := 1) (pc' := 11) rfl (hb hby d2_1) rfl ((if0 _ _).trans (flt hc1_2).2.1) (by decide) (by decide) ?_
      show Steps p.tables e below (s₁.setTop (mkF m 11 #[.val (.int p1)] [])) _
      refine XS.iloadN X0.here hx rfl (hb hby d2_11) rfl ?_
      show Steps p.tables e below (s₁.setTop (mkF m 12 #[.val (.int p1)] [(.int p1)])) _
      refine XS.i2l X0.here hx rfl (hb hby d2_12) rfl ?_
      show Steps p.tables e below (s₁.setTop (mkF m 13 #[.val (.int p1)] [(.long (p1.toInt64))])) _
      exact k
    refine OwnG.st sg4 ?_
    have hv : (p1.toInt64) = F2 p1 := by simp only [F2, if_neg hc1_2]
    exact OwnG.retJ X0 hx Bd.returns (BodyLoose.notSynchronized Bd) (hb hby d2_13) ⟨congrArg (fun w => some (Value.long w)) hv, N0, e0⟩ (by decide) (by decide)
def F3 (q1 : Int64) : Int32 := (((q1.toUInt64 >>> ((44 : Int32) &&& 0x3f).toInt64.toUInt64).toInt64).toInt32)
theorem d3_0 : decode prog_70_method_4_code 0 = .ok (.lload_n 0, 1) := by decide +kernel
theorem d3_1 : decode prog_70_method_4_code 1 = .ok (.bipush 44, 2) := by decide +kernel
theorem d3_3 : decode prog_70_method_4_code 3 = .ok (.lushr, 1) := by decide +kernel
theorem d3_4 : decode prog_70_method_4_code 4 = .ok (.l2i, 1) := by decide +kernel
theorem d3_5 : decode prog_70_method_4_code 5 = .ok (.ireturn, 1) := by decide +kernel
theorem pn_3 : plainName "com/example/weiche/weiche/graphgame/Token" = true := by first | (simp [plainName, overriddenIn]; done) | decide +kernel
theorem ef_3 (m : MethodId) (q1 : Int64) : entryFrame m #[(.long q1)] 2 = mkF m 0 #[.val (.long q1), .second] [] := by first | (simp [entryFrame, mkF, argsToLocals, Value.category]; done) | rfl
def Q3 (Z : State) (q1 : Int64) (h0 : Heap) (n0 : Nat) (v : Option Value) (h : Heap) (L : List Loc) : Prop := v = some (.int (F3 q1)) ∧ Fr n0 L ∧ h = h0
set_option maxRecDepth 65536 in
set_option maxHeartbeats 40000000 in
theorem rm3 (l : Launch) (Z : State) (a0 : Array Value) (hw : ∀ d ∈ tables_1, d.before a0 Z = true) (ws : List Jvm.Cond) (q1 : Int64)  (h0 : Heap) (n0 : Nat) (Z0 : n0 ≤ h0.size)  :
    MetFree l (⟨"com/example/weiche/weiche/graphgame/Token", "place", "(J)I"⟩ : MethodName) (head1 (Jvm.Cond.code (⟨"com/example/weiche/weiche/graphgame/Token", "place", "(J)I"⟩ : MethodName) prog_70_method_4_code 2 (some .int) :: ws) ({ frames := 0, cells := 0, slots := 0, locals := 0 } : Room)) (fun a U => a = #[(.long q1)] ∧ Z.Warmed39 U.vm ∧ U.heap = h0) (fun _ _ _ _ _ => True) (fun _ U o U' => ∃ v L, o = .returned v ∧ Q3 Z q1 h0 n0 v U'.heap L ∧ FrameEnd U o U' L ({ frames := 0, cells := 0, slots := 0, locals := 0 } : Room).cells ({ frames := 0, cells := 0, slots := 0, locals := 0 } : Room).slots) := by
  refine MetFree.of_bodySF (plainFor_of_name pn_3) hisR ?_
  intro p e s m args below meth c s₁ Bd hml0 hP hK
  obtain ⟨rfl, hZ, hh⟩ := hP
  have hx := Bd.exec
  have hby := Bd.bytes
  have hml : c.maxLocals = 2 := hml0
  have hown : s.vm.findClass "com/example/weiche/weiche/graphgame/Token" = some m.cls := findClass_of_methodNamed Bd.named
  have hnm := (name_of_methodNamed Bd.named Bd.method).1
  have X0 : Stand p l e ({ frames := 0, cells := 0, slots := 0, locals := 0 } : Room) s m #[(.long q1)] below meth c s₁ [] 0 0 := Stand.of_body Bd
  have e0 : s₁.heap = h0 := by rw [← hh, Bd.state]; rfl
  have N0 := Fr.nil n0
  suffices hG : OwnG p e below s (Q3 Z q1 h0 n0) ({ frames := 0, cells := 0, slots := 0, locals := 0 } : Room).cells ({ frames := 0, cells := 0, slots := 0, locals := 0 } : Room).slots s₁ (mkF m 0 #[.val (.long q1), .second] []) by
    obtain ⟨s2, o2, g1, g2⟩ := hG
    exact ⟨s2, o2, castTop (ef_3 m q1) g1, g2⟩
  have sg1 : ∀ t, Steps p.tables e below (s₁.setTop (mkF m 5 #[.val (.long q1), .second] [(.int (((q1.toUInt64 >>> ((44 : Int32) &&& 0x3f).toInt64.toUInt64).toInt64).toInt32))])) t → Steps p.tables e below (s₁.setTop (mkF m 0 #[.val (.long q1), .second] [])) t := by
    intro t k
    refine XS.lloadN X0.here hx rfl (hb hby d3_0) rfl ?_
    show Steps p.tables e below (s₁.setTop (mkF m 1 #[.val (.long q1), .second] [(.long q1)])) _
    refine XS.bipush X0.here hx rfl (hb hby d3_1) ?_
    show Steps p.tables e below (s₁.setTop (mkF m 3 #[.val (.long q1), .second] [(.int (44 : Int32)), (.long q1)])) _
    refine XS.lushr X0.here hx rfl (hb hby d3_3) rfl ?_
    show Steps p.tables e below (s₁.setTop (mkF m 4 #[.val (.long q1), .second] [(.long ((q1.toUInt64 >>> ((44 : Int32) &&& 0x3f).toInt64.toUInt64).toInt64))])) _
    refine XS.l2i X0.here hx rfl (hb hby d3_4) rfl ?_
    show Steps p.tables e below (s₁.setTop (mkF m 5 #[.val (.long q1), .second] [(.int (((q1.toUInt64 >>> ((44 : Int32) &&& 0x3f).toInt64.toUInt64).toInt64).toInt32))])) _
    exact k
  refine OwnG.st sg1 ?_
  have hv : (((q1.toUInt64 >>> ((44 : Int32) &&& 0x3f).toInt64.toUInt64).toInt64).toInt32) = F3 q1 := by simp only [F3]
  exact OwnG.retI X0 hx Bd.returns (BodyLoose.notSynchronized Bd) (hb hby d3_5) ⟨congrArg (fun w => some (Value.int w)) hv, N0, e0⟩ (by decide) (by decide)
def F4 (q1 : Int64) : Int32 := (q1.toInt32)
theorem d4_0 : decode prog_70_method_5_code 0 = .ok (.lload_n 0, 1) := by decide +kernel
theorem d4_1 : decode prog_70_method_5_code 1 = .ok (.l2i, 1) := by decide +kernel
theorem d4_2 : decode prog_70_method_5_code 2 = .ok (.ireturn, 1) := by decide +kernel
theorem pn_4 : plainName "com/example/weiche/weiche/graphgame/Token" = true := by first | (simp [plainName, overriddenIn]; done) | decide +kernel
theorem ef_4 (m : MethodId) (q1 : Int64) : entryFrame m #[(.long q1)] 2 = mkF m 0 #[.val (.long q1), .second] [] := by first | (simp [entryFrame, mkF, argsToLocals, Value.category]; done) | rfl
def Q4 (Z : State) (q1 : Int64) (h0 : Heap) (n0 : Nat) (v : Option Value) (h : Heap) (L : List Loc) : Prop := v = some (.int (F4 q1)) ∧ Fr n0 L ∧ h = h0
set_option maxRecDepth 65536 in
set_option maxHeartbeats 40000000 in
theorem rm4 (l : Launch) (Z : State) (a0 : Array Value) (hw : ∀ d ∈ tables_1, d.before a0 Z = true) (ws : List Jvm.Cond) (q1 : Int64)  (h0 : Heap) (n0 : Nat) (Z0 : n0 ≤ h0.size)  :
    MetFree l (⟨"com/example/weiche/weiche/graphgame/Token", "commitment", "(J)I"⟩ : MethodName) (head1 (Jvm.Cond.code (⟨"com/example/weiche/weiche/graphgame/Token", "commitment", "(J)I"⟩ : MethodName) prog_70_method_5_code 2 (some .int) :: ws) ({ frames := 0, cells := 0, slots := 0, locals := 0 } : Room)) (fun a U => a = #[(.long q1)] ∧ Z.Warmed39 U.vm ∧ U.heap = h0) (fun _ _ _ _ _ => True) (fun _ U o U' => ∃ v L, o = .returned v ∧ Q4 Z q1 h0 n0 v U'.heap L ∧ FrameEnd U o U' L ({ frames := 0, cells := 0, slots := 0, locals := 0 } : Room).cells ({ frames := 0, cells := 0, slots := 0, locals := 0 } : Room).slots) := by
  refine MetFree.of_bodySF (plainFor_of_name pn_4) hisR ?_
  intro p e s m args below meth c s₁ Bd hml0 hP hK
  obtain ⟨rfl, hZ, hh⟩ := hP
  have hx := Bd.exec
  have hby := Bd.bytes
  have hml : c.maxLocals = 2 := hml0
  have hown : s.vm.findClass "com/example/weiche/weiche/graphgame/Token" = some m.cls := findClass_of_methodNamed Bd.named
  have hnm := (name_of_methodNamed Bd.named Bd.method).1
  have X0 : Stand p l e ({ frames := 0, cells := 0, slots := 0, locals := 0 } : Room) s m #[(.long q1)] below meth c s₁ [] 0 0 := Stand.of_body Bd
  have e0 : s₁.heap = h0 := by rw [← hh, Bd.state]; rfl
  have N0 := Fr.nil n0
  suffices hG : OwnG p e below s (Q4 Z q1 h0 n0) ({ frames := 0, cells := 0, slots := 0, locals := 0 } : Room).cells ({ frames := 0, cells := 0, slots := 0, locals := 0 } : Room).slots s₁ (mkF m 0 #[.val (.long q1), .second] []) by
    obtain ⟨s2, o2, g1, g2⟩ := hG
    exact ⟨s2, o2, castTop (ef_4 m q1) g1, g2⟩
  have sg1 : ∀ t, Steps p.tables e below (s₁.setTop (mkF m 2 #[.val (.long q1), .second] [(.int (q1.toInt32))])) t → Steps p.tables e below (s₁.setTop (mkF m 0 #[.val (.long q1), .second] [])) t := by
    intro t k
    refine XS.lloadN X0.here hx rfl (hb hby d4_0) rfl ?_
    show Steps p.tables e below (s₁.setTop (mkF m 1 #[.val (.long q1), .second] [(.long q1)])) _
    refine XS.l2i X0.here hx rfl (hb hby d4_1) rfl ?_
    show Steps p.tables e below (s₁.setTop (mkF m 2 #[.val (.long q1), .second] [(.int (q1.toInt32))])) _
    exact k
  refine OwnG.st sg1 ?_
  have hv : (q1.toInt32) = F4 q1 := by simp only [F4]
  exact OwnG.retI X0 hx Bd.returns (BodyLoose.notSynchronized Bd) (hb hby d4_2) ⟨congrArg (fun w => some (Value.int w)) hv, N0, e0⟩ (by decide) (by decide)
def F5 (q1 : Int64) : Int32 := ((((q1.toUInt64 >>> ((32 : Int32) &&& 0x3f).toInt64.toUInt64).toInt64) &&& (4095 : Int64)).toInt32)
theorem d5_0 : decode prog_70_method_6_code 0 = .ok (.lload_n 0, 1) := by decide +kernel
theorem d5_1 : decode prog_70_method_6_code 1 = .ok (.bipush 32, 2) := by decide +kernel
theorem d5_3 : decode prog_70_method_6_code 3 = .ok (.lushr, 1) := by decide +kernel
theorem d5_4 : decode prog_70_method_6_code 4 = .ok (.ldc2_w 13, 3) := by decide +kernel
theorem d5_7 : decode prog_70_method_6_code 7 = .ok (.land, 1) := by decide +kernel
theorem d5_8 : decode prog_70_method_6_code 8 = .ok (.l2i, 1) := by decide +kernel
theorem d5_9 : decode prog_70_method_6_code 9 = .ok (.ireturn, 1) := by decide +kernel
theorem pn_5 : plainName "com/example/weiche/weiche/graphgame/Token" = true := by first | (simp [plainName, overriddenIn]; done) | decide +kernel
theorem ef_5 (m : MethodId) (q1 : Int64) : entryFrame m #[(.long q1)] 2 = mkF m 0 #[.val (.long q1), .second] [] := by first | (simp [entryFrame, mkF, argsToLocals, Value.category]; done) | rfl
def Q5 (Z : State) (q1 : Int64) (h0 : Heap) (n0 : Nat) (v : Option Value) (h : Heap) (L : List Loc) : Prop := v = some (.int (F5 q1)) ∧ Fr n0 L ∧ h = h0
set_option maxRecDepth 65536 in
set_option maxHeartbeats 40000000 in
theorem rm5 (l : Launch) (Z : State) (a0 : Array Value) (hw : ∀ d ∈ tables_1, d.before a0 Z = true) (ws : List Jvm.Cond) (q1 : Int64)  (h0 : Heap) (n0 : Nat) (Z0 : n0 ≤ h0.size)  :
    MetFree l (⟨"com/example/weiche/weiche/graphgame/Token", "firings", "(J)I"⟩ : MethodName) (head1 (Jvm.Cond.code (⟨"com/example/weiche/weiche/graphgame/Token", "firings", "(J)I"⟩ : MethodName) prog_70_method_6_code 2 (some .int) :: ws) ({ frames := 0, cells := 0, slots := 0, locals := 0 } : Room)) (fun a U => a = #[(.long q1)] ∧ Z.Warmed39 U.vm ∧ U.heap = h0) (fun _ _ _ _ _ => True) (fun _ U o U' => ∃ v L, o = .returned v ∧ Q5 Z q1 h0 n0 v U'.heap L ∧ FrameEnd U o U' L ({ frames := 0, cells := 0, slots := 0, locals := 0 } : Room).cells ({ frames := 0, cells := 0, slots := 0, locals := 0 } : Room).slots) := by
  refine MetFree.of_bodySF (plainFor_of_name pn_5) hisR ?_
  intro p e s m args below meth c s₁ Bd hml0 hP hK
  obtain ⟨rfl, hZ, hh⟩ := hP
  have hx := Bd.exec
  have hby := Bd.bytes
  have hml : c.maxLocals = 2 := hml0
  have hown : s.vm.findClass "com/example/weiche/weiche/graphgame/Token" = some m.cls := findClass_of_methodNamed Bd.named
  have hnm := (name_of_methodNamed Bd.named Bd.method).1
  have X0 : Stand p l e ({ frames := 0, cells := 0, slots := 0, locals := 0 } : Room) s m #[(.long q1)] below meth c s₁ [] 0 0 := Stand.of_body Bd
  have e0 : s₁.heap = h0 := by rw [← hh, Bd.state]; rfl
  have N0 := Fr.nil n0
  suffices hG : OwnG p e below s (Q5 Z q1 h0 n0) ({ frames := 0, cells := 0, slots := 0, locals := 0 } : Room).cells ({ frames := 0, cells := 0, slots := 0, locals := 0 } : Room).slots s₁ (mkF m 0 #[.val (.long q1), .second] []) by
    obtain ⟨s2, o2, g1, g2⟩ := hG
    exact ⟨s2, o2, castTop (ef_5 m q1) g1, g2⟩
  have sg1 : ∀ t, Steps p.tables e below (s₁.setTop (mkF m 9 #[.val (.long q1), .second] [(.int ((((q1.toUInt64 >>> ((32 : Int32) &&& 0x3f).toInt64.toUInt64).toInt64) &&& (4095 : Int64)).toInt32))])) t → Steps p.tables e below (s₁.setTop (mkF m 0 #[.val (.long q1), .second] [])) t := by
    intro t k
    refine XS.lloadN X0.here hx rfl (hb hby d5_0) rfl ?_
    show Steps p.tables e below (s₁.setTop (mkF m 1 #[.val (.long q1), .second] [(.long q1)])) _
    refine XS.bipush X0.here hx rfl (hb hby d5_1) ?_
    show Steps p.tables e below (s₁.setTop (mkF m 3 #[.val (.long q1), .second] [(.int (32 : Int32)), (.long q1)])) _
    refine XS.lushr X0.here hx rfl (hb hby d5_3) rfl ?_
    show Steps p.tables e below (s₁.setTop (mkF m 4 #[.val (.long q1), .second] [(.long ((q1.toUInt64 >>> ((32 : Int32) &&& 0x3f).toInt64.toUInt64).toInt64))])) _
    refine X0.ldc2Long hx hown (mvT hZ (hw _ (List.mem_of_getElem? (i := 20) rfl))) (g := (mkF m 4 #[.val (.long q1), .second] [(.long ((q1.toUInt64 >>> ((32 : Int32) &&& 0x3f).toInt64.toUInt64).toInt64))])) rfl (hb hby d5_4) _ ?_
    show Steps p.tables e below (s₁.setTop (mkF m 7 #[.val (.long q1), .second] [(.long (4095 : Int64)), (.long ((q1.toUInt64 >>> ((32 : Int32) &&& 0x3f).toInt64.toUInt64).toInt64))])) _
    refine XS.land X0.here hx rfl (hb hby d5_7) rfl ?_
    show Steps p.tables e below (s₁.setTop (mkF m 8 #[.val (.long q1), .second] [(.long (((q1.toUInt64 >>> ((32 : Int32) &&& 0x3f).toInt64.toUInt64).toInt64) &&& (4095 : Int64)))])) _
    refine XS.l2i X0.here hx rfl (hb hby d5_8) rfl ?_
    show Steps p.tables e below (s₁.setTop (mkF m 9 #[.val (.long q1), .second] [(.int ((((q1.toUInt64 >>> ((32 : Int32) &&& 0x3f).toInt64.toUInt64).toInt64) &&& (4095 : Int64)).toInt32))])) _
    exact k
  refine OwnG.st sg1 ?_
  have hv : ((((q1.toUInt64 >>> ((32 : Int32) &&& 0x3f).toInt64.toUInt64).toInt64) &&& (4095 : Int64)).toInt32) = F5 q1 := by simp only [F5]
  exact OwnG.retI X0 hx Bd.returns (BodyLoose.notSynchronized Bd) (hb hby d5_9) ⟨congrArg (fun w => some (Value.int w)) hv, N0, e0⟩ (by decide) (by decide)
theorem own_or (a b : Int64) (m : Int) (ha : a.toInt = m * 17592186044416) (hm : -524288 ≤ m ∧ m < 524288) (hb : 0 ≤ b.toInt ∧ b.toInt < 4294967296) : (a ||| b).toInt = a.toInt + b.toInt := by
  have h := c_orL a b 44 (by decide) 17592186044416 rfl (by omega) (by omega) (by omega)
  have r := rng64 (a ||| b)
  omega
theorem own_F1 (p c : Int32) (h0 : 0 ≤ p.toInt) (h1 : p.toInt < 1048576) : (F1 p c).toInt = p.toInt * 17592186044416 + c.toInt % 4294967296 ∨ (F1 p c).toInt = p.toInt * 17592186044416 + c.toInt % 4294967296 - 18446744073709551616 := by
  have a1 := c_i2l p
  have a2 := c_i2l c
  have a3 := c_lshl p.toInt64 44 44 (by decide)
  have a4 := c_maskL c.toInt64 4294967295 32 (by decide) (by decide)
  obtain ⟨a, ha⟩ : ∃ a, a = (p.toInt64 <<< ((44 : Int32) &&& 0x3f).toInt64) := ⟨_, rfl⟩
  obtain ⟨b, hb⟩ : ∃ b, b = (c.toInt64 &&& (4294967295 : Int64)) := ⟨_, rfl⟩
  rw [← ha] at a3
  rw [← hb] at a4
  have r := rng64 a
  have hf : F1 p c = a ||| b := by rw [ha, hb]; rfl
  rw [hf]
  have k : a.toInt = p.toInt * 17592186044416 ∨ a.toInt = p.toInt * 17592186044416 - 18446744073709551616 := by omega
  clear a3
  rcases k with k | k
  · left
    rw [own_or a b p.toInt k (by omega) (by omega)]; omega
  · right
    rw [own_or a b (p.toInt - 1048576) (by omega) (by omega) (by omega)]; omega
theorem own_mask20 (s : Int32) : 0 ≤ (s &&& (1048575 : Int32)).toInt ∧ (s &&& (1048575 : Int32)).toInt < 1048576 := by
  have h := c_mask s 1048575 20 (by decide) (by decide)
  omega
theorem own_same (p c : Int32) (h : 0 ≤ p.toInt ∧ p.toInt < 1048576) : F1 p c = ((p.toInt64 * (17592186044416 : Int64)) + (F2 c)) := by
  have a0 := own_F1 p c h.1 h.2
  have a1 := c_i2l p
  have a2 := c_i2l c
  have e1 : (17592186044416 : Int64).toInt = 17592186044416 := rfl
  have e2 : (4294967296 : Int64).toInt = 4294967296 := rfl
  have r1 := rng32 c
  have a6 : (F2 c).toInt = c.toInt % 4294967296 := by
    unfold F2
    by_cases d : c < 0
    · rw [if_pos d]; rw [Int32.lt_iff_toInt_lt, show (0 : Int32).toInt = 0 from rfl] at d
      rw [x_ladd _ _ (by omega)]; omega
    · rw [if_neg d]; rw [Int32.lt_iff_toInt_lt, show (0 : Int32).toInt = 0 from rfl] at d; omega
  have a3 := c_lmul p.toInt64 17592186044416
  rw [e1, a1] at a3
  obtain ⟨a, ha⟩ : ∃ a, a = p.toInt64 * (17592186044416 : Int64) := ⟨_, rfl⟩
  rw [← ha] at a3 ⊢
  have r := rng64 a
  have k : a.toInt = p.toInt * 17592186044416 ∨ a.toInt = p.toInt * 17592186044416 - 18446744073709551616 := by omega
  clear a3
  have a4 := x_ladd a (F2 c) (by omega)
  have r0 := rng64 (F1 p c)
  rw [← Int64.toInt_inj, a4, a6]
  omega
theorem own_place (p c : Int32) (h : 0 ≤ p.toInt ∧ p.toInt < 1048576) : F3 (F1 p c) = p := by
  have a0 := own_F1 p c h.1 h.2
  have a1 := c_lushr (F1 p c) 44 44 (by decide) (by decide)
  obtain ⟨a, ha⟩ : ∃ a, a = ((F1 p c).toUInt64 >>> ((44 : Int32) &&& 0x3f).toInt64.toUInt64).toInt64 := ⟨_, rfl⟩
  have hf : F3 (F1 p c) = a.toInt32 := by rw [ha]; rfl
  rw [← ha] at a1
  have v : a.toInt = p.toInt := by
    rw [a1]
    rcases a0 with q | q <;> rw [q] <;> omega
  rw [hf, ← Int32.toInt_inj, x_l2i a (by omega), v]
theorem own_comm (p c : Int32) (h : 0 ≤ p.toInt ∧ p.toInt < 1048576) : F4 (F1 p c) = c := by
  have a0 := own_F1 p c h.1 h.2
  have a2 := c_l2i (F1 p c)
  have r2 := rng32 ((F1 p c).toInt32)
  have r1 := rng32 c
  have hf : F4 (F1 p c) = (F1 p c).toInt32 := rfl
  rw [hf, ← Int32.toInt_inj]
  rcases a0 with q | q <;> rw [q] at a2 <;> omega
theorem own_fire (p c : Int32) (h : 0 ≤ p.toInt ∧ p.toInt < 1048576) : F5 (F1 p c) = 0 := by
  have a0 := own_F1 p c h.1 h.2
  have a1 := c_lushr (F1 p c) 32 32 (by decide) (by decide)
  obtain ⟨a, ha⟩ : ∃ a, a = ((F1 p c).toUInt64 >>> ((32 : Int32) &&& 0x3f).toInt64.toUInt64).toInt64 := ⟨_, rfl⟩
  have hf : F5 (F1 p c) = (a &&& (4095 : Int64)).toInt32 := by rw [ha]; rfl
  rw [← ha] at a1
  have v : a.toInt = p.toInt * 4096 := by
    rw [a1]
    rcases a0 with q | q <;> rw [q] <;> omega
  have a3 := c_maskL a 4095 12 (by decide) (by decide)
  rw [hf, ← Int32.toInt_inj, x_l2i _ (by omega)]
  show _ = (0 : Int)
  omega
theorem pn_0 : plainName "com/example/weiche/weiche/graphgame/TokenOfPinLaw" = true := by first | (simp [plainName, overriddenIn]; done) | decide +kernel
theorem pd_0_0 : parseMethodDescriptor "(II)J" = some ⟨[.int, .int], some .long⟩ := by decide +kernel
theorem pd_0_1 : parseMethodDescriptor "(I)J" = some ⟨[.int], some .long⟩ := by decide +kernel
theorem pd_0_2 : parseMethodDescriptor "(J)I" = some ⟨[.long], some .int⟩ := by decide +kernel
theorem ef_0 (m : MethodId) (p1 : Int32) (p2 : Int32) (p3 : Int32) : entryFrame m #[(.int p1), (.int p2), (.int p3)] maxLocals = mkF m 0 #[.val (.int p1), .val (.int p2), .val (.int p3), .unset, .unset, .unset, .unset, .unset, .unset, .unset, .unset, .unset, .unset, .unset] [] := by first | (simp [entryFrame, mkF, argsToLocals, Value.category, maxLocals]; done) | rfl
def Q0 (Z : State) (p1 : Int32) (p2 : Int32) (p3 : Int32) (h0 : Heap) (n0 : Nat) (v : Option Value) (h : Heap) (L : List Loc) : Prop := v = some (.int 1) ∧ Fr n0 L
set_option maxRecDepth 65536 in
set_option maxHeartbeats 40000000 in
theorem rm0 (l : Launch) (Z : State) (a0 : Array Value) (hw : ∀ d ∈ tables_1, d.before a0 Z = true) (ws : List Jvm.Cond) (p1 : Int32) (p2 : Int32) (p3 : Int32)  (h0 : Heap) (n0 : Nat) (Z0 : n0 ≤ h0.size)  :
    MetFree l x (head1 (Jvm.Cond.code x code maxLocals ret :: ws) room_1) (fun a U => a = #[(.int p1), (.int p2), (.int p3)] ∧ Z.Warmed39 U.vm ∧ U.heap = h0) (fun _ _ _ _ _ => True) (fun _ U o U' => ∃ v L, o = .returned v ∧ Q0 Z p1 p2 p3 h0 n0 v U'.heap L ∧ FrameEnd U o U' L room_1.cells room_1.slots) := by
  refine MetFree.of_bodySF (plainFor_of_name pn_0) hisR ?_
  intro p e s m args below meth c s₁ Bd hml0 hP hK
  obtain ⟨rfl, hZ, hh⟩ := hP
  have hx := Bd.exec
  have hby := Bd.bytes
  have hml : c.maxLocals = 14 := hml0
  have hown : s.vm.findClass "com/example/weiche/weiche/graphgame/TokenOfPinLaw" = some m.cls := findClass_of_methodNamed Bd.named
  have hnm := (name_of_methodNamed Bd.named Bd.method).1
  have X0 : Stand p l e room_1 s m #[(.int p1), (.int p2), (.int p3)] below meth c s₁ [] 0 0 := Stand.of_body Bd
  have e0 : s₁.heap = h0 := by rw [← hh, Bd.state]; rfl
  have N0 := Fr.nil n0
  suffices hG : OwnG p e below s (Q0 Z p1 p2 p3 h0 n0) room_1.cells room_1.slots s₁ (mkF m 0 #[.val (.int p1), .val (.int p2), .val (.int p3), .unset, .unset, .unset, .unset, .unset, .unset, .unset, .unset, .unset, .unset, .unset] []) by
    obtain ⟨s2, o2, g1, g2⟩ := hG
    exact ⟨s2, o2, castTop (ef_0 m p1 p2 p3) g1, g2⟩
  have sg1 : ∀ t, Steps p.tables e below (s₁.setTop (mkF m 12 #[.val (.int p1), .val (.int p2), .val (.int p3), .val (.int (p1 &&& (1048575 : Int32))), .val (.int (p3 &&& (3 : Int32))), .unset, .unset, .unset, .unset, .unset, .unset, .unset, .unset, .unset] [(.int (p3 &&& (3 : Int32)))])) t → Steps p.tables e below (s₁.setTop (mkF m 0 #[.val (.int p1), .val (.int p2), .val (.int p3), .unset, .unset, .unset, .unset, .unset, .unset, .unset, .unset, .unset, .unset, .unset] [])) t := by
    intro t k
    refine XS.iloadN X0.here hx rfl (hb hby at_0) rfl ?_
    show Steps p.tables e below (s₁.setTop (mkF m 1 #[.val (.int p1), .val (.int p2), .val (.int p3), .unset, .unset, .unset, .unset, .unset, .unset, .unset, .unset, .unset, .unset, .unset] [(.int p1)])) _
    refine X0.ldcInt hx hown (mvT hZ (hw _ (List.mem_of_getElem? (i := 0) rfl))) (g := (mkF m 1 #[.val (.int p1), .val (.int p2), .val (.int p3), .unset, .unset, .unset, .unset, .unset, .unset, .unset, .unset, .unset, .unset, .unset] [(.int p1)])) rfl (hb hby at_1) _ ?_
    show Steps p.tables e below (s₁.setTop (mkF m 3 #[.val (.int p1), .val (.int p2), .val (.int p3), .unset, .unset, .unset, .unset, .unset, .unset, .unset, .unset, .unset, .unset, .unset] [(.int (1048575 : Int32)), (.int p1)])) _
    refine XS.iand X0.here hx rfl (hb hby at_3) rfl ?_
    show Steps p.tables e below (s₁.setTop (mkF m 4 #[.val (.int p1), .val (.int p2), .val (.int p3), .unset, .unset, .unset, .unset, .unset, .unset, .unset, .unset, .unset, .unset, .unset] [(.int (p1 &&& (1048575 : Int32)))])) _
    refine XS.istoreN X0.here hx rfl (hb hby at_4) rfl (l' := #[.val (.int p1), .val (.int p2), .val (.int p3), .val (.int (p1 &&& (1048575 : Int32))), .unset, .unset, .unset, .unset, .unset, .unset, .unset, .unset, .unset, .unset]) rfl ?_
    show Steps p.tables e below (s₁.setTop (mkF m 5 #[.val (.int p1), .val (.int p2), .val (.int p3), .val (.int (p1 &&& (1048575 : Int32))), .unset, .unset, .unset, .unset, .unset, .unset, .unset, .unset, .unset, .unset] [])) _
    refine XS.iloadN X0.here hx rfl (hb hby at_5) rfl ?_
    show Steps p.tables e below (s₁.setTop (mkF m 6 #[.val (.int p1), .val (.int p2), .val (.int p3), .val (.int (p1 &&& (1048575 : Int32))), .unset, .unset, .unset, .unset, .unset, .unset, .unset, .unset, .unset, .unset] [(.int p3)])) _
    refine XS.iconst X0.here hx rfl (hb hby at_6) ?_
    show Steps p.tables e below (s₁.setTop (mkF m 7 #[.val (.int p1), .val (.int p2), .val (.int p3), .val (.int (p1 &&& (1048575 : Int32))), .unset, .unset, .unset, .unset, .unset, .unset, .unset, .unset, .unset, .unset] [(.int (3 : Int32)), (.int p3)])) _
    refine XS.iand X0.here hx rfl (hb hby at_7) rfl ?_
    show Steps p.tables e below (s₁.setTop (mkF m 8 #[.val (.int p1), .val (.int p2), .val (.int p3), .val (.int (p1 &&& (1048575 : Int32))), .unset, .unset, .unset, .unset, .unset, .unset, .unset, .unset, .unset, .unset] [(.int (p3 &&& (3 : Int32)))])) _
    refine XS.istore X0.here hx rfl (hb hby at_8) rfl (l' := #[.val (.int p1), .val (.int p2), .val (.int p3), .val (.int (p1 &&& (1048575 : Int32))), .val (.int (p3 &&& (3 : Int32))), .unset, .unset, .unset, .unset, .unset, .unset, .unset, .unset, .unset]) rfl ?_
    show Steps p.tables e below (s₁.setTop (mkF m 10 #[.val (.int p1), .val (.int p2), .val (.int p3), .val (.int (p1 &&& (1048575 : Int32))), .val (.int (p3 &&& (3 : Int32))), .unset, .unset, .unset, .unset, .unset, .unset, .unset, .unset, .unset] [])) _
    refine XS.iload X0.here hx rfl (hb hby at_10) rfl ?_
    show Steps p.tables e below (s₁.setTop (mkF m 12 #[.val (.int p1), .val (.int p2), .val (.int p3), .val (.int (p1 &&& (1048575 : Int32))), .val (.int (p3 &&& (3 : Int32))), .unset, .unset, .unset, .unset, .unset, .unset, .unset, .unset, .unset] [(.int (p3 &&& (3 : Int32)))])) _
    exact k
  refine OwnG.st sg1 ?_
  obtain ⟨z49_5, hz49_5⟩ : ∃ w : Int32, w = (if (p3 &&& (3 : Int32)) = (0 : Int32) then (-1 : Int32) else (if (p3 &&& (3 : Int32)) = (1 : Int32) then (-3 : Int32) else (if (p3 &&& (3 : Int32)) = (2 : Int32) then (0 : Int32) else p2))) := ⟨_, rfl⟩
  have dj6 : ∀ t, Steps p.tables e below (s₁.setTop (mkF m 49 #[.val (.int p1), .val (.int p2), .val (.int p3), .val (.int (p1 &&& (1048575 : Int32))), .val (.int (p3 &&& (3 : Int32))), .val (.int z49_5), .unset, .unset, .unset, .unset, .unset, .unset, .unset, .unset] [])) t → Steps p.tables e below (s₁.setTop (mkF m 12 #[.val (.int p1), .val (.int p2), .val (.int p3), .val (.int (p1 &&& (1048575 : Int32))), .val (.int (p3 &&& (3 : Int32))), .unset, .unset, .unset, .unset, .unset, .unset, .unset, .unset, .unset] [(.int (p3 &&& (3 : Int32)))])) t := by
    intro t k
    by_cases hc12_2 : (p3 &&& (3 : Int32)) = (0 : Int32)
    · have qz49_5 : z49_5 = (-1 : Int32) := by rw [hz49_5, if_pos hc12_2]
      rw [qz49_5] at k
      refine XS.ifNo X0.here hx rfl (hb hby at_12) rfl ((if0 _ _).trans (teq hc12_2).2) ?_
      show Steps p.tables e below (s₁.setTop (mkF m 15 #[.val (.int p1), .val (.int p2), .val (.int p3), .val (.int (p1 &&& (1048575 : Int32))), .val (.int (p3 &&& (3 : Int32))), .unset, .unset, .unset, .unset, .unset, .unset, .unset, .unset, .unset] [])) _
      refine XS.iconst X0.here hx rfl (hb hby at_15) ?_
      show Steps p.tables e below (s₁.setTop (mkF m 16 #[.val (.int p1), .val (.int p2), .val (.int p3), .val (.int (p1 &&& (1048575 : Int32))), .val (.int (p3 &&& (3 : Int32))), .unset, .unset, .unset, .unset, .unset, .unset, .unset, .unset, .unset] [(.int (-1 : Int32))])) _
      refine XS.istore X0.here hx rfl (hb hby at_16) rfl (l' := #[.val (.int p1), .val (.int p2), .val (.int p3), .val (.int (p1 &&& (1048575 : Int32))), .val (.int (p3 &&& (3 : Int32))), .val (.int (-1 : Int32)), .unset, .unset, .unset, .unset, .unset, .unset, .unset, .unset]) rfl ?_
      show Steps p.tables e below (s₁.setTop (mkF m 18 #[.val (.int p1), .val (.int p2), .val (.int p3), .val (.int (p1 &&& (1048575 : Int32))), .val (.int (p3 &&& (3 : Int32))), .val (.int (-1 : Int32)), .unset, .unset, .unset, .unset, .unset, .unset, .unset, .unset] [])) _
      refine XS.goto X0.here hx rfl (pc0 := 18) (pc' := 49) rfl (hb hby at_18) (by decide) (by decide) ?_
      show Steps p.tables e below (s₁.setTop (mkF m 49 #[.val (.int p1), .val (.int p2), .val (.int p3), .val (.int (p1 &&& (1048575 : Int32))), .val (.int (p3 &&& (3 : Int32))), .val (.int (-1 : Int32)), .unset, .unset, .unset, .unset, .unset, .unset, .unset, .unset] [])) _
      exact k
    · refine XS.ifYes X0.here hx rfl (pc0 := 12) (pc' := 21) rfl (hb hby at_12) rfl ((if0 _ _).trans (feq hc12_2).2) (by decide) (by decide) ?_
      show Steps p.tables e below (s₁.setTop (mkF m 21 #[.val (.int p1), .val (.int p2), .val (.int p3), .val (.int (p1 &&& (1048575 : Int32))), .val (.int (p3 &&& (3 : Int32))), .unset, .unset, .unset, .unset, .unset, .unset, .unset, .unset, .unset] [])) _
      refine XS.iload X0.here hx rfl (hb hby at_21) rfl ?_
      show Steps p.tables e below (s₁.setTop (mkF m 23 #[.val (.int p1), .val (.int p2), .val (.int p3), .val (.int (p1 &&& (1048575 : Int32))), .val (.int (p3 &&& (3 : Int32))), .unset, .unset, .unset, .unset, .unset, .unset, .unset, .unset, .unset] [(.int (p3 &&& (3 : Int32)))])) _
      refine XS.iconst X0.here hx rfl (hb hby at_23) ?_
      show Steps p.tables e below (s₁.setTop (mkF m 24 #[.val (.int p1), .val (.int p2), .val (.int p3), .val (.int (p1 &&& (1048575 : Int32))), .val (.int (p3 &&& (3 : Int32))), .unset, .unset, .unset, .unset, .unset, .unset, .unset, .unset, .unset] [(.int (1 : Int32)), (.int (p3 &&& (3 : Int32)))])) _
      by_cases hc24_3 : (p3 &&& (3 : Int32)) = (1 : Int32)
      · have qz49_5 : z49_5 = (-3 : Int32) := by rw [hz49_5, if_neg hc12_2, if_pos hc24_3]
        rw [qz49_5] at k
        refine XS.icmpNo X0.here hx rfl (hb hby at_24) rfl (teq hc24_3).2 ?_
        show Steps p.tables e below (s₁.setTop (mkF m 27 #[.val (.int p1), .val (.int p2), .val (.int p3), .val (.int (p1 &&& (1048575 : Int32))), .val (.int (p3 &&& (3 : Int32))), .unset, .unset, .unset, .unset, .unset, .unset, .unset, .unset, .unset] [])) _
        refine XS.bipush X0.here hx rfl (hb hby at_27) ?_
        show Steps p.tables e below (s₁.setTop (mkF m 29 #[.val (.int p1), .val (.int p2), .val (.int p3), .val (.int (p1 &&& (1048575 : Int32))), .val (.int (p3 &&& (3 : Int32))), .unset, .unset, .unset, .unset, .unset, .unset, .unset, .unset, .unset] [(.int (-3 : Int32))])) _
        refine XS.istore X0.here hx rfl (hb hby at_29) rfl (l' := #[.val (.int p1), .val (.int p2), .val (.int p3), .val (.int (p1 &&& (1048575 : Int32))), .val (.int (p3 &&& (3 : Int32))), .val (.int (-3 : Int32)), .unset, .unset, .unset, .unset, .unset, .unset, .unset, .unset]) rfl ?_
        show Steps p.tables e below (s₁.setTop (mkF m 31 #[.val (.int p1), .val (.int p2), .val (.int p3), .val (.int (p1 &&& (1048575 : Int32))), .val (.int (p3 &&& (3 : Int32))), .val (.int (-3 : Int32)), .unset, .unset, .unset, .unset, .unset, .unset, .unset, .unset] [])) _
        refine XS.goto X0.here hx rfl (pc0 := 31) (pc' := 49) rfl (hb hby at_31) (by decide) (by decide) ?_
        show Steps p.tables e below (s₁.setTop (mkF m 49 #[.val (.int p1), .val (.int p2), .val (.int p3), .val (.int (p1 &&& (1048575 : Int32))), .val (.int (p3 &&& (3 : Int32))), .val (.int (-3 : Int32)), .unset, .unset, .unset, .unset, .unset, .unset, .unset, .unset] [])) _
        exact k
      · refine XS.icmpYes X0.here hx rfl (pc0 := 24) (pc' := 34) rfl (hb hby at_24) rfl (feq hc24_3).2 (by decide) (by decide) ?_
        show Steps p.tables e below (s₁.setTop (mkF m 34 #[.val (.int p1), .val (.int p2), .val (.int p3), .val (.int (p1 &&& (1048575 : Int32))), .val (.int (p3 &&& (3 : Int32))), .unset, .unset, .unset, .unset, .unset, .unset, .unset, .unset, .unset] [])) _
        refine XS.iload X0.here hx rfl (hb hby at_34) rfl ?_
        show Steps p.tables e below (s₁.setTop (mkF m 36 #[.val (.int p1), .val (.int p2), .val (.int p3), .val (.int (p1 &&& (1048575 : Int32))), .val (.int (p3 &&& (3 : Int32))), .unset, .unset, .unset, .unset, .unset, .unset, .unset, .unset, .unset] [(.int (p3 &&& (3 : Int32)))])) _
        refine XS.iconst X0.here hx rfl (hb hby at_36) ?_
        show Steps p.tables e below (s₁.setTop (mkF m 37 #[.val (.int p1), .val (.int p2), .val (.int p3), .val (.int (p1 &&& (1048575 : Int32))), .val (.int (p3 &&& (3 : Int32))), .unset, .unset, .unset, .unset, .unset, .unset, .unset, .unset, .unset] [(.int (2 : Int32)), (.int (p3 &&& (3 : Int32)))])) _
        by_cases hc37_4 : (p3 &&& (3 : Int32)) = (2 : Int32)
        · have qz49_5 : z49_5 = (0 : Int32) := by rw [hz49_5, if_neg hc12_2, if_neg hc24_3, if_pos hc37_4]
          rw [qz49_5] at k
          refine XS.icmpNo X0.here hx rfl (hb hby at_37) rfl (teq hc37_4).2 ?_
          show Steps p.tables e below (s₁.setTop (mkF m 40 #[.val (.int p1), .val (.int p2), .val (.int p3), .val (.int (p1 &&& (1048575 : Int32))), .val (.int (p3 &&& (3 : Int32))), .unset, .unset, .unset, .unset, .unset, .unset, .unset, .unset, .unset] [])) _
          refine XS.iconst X0.here hx rfl (hb hby at_40) ?_
          show Steps p.tables e below (s₁.setTop (mkF m 41 #[.val (.int p1), .val (.int p2), .val (.int p3), .val (.int (p1 &&& (1048575 : Int32))), .val (.int (p3 &&& (3 : Int32))), .unset, .unset, .unset, .unset, .unset, .unset, .unset, .unset, .unset] [(.int (0 : Int32))])) _
          refine XS.istore X0.here hx rfl (hb hby at_41) rfl (l' := #[.val (.int p1), .val (.int p2), .val (.int p3), .val (.int (p1 &&& (1048575 : Int32))), .val (.int (p3 &&& (3 : Int32))), .val (.int (0 : Int32)), .unset, .unset, .unset, .unset, .unset, .unset, .unset, .unset]) rfl ?_
          show Steps p.tables e below (s₁.setTop (mkF m 43 #[.val (.int p1), .val (.int p2), .val (.int p3), .val (.int (p1 &&& (1048575 : Int32))), .val (.int (p3 &&& (3 : Int32))), .val (.int (0 : Int32)), .unset, .unset, .unset, .unset, .unset, .unset, .unset, .unset] [])) _
          refine XS.goto X0.here hx rfl (pc0 := 43) (pc' := 49) rfl (hb hby at_43) (by decide) (by decide) ?_
          show Steps p.tables e below (s₁.setTop (mkF m 49 #[.val (.int p1), .val (.int p2), .val (.int p3), .val (.int (p1 &&& (1048575 : Int32))), .val (.int (p3 &&& (3 : Int32))), .val (.int (0 : Int32)), .unset, .unset, .unset, .unset, .unset, .unset, .unset, .unset] [])) _
          exact k
        · have qz49_5 : z49_5 = p2 := by rw [hz49_5, if_neg hc12_2, if_neg hc24_3, if_neg hc37_4]
          rw [qz49_5] at k
          refine XS.icmpYes X0.here hx rfl (pc0 := 37) (pc' := 46) rfl (hb hby at_37) rfl (feq hc37_4).2 (by decide) (by decide) ?_
          show Steps p.tables e below (s₁.setTop (mkF m 46 #[.val (.int p1), .val (.int p2), .val (.int p3), .val (.int (p1 &&& (1048575 : Int32))), .val (.int (p3 &&& (3 : Int32))), .unset, .unset, .unset, .unset, .unset, .unset, .unset, .unset, .unset] [])) _
          refine XS.iloadN X0.here hx rfl (hb hby at_46) rfl ?_
          show Steps p.tables e below (s₁.setTop (mkF m 47 #[.val (.int p1), .val (.int p2), .val (.int p3), .val (.int (p1 &&& (1048575 : Int32))), .val (.int (p3 &&& (3 : Int32))), .unset, .unset, .unset, .unset, .unset, .unset, .unset, .unset, .unset] [(.int p2)])) _
          refine XS.istore X0.here hx rfl (hb hby at_47) rfl (l' := #[.val (.int p1), .val (.int p2), .val (.int p3), .val (.int (p1 &&& (1048575 : Int32))), .val (.int (p3 &&& (3 : Int32))), .val (.int p2), .unset, .unset, .unset, .unset, .unset, .unset, .unset, .unset]) rfl ?_
          show Steps p.tables e below (s₁.setTop (mkF m 49 #[.val (.int p1), .val (.int p2), .val (.int p3), .val (.int (p1 &&& (1048575 : Int32))), .val (.int (p3 &&& (3 : Int32))), .val (.int p2), .unset, .unset, .unset, .unset, .unset, .unset, .unset, .unset] [])) _
          exact k
  refine OwnG.st dj6 ?_
  have sg7 : ∀ t, Steps p.tables e below (s₁.setTop (mkF m 52 #[.val (.int p1), .val (.int p2), .val (.int p3), .val (.int (p1 &&& (1048575 : Int32))), .val (.int (p3 &&& (3 : Int32))), .val (.int z49_5), .unset, .unset, .unset, .unset, .unset, .unset, .unset, .unset] [(.int z49_5), (.int (p1 &&& (1048575 : Int32)))])) t → Steps p.tables e below (s₁.setTop (mkF m 49 #[.val (.int p1), .val (.int p2), .val (.int p3), .val (.int (p1 &&& (1048575 : Int32))), .val (.int (p3 &&& (3 : Int32))), .val (.int z49_5), .unset, .unset, .unset, .unset, .unset, .unset, .unset, .unset] [])) t := by
    intro t k
    refine XS.iloadN X0.here hx rfl (hb hby at_49) rfl ?_
    show Steps p.tables e below (s₁.setTop (mkF m 50 #[.val (.int p1), .val (.int p2), .val (.int p3), .val (.int (p1 &&& (1048575 : Int32))), .val (.int (p3 &&& (3 : Int32))), .val (.int z49_5), .unset, .unset, .unset, .unset, .unset, .unset, .unset, .unset] [(.int (p1 &&& (1048575 : Int32)))])) _
    refine XS.iload X0.here hx rfl (hb hby at_50) rfl ?_
    show Steps p.tables e below (s₁.setTop (mkF m 52 #[.val (.int p1), .val (.int p2), .val (.int p3), .val (.int (p1 &&& (1048575 : Int32))), .val (.int (p3 &&& (3 : Int32))), .val (.int z49_5), .unset, .unset, .unset, .unset, .unset, .unset, .unset, .unset] [(.int z49_5), (.int (p1 &&& (1048575 : Int32)))])) _
    exact k
  refine OwnG.st sg7 ?_
  obtain ⟨_, _, ⟨T8, L8, k8, n8⟩, -, X8, ⟨Lc8, hQ8, l8, y8, z8⟩, st8⟩ := Jvm.LawKit.callS X0 hx (y := (⟨"com/example/weiche/weiche/graphgame/Token", "of", "(II)J"⟩ : MethodName)) hown (mvT hZ (hw _ (List.mem_of_getElem? (i := 1) rfl))) (mvT hZ (hw _ (List.mem_of_getElem? (i := 2) rfl))) (mvT hZ (hw _ (List.mem_of_getElem? (i := 3) rfl))) (mvT hZ (hw _ (List.mem_of_getElem? (i := 4) rfl))) (by decide) (backOf (W := 0) (rm1 l Z a0 hw [] (p1 &&& (1048575 : Int32)) z49_5  h0 n0 Z0 ) hZ (hw _ (List.mem_of_getElem? (i := 4) rfl)) (hw _ (List.mem_of_getElem? (i := 3) rfl)) (by decide) (by decide)) (g := (mkF m 52 #[.val (.int p1), .val (.int p2), .val (.int p3), .val (.int (p1 &&& (1048575 : Int32))), .val (.int (p3 &&& (3 : Int32))), .val (.int z49_5), .unset, .unset, .unset, .unset, .unset, .unset, .unset, .unset] [(.int z49_5), (.int (p1 &&& (1048575 : Int32)))])) rfl (by rw [hml]; rfl) (argsL := [(.int (p1 &&& (1048575 : Int32))), (.int z49_5)]) (rest := []) (lenOf pd_0_0 rfl) rfl (by show 2 * 0 + _ ≤ _; exact Nat.le_of_eq rfl) (hb hby at_52) (fun _ _ => ⟨rfl, e0, (by decide : 0 + 0 ≤ _), (by decide : 0 + 0 ≤ _)⟩)
  dsimp only [Pt.U, Pt.locs, Pt.cells, Pt.slots] at X8 l8 y8 z8 st8 hQ8
  subst l8 y8 z8
  obtain ⟨rfl, N8q, e8⟩ := hQ8
  have N8 := Fr.app N0 N8q
  refine OwnG.st (fun t k => st8 t k) ?_
  show OwnG p e below s _ _ _ T8 (mkF m 55 #[.val (.int p1), .val (.int p2), .val (.int p3), .val (.int (p1 &&& (1048575 : Int32))), .val (.int (p3 &&& (3 : Int32))), .val (.int z49_5), .unset, .unset, .unset, .unset, .unset, .unset, .unset, .unset] [(.long (F1 (p1 &&& (1048575 : Int32)) z49_5))])
  have sg9 : ∀ t, Steps p.tables e below (T8.setTop (mkF m 65 #[.val (.int p1), .val (.int p2), .val (.int p3), .val (.int (p1 &&& (1048575 : Int32))), .val (.int (p3 &&& (3 : Int32))), .val (.int z49_5), .val (.long (F1 (p1 &&& (1048575 : Int32)) z49_5)), .second, .unset, .unset, .unset, .unset, .unset, .unset] [(.int z49_5), (.long (((p1 &&& (1048575 : Int32)).toInt64) * (17592186044416 : Int64)))])) t → Steps p.tables e below (T8.setTop (mkF m 55 #[.val (.int p1), .val (.int p2), .val (.int p3), .val (.int (p1 &&& (1048575 : Int32))), .val (.int (p3 &&& (3 : Int32))), .val (.int z49_5), .unset, .unset, .unset, .unset, .unset, .unset, .unset, .unset] [(.long (F1 (p1 &&& (1048575 : Int32)) z49_5))])) t := by
    intro t k
    refine XS.lstore X8.here hx rfl (hb hby at_55) rfl (l' := #[.val (.int p1), .val (.int p2), .val (.int p3), .val (.int (p1 &&& (1048575 : Int32))), .val (.int (p3 &&& (3 : Int32))), .val (.int z49_5), .val (.long (F1 (p1 &&& (1048575 : Int32)) z49_5)), .second, .unset, .unset, .unset, .unset, .unset, .unset]) rfl ?_
    show Steps p.tables e below (T8.setTop (mkF m 57 #[.val (.int p1), .val (.int p2), .val (.int p3), .val (.int (p1 &&& (1048575 : Int32))), .val (.int (p3 &&& (3 : Int32))), .val (.int z49_5), .val (.long (F1 (p1 &&& (1048575 : Int32)) z49_5)), .second, .unset, .unset, .unset, .unset, .unset, .unset] [])) _
    refine XS.iloadN X8.here hx rfl (hb hby at_57) rfl ?_
    show Steps p.tables e below (T8.setTop (mkF m 58 #[.val (.int p1), .val (.int p2), .val (.int p3), .val (.int (p1 &&& (1048575 : Int32))), .val (.int (p3 &&& (3 : Int32))), .val (.int z49_5), .val (.long (F1 (p1 &&& (1048575 : Int32)) z49_5)), .second, .unset, .unset, .unset, .unset, .unset, .unset] [(.int (p1 &&& (1048575 : Int32)))])) _
    refine XS.i2l X8.here hx rfl (hb hby at_58) rfl ?_
    show Steps p.tables e below (T8.setTop (mkF m 59 #[.val (.int p1), .val (.int p2), .val (.int p3), .val (.int (p1 &&& (1048575 : Int32))), .val (.int (p3 &&& (3 : Int32))), .val (.int z49_5), .val (.long (F1 (p1 &&& (1048575 : Int32)) z49_5)), .second, .unset, .unset, .unset, .unset, .unset, .unset] [(.long ((p1 &&& (1048575 : Int32)).toInt64))])) _
    refine X8.ldc2Long hx hown (mvT hZ (hw _ (List.mem_of_getElem? (i := 6) rfl))) (g := (mkF m 59 #[.val (.int p1), .val (.int p2), .val (.int p3), .val (.int (p1 &&& (1048575 : Int32))), .val (.int (p3 &&& (3 : Int32))), .val (.int z49_5), .val (.long (F1 (p1 &&& (1048575 : Int32)) z49_5)), .second, .unset, .unset, .unset, .unset, .unset, .unset] [(.long ((p1 &&& (1048575 : Int32)).toInt64))])) rfl (hb hby at_59) _ ?_
    show Steps p.tables e below (T8.setTop (mkF m 62 #[.val (.int p1), .val (.int p2), .val (.int p3), .val (.int (p1 &&& (1048575 : Int32))), .val (.int (p3 &&& (3 : Int32))), .val (.int z49_5), .val (.long (F1 (p1 &&& (1048575 : Int32)) z49_5)), .second, .unset, .unset, .unset, .unset, .unset, .unset] [(.long (17592186044416 : Int64)), (.long ((p1 &&& (1048575 : Int32)).toInt64))])) _
    refine XS.lmul X8.here hx rfl (hb hby at_62) rfl ?_
    show Steps p.tables e below (T8.setTop (mkF m 63 #[.val (.int p1), .val (.int p2), .val (.int p3), .val (.int (p1 &&& (1048575 : Int32))), .val (.int (p3 &&& (3 : Int32))), .val (.int z49_5), .val (.long (F1 (p1 &&& (1048575 : Int32)) z49_5)), .second, .unset, .unset, .unset, .unset, .unset, .unset] [(.long (((p1 &&& (1048575 : Int32)).toInt64) * (17592186044416 : Int64)))])) _
    refine XS.iload X8.here hx rfl (hb hby at_63) rfl ?_
    show Steps p.tables e below (T8.setTop (mkF m 65 #[.val (.int p1), .val (.int p2), .val (.int p3), .val (.int (p1 &&& (1048575 : Int32))), .val (.int (p3 &&& (3 : Int32))), .val (.int z49_5), .val (.long (F1 (p1 &&& (1048575 : Int32)) z49_5)), .second, .unset, .unset, .unset, .unset, .unset, .unset] [(.int z49_5), (.long (((p1 &&& (1048575 : Int32)).toInt64) * (17592186044416 : Int64)))])) _
    exact k
  refine OwnG.st sg9 ?_
  obtain ⟨_, _, ⟨T10, L10, k10, n10⟩, -, X10, ⟨Lc10, hQ10, l10, y10, z10⟩, st10⟩ := Jvm.LawKit.callS X8 hx (y := (⟨"com/example/weiche/weiche/graphgame/TokenOfPinLaw", "unsigned32", "(I)J"⟩ : MethodName)) hown (mvT hZ (hw _ (List.mem_of_getElem? (i := 7) rfl))) (mvT hZ (hw _ (List.mem_of_getElem? (i := 8) rfl))) (mvT hZ (hw _ (List.mem_of_getElem? (i := 9) rfl))) (mvT hZ (hw _ (List.mem_of_getElem? (i := 10) rfl))) (by decide) (backOf (W := 2) (rm2 l Z a0 hw [] z49_5  h0 n0 Z0 ) hZ (hw _ (List.mem_of_getElem? (i := 10) rfl)) (hw _ (List.mem_of_getElem? (i := 9) rfl)) (by decide) (by decide)) (g := (mkF m 65 #[.val (.int p1), .val (.int p2), .val (.int p3), .val (.int (p1 &&& (1048575 : Int32))), .val (.int (p3 &&& (3 : Int32))), .val (.int z49_5), .val (.long (F1 (p1 &&& (1048575 : Int32)) z49_5)), .second, .unset, .unset, .unset, .unset, .unset, .unset] [(.int z49_5), (.long (((p1 &&& (1048575 : Int32)).toInt64) * (17592186044416 : Int64)))])) rfl (by rw [hml]; rfl) (argsL := [(.int z49_5)]) (rest := [(.long (((p1 &&& (1048575 : Int32)).toInt64) * (17592186044416 : Int64)))]) (lenOf pd_0_1 rfl) rfl (by show 2 * 0 + _ ≤ _; exact Nat.le_of_eq rfl) (hb hby at_65) (fun _ _ => ⟨rfl, e8, (by decide : 0 + 0 ≤ _), (by decide : 0 + 0 ≤ _)⟩)
  dsimp only [Pt.U, Pt.locs, Pt.cells, Pt.slots] at X10 l10 y10 z10 st10 hQ10
  subst l10 y10 z10
  obtain ⟨rfl, N10q, e10⟩ := hQ10
  have N10 := Fr.app N8 N10q
  refine OwnG.st (fun t k => st10 t k) ?_
  show OwnG p e below s _ _ _ T10 (mkF m 68 #[.val (.int p1), .val (.int p2), .val (.int p3), .val (.int (p1 &&& (1048575 : Int32))), .val (.int (p3 &&& (3 : Int32))), .val (.int z49_5), .val (.long (F1 (p1 &&& (1048575 : Int32)) z49_5)), .second, .unset, .unset, .unset, .unset, .unset, .unset] [(.long (F2 z49_5)), (.long (((p1 &&& (1048575 : Int32)).toInt64) * (17592186044416 : Int64)))])
  have hc76_11 : (F1 (p1 &&& (1048575 : Int32)) z49_5) = ((((p1 &&& (1048575 : Int32)).toInt64) * (17592186044416 : Int64)) + (F2 z49_5)) := own_same _ _ (own_mask20 _)
  have sg12 : ∀ t, Steps p.tables e below (T10.setTop (mkF m 88 #[.val (.int p1), .val (.int p2), .val (.int p3), .val (.int (p1 &&& (1048575 : Int32))), .val (.int (p3 &&& (3 : Int32))), .val (.int z49_5), .val (.long (F1 (p1 &&& (1048575 : Int32)) z49_5)), .second, .val (.long ((((p1 &&& (1048575 : Int32)).toInt64) * (17592186044416 : Int64)) + (F2 z49_5))), .second, .val (.int (1 : Int32)), .unset, .unset, .unset] [(.long (F1 (p1 &&& (1048575 : Int32)) z49_5))])) t → Steps p.tables e below (T10.setTop (mkF m 68 #[.val (.int p1), .val (.int p2), .val (.int p3), .val (.int (p1 &&& (1048575 : Int32))), .val (.int (p3 &&& (3 : Int32))), .val (.int z49_5), .val (.long (F1 (p1 &&& (1048575 : Int32)) z49_5)), .second, .unset, .unset, .unset, .unset, .unset, .unset] [(.long (F2 z49_5)), (.long (((p1 &&& (1048575 : Int32)).toInt64) * (17592186044416 : Int64)))])) t := by
    intro t k
    refine XS.ladd X10.here hx rfl (hb hby at_68) rfl ?_
    show Steps p.tables e below (T10.setTop (mkF m 69 #[.val (.int p1), .val (.int p2), .val (.int p3), .val (.int (p1 &&& (1048575 : Int32))), .val (.int (p3 &&& (3 : Int32))), .val (.int z49_5), .val (.long (F1 (p1 &&& (1048575 : Int32)) z49_5)), .second, .unset, .unset, .unset, .unset, .unset, .unset] [(.long ((((p1 &&& (1048575 : Int32)).toInt64) * (17592186044416 : Int64)) + (F2 z49_5)))])) _
    refine XS.lstore X10.here hx rfl (hb hby at_69) rfl (l' := #[.val (.int p1), .val (.int p2), .val (.int p3), .val (.int (p1 &&& (1048575 : Int32))), .val (.int (p3 &&& (3 : Int32))), .val (.int z49_5), .val (.long (F1 (p1 &&& (1048575 : Int32)) z49_5)), .second, .val (.long ((((p1 &&& (1048575 : Int32)).toInt64) * (17592186044416 : Int64)) + (F2 z49_5))), .second, .unset, .unset, .unset, .unset]) rfl ?_
    show Steps p.tables e below (T10.setTop (mkF m 71 #[.val (.int p1), .val (.int p2), .val (.int p3), .val (.int (p1 &&& (1048575 : Int32))), .val (.int (p3 &&& (3 : Int32))), .val (.int z49_5), .val (.long (F1 (p1 &&& (1048575 : Int32)) z49_5)), .second, .val (.long ((((p1 &&& (1048575 : Int32)).toInt64) * (17592186044416 : Int64)) + (F2 z49_5))), .second, .unset, .unset, .unset, .unset] [])) _
    refine XS.lload X10.here hx rfl (hb hby at_71) rfl ?_
    show Steps p.tables e below (T10.setTop (mkF m 73 #[.val (.int p1), .val (.int p2), .val (.int p3), .val (.int (p1 &&& (1048575 : Int32))), .val (.int (p3 &&& (3 : Int32))), .val (.int z49_5), .val (.long (F1 (p1 &&& (1048575 : Int32)) z49_5)), .second, .val (.long ((((p1 &&& (1048575 : Int32)).toInt64) * (17592186044416 : Int64)) + (F2 z49_5))), .second, .unset, .unset, .unset, .unset] [(.long (F1 (p1 &&& (1048575 : Int32)) z49_5))])) _
    refine XS.lload X10.here hx rfl (hb hby at_73) rfl ?_
    show Steps p.tables e below (T10.setTop (mkF m 75 #[.val (.int p1), .val (.int p2), .val (.int p3), .val (.int (p1 &&& (1048575 : Int32))), .val (.int (p3 &&& (3 : Int32))), .val (.int z49_5), .val (.long (F1 (p1 &&& (1048575 : Int32)) z49_5)), .second, .val (.long ((((p1 &&& (1048575 : Int32)).toInt64) * (17592186044416 : Int64)) + (F2 z49_5))), .second, .unset, .unset, .unset, .unset] [(.long ((((p1 &&& (1048575 : Int32)).toInt64) * (17592186044416 : Int64)) + (F2 z49_5))), (.long (F1 (p1 &&& (1048575 : Int32)) z49_5))])) _
    refine XS.lcmp X10.here hx rfl (hb hby at_75) rfl ?_
    show Steps p.tables e below (T10.setTop (mkF m 76 #[.val (.int p1), .val (.int p2), .val (.int p3), .val (.int (p1 &&& (1048575 : Int32))), .val (.int (p3 &&& (3 : Int32))), .val (.int z49_5), .val (.long (F1 (p1 &&& (1048575 : Int32)) z49_5)), .second, .val (.long ((((p1 &&& (1048575 : Int32)).toInt64) * (17592186044416 : Int64)) + (F2 z49_5))), .second, .unset, .unset, .unset, .unset] [(.int (lcmpW (F1 (p1 &&& (1048575 : Int32)) z49_5) ((((p1 &&& (1048575 : Int32)).toInt64) * (17592186044416 : Int64)) + (F2 z49_5))))])) _
    refine XS.ifNo X10.here hx rfl (hb hby at_76) rfl ((if0 _ _).trans (teq ((lw_eq (F1 (p1 &&& (1048575 : Int32)) z49_5) ((((p1 &&& (1048575 : Int32)).toInt64) * (17592186044416 : Int64)) + (F2 z49_5))).mpr hc76_11)).2) ?_
    show Steps p.tables e below (T10.setTop (mkF m 79 #[.val (.int p1), .val (.int p2), .val (.int p3), .val (.int (p1 &&& (1048575 : Int32))), .val (.int (p3 &&& (3 : Int32))), .val (.int z49_5), .val (.long (F1 (p1 &&& (1048575 : Int32)) z49_5)), .second, .val (.long ((((p1 &&& (1048575 : Int32)).toInt64) * (17592186044416 : Int64)) + (F2 z49_5))), .second, .unset, .unset, .unset, .unset] [])) _
    refine XS.iconst X10.here hx rfl (hb hby at_79) ?_
    show Steps p.tables e below (T10.setTop (mkF m 80 #[.val (.int p1), .val (.int p2), .val (.int p3), .val (.int (p1 &&& (1048575 : Int32))), .val (.int (p3 &&& (3 : Int32))), .val (.int z49_5), .val (.long (F1 (p1 &&& (1048575 : Int32)) z49_5)), .second, .val (.long ((((p1 &&& (1048575 : Int32)).toInt64) * (17592186044416 : Int64)) + (F2 z49_5))), .second, .unset, .unset, .unset, .unset] [(.int (1 : Int32))])) _
    refine XS.goto X10.here hx rfl (pc0 := 80) (pc' := 84) rfl (hb hby at_80) (by decide) (by decide) ?_
    show Steps p.tables e below (T10.setTop (mkF m 84 #[.val (.int p1), .val (.int p2), .val (.int p3), .val (.int (p1 &&& (1048575 : Int32))), .val (.int (p3 &&& (3 : Int32))), .val (.int z49_5), .val (.long (F1 (p1 &&& (1048575 : Int32)) z49_5)), .second, .val (.long ((((p1 &&& (1048575 : Int32)).toInt64) * (17592186044416 : Int64)) + (F2 z49_5))), .second, .unset, .unset, .unset, .unset] [(.int (1 : Int32))])) _
    refine XS.istore X10.here hx rfl (hb hby at_84) rfl (l' := #[.val (.int p1), .val (.int p2), .val (.int p3), .val (.int (p1 &&& (1048575 : Int32))), .val (.int (p3 &&& (3 : Int32))), .val (.int z49_5), .val (.long (F1 (p1 &&& (1048575 : Int32)) z49_5)), .second, .val (.long ((((p1 &&& (1048575 : Int32)).toInt64) * (17592186044416 : Int64)) + (F2 z49_5))), .second, .val (.int (1 : Int32)), .unset, .unset, .unset]) rfl ?_
    show Steps p.tables e below (T10.setTop (mkF m 86 #[.val (.int p1), .val (.int p2), .val (.int p3), .val (.int (p1 &&& (1048575 : Int32))), .val (.int (p3 &&& (3 : Int32))), .val (.int z49_5), .val (.long (F1 (p1 &&& (1048575 : Int32)) z49_5)), .second, .val (.long ((((p1 &&& (1048575 : Int32)).toInt64) * (17592186044416 : Int64)) + (F2 z49_5))), .second, .val (.int (1 : Int32)), .unset, .unset, .unset] [])) _
    refine XS.lload X10.here hx rfl (hb hby at_86) rfl ?_
    show Steps p.tables e below (T10.setTop (mkF m 88 #[.val (.int p1), .val (.int p2), .val (.int p3), .val (.int (p1 &&& (1048575 : Int32))), .val (.int (p3 &&& (3 : Int32))), .val (.int z49_5), .val (.long (F1 (p1 &&& (1048575 : Int32)) z49_5)), .second, .val (.long ((((p1 &&& (1048575 : Int32)).toInt64) * (17592186044416 : Int64)) + (F2 z49_5))), .second, .val (.int (1 : Int32)), .unset, .unset, .unset] [(.long (F1 (p1 &&& (1048575 : Int32)) z49_5))])) _
    exact k
  refine OwnG.st sg12 ?_
  obtain ⟨_, _, ⟨T13, L13, k13, n13⟩, -, X13, ⟨Lc13, hQ13, l13, y13, z13⟩, st13⟩ := Jvm.LawKit.callS X10 hx (y := (⟨"com/example/weiche/weiche/graphgame/Token", "place", "(J)I"⟩ : MethodName)) hown (mvT hZ (hw _ (List.mem_of_getElem? (i := 11) rfl))) (mvT hZ (hw _ (List.mem_of_getElem? (i := 12) rfl))) (mvT hZ (hw _ (List.mem_of_getElem? (i := 3) rfl))) (mvT hZ (hw _ (List.mem_of_getElem? (i := 13) rfl))) (by decide) (backOf (W := 0) (rm3 l Z a0 hw [] (F1 (p1 &&& (1048575 : Int32)) z49_5)  h0 n0 Z0 ) hZ (hw _ (List.mem_of_getElem? (i := 13) rfl)) (hw _ (List.mem_of_getElem? (i := 3) rfl)) (by decide) (by decide)) (g := (mkF m 88 #[.val (.int p1), .val (.int p2), .val (.int p3), .val (.int (p1 &&& (1048575 : Int32))), .val (.int (p3 &&& (3 : Int32))), .val (.int z49_5), .val (.long (F1 (p1 &&& (1048575 : Int32)) z49_5)), .second, .val (.long ((((p1 &&& (1048575 : Int32)).toInt64) * (17592186044416 : Int64)) + (F2 z49_5))), .second, .val (.int (1 : Int32)), .unset, .unset, .unset] [(.long (F1 (p1 &&& (1048575 : Int32)) z49_5))])) rfl (by rw [hml]; rfl) (argsL := [(.long (F1 (p1 &&& (1048575 : Int32)) z49_5))]) (rest := []) (lenOf pd_0_2 rfl) rfl (by show 2 * 0 + _ ≤ _; exact Nat.le_of_eq rfl) (hb hby at_88) (fun _ _ => ⟨rfl, e10, (by decide : 0 + 0 ≤ _), (by decide : 0 + 0 ≤ _)⟩)
  dsimp only [Pt.U, Pt.locs, Pt.cells, Pt.slots] at X13 l13 y13 z13 st13 hQ13
  subst l13 y13 z13
  obtain ⟨rfl, N13q, e13⟩ := hQ13
  have N13 := Fr.app N10 N13q
  refine OwnG.st (fun t k => st13 t k) ?_
  show OwnG p e below s _ _ _ T13 (mkF m 91 #[.val (.int p1), .val (.int p2), .val (.int p3), .val (.int (p1 &&& (1048575 : Int32))), .val (.int (p3 &&& (3 : Int32))), .val (.int z49_5), .val (.long (F1 (p1 &&& (1048575 : Int32)) z49_5)), .second, .val (.long ((((p1 &&& (1048575 : Int32)).toInt64) * (17592186044416 : Int64)) + (F2 z49_5))), .second, .val (.int (1 : Int32)), .unset, .unset, .unset] [(.int (F3 (F1 (p1 &&& (1048575 : Int32)) z49_5)))])
  have hc92_14 : (F3 (F1 (p1 &&& (1048575 : Int32)) z49_5)) = (p1 &&& (1048575 : Int32)) := own_place _ _ (own_mask20 _)
  have sg15 : ∀ t, Steps p.tables e below (T13.setTop (mkF m 104 #[.val (.int p1), .val (.int p2), .val (.int p3), .val (.int (p1 &&& (1048575 : Int32))), .val (.int (p3 &&& (3 : Int32))), .val (.int z49_5), .val (.long (F1 (p1 &&& (1048575 : Int32)) z49_5)), .second, .val (.long ((((p1 &&& (1048575 : Int32)).toInt64) * (17592186044416 : Int64)) + (F2 z49_5))), .second, .val (.int (1 : Int32)), .val (.int (1 : Int32)), .unset, .unset] [(.long (F1 (p1 &&& (1048575 : Int32)) z49_5))])) t → Steps p.tables e below (T13.setTop (mkF m 91 #[.val (.int p1), .val (.int p2), .val (.int p3), .val (.int (p1 &&& (1048575 : Int32))), .val (.int (p3 &&& (3 : Int32))), .val (.int z49_5), .val (.long (F1 (p1 &&& (1048575 : Int32)) z49_5)), .second, .val (.long ((((p1 &&& (1048575 : Int32)).toInt64) * (17592186044416 : Int64)) + (F2 z49_5))), .second, .val (.int (1 : Int32)), .unset, .unset, .unset] [(.int (F3 (F1 (p1 &&& (1048575 : Int32)) z49_5)))])) t := by
    intro t k
    refine XS.iloadN X13.here hx rfl (hb hby at_91) rfl ?_
    show Steps p.tables e below (T13.setTop (mkF m 92 #[.val (.int p1), .val (.int p2), .val (.int p3), .val (.int (p1 &&& (1048575 : Int32))), .val (.int (p3 &&& (3 : Int32))), .val (.int z49_5), .val (.long (F1 (p1 &&& (1048575 : Int32)) z49_5)), .second, .val (.long ((((p1 &&& (1048575 : Int32)).toInt64) * (17592186044416 : Int64)) + (F2 z49_5))), .second, .val (.int (1 : Int32)), .unset, .unset, .unset] [(.int (p1 &&& (1048575 : Int32))), (.int (F3 (F1 (p1 &&& (1048575 : Int32)) z49_5)))])) _
    refine XS.icmpNo X13.here hx rfl (hb hby at_92) rfl (teq hc92_14).2 ?_
    show Steps p.tables e below (T13.setTop (mkF m 95 #[.val (.int p1), .val (.int p2), .val (.int p3), .val (.int (p1 &&& (1048575 : Int32))), .val (.int (p3 &&& (3 : Int32))), .val (.int z49_5), .val (.long (F1 (p1 &&& (1048575 : Int32)) z49_5)), .second, .val (.long ((((p1 &&& (1048575 : Int32)).toInt64) * (17592186044416 : Int64)) + (F2 z49_5))), .second, .val (.int (1 : Int32)), .unset, .unset, .unset] [])) _
    refine XS.iconst X13.here hx rfl (hb hby at_95) ?_
    show Steps p.tables e below (T13.setTop (mkF m 96 #[.val (.int p1), .val (.int p2), .val (.int p3), .val (.int (p1 &&& (1048575 : Int32))), .val (.int (p3 &&& (3 : Int32))), .val (.int z49_5), .val (.long (F1 (p1 &&& (1048575 : Int32)) z49_5)), .second, .val (.long ((((p1 &&& (1048575 : Int32)).toInt64) * (17592186044416 : Int64)) + (F2 z49_5))), .second, .val (.int (1 : Int32)), .unset, .unset, .unset] [(.int (1 : Int32))])) _
    refine XS.goto X13.here hx rfl (pc0 := 96) (pc' := 100) rfl (hb hby at_96) (by decide) (by decide) ?_
    show Steps p.tables e below (T13.setTop (mkF m 100 #[.val (.int p1), .val (.int p2), .val (.int p3), .val (.int (p1 &&& (1048575 : Int32))), .val (.int (p3 &&& (3 : Int32))), .val (.int z49_5), .val (.long (F1 (p1 &&& (1048575 : Int32)) z49_5)), .second, .val (.long ((((p1 &&& (1048575 : Int32)).toInt64) * (17592186044416 : Int64)) + (F2 z49_5))), .second, .val (.int (1 : Int32)), .unset, .unset, .unset] [(.int (1 : Int32))])) _
    refine XS.istore X13.here hx rfl (hb hby at_100) rfl (l' := #[.val (.int p1), .val (.int p2), .val (.int p3), .val (.int (p1 &&& (1048575 : Int32))), .val (.int (p3 &&& (3 : Int32))), .val (.int z49_5), .val (.long (F1 (p1 &&& (1048575 : Int32)) z49_5)), .second, .val (.long ((((p1 &&& (1048575 : Int32)).toInt64) * (17592186044416 : Int64)) + (F2 z49_5))), .second, .val (.int (1 : Int32)), .val (.int (1 : Int32)), .unset, .unset]) rfl ?_
    show Steps p.tables e below (T13.setTop (mkF m 102 #[.val (.int p1), .val (.int p2), .val (.int p3), .val (.int (p1 &&& (1048575 : Int32))), .val (.int (p3 &&& (3 : Int32))), .val (.int z49_5), .val (.long (F1 (p1 &&& (1048575 : Int32)) z49_5)), .second, .val (.long ((((p1 &&& (1048575 : Int32)).toInt64) * (17592186044416 : Int64)) + (F2 z49_5))), .second, .val (.int (1 : Int32)), .val (.int (1 : Int32)), .unset, .unset] [])) _
    refine XS.lload X13.here hx rfl (hb hby at_102) rfl ?_
    show Steps p.tables e below (T13.setTop (mkF m 104 #[.val (.int p1), .val (.int p2), .val (.int p3), .val (.int (p1 &&& (1048575 : Int32))), .val (.int (p3 &&& (3 : Int32))), .val (.int z49_5), .val (.long (F1 (p1 &&& (1048575 : Int32)) z49_5)), .second, .val (.long ((((p1 &&& (1048575 : Int32)).toInt64) * (17592186044416 : Int64)) + (F2 z49_5))), .second, .val (.int (1 : Int32)), .val (.int (1 : Int32)), .unset, .unset] [(.long (F1 (p1 &&& (1048575 : Int32)) z49_5))])) _
    exact k
  refine OwnG.st sg15 ?_
  obtain ⟨_, _, ⟨T16, L16, k16, n16⟩, -, X16, ⟨Lc16, hQ16, l16, y16, z16⟩, st16⟩ := Jvm.LawKit.callS X13 hx (y := (⟨"com/example/weiche/weiche/graphgame/Token", "commitment", "(J)I"⟩ : MethodName)) hown (mvT hZ (hw _ (List.mem_of_getElem? (i := 14) rfl))) (mvT hZ (hw _ (List.mem_of_getElem? (i := 15) rfl))) (mvT hZ (hw _ (List.mem_of_getElem? (i := 3) rfl))) (mvT hZ (hw _ (List.mem_of_getElem? (i := 16) rfl))) (by decide) (backOf (W := 0) (rm4 l Z a0 hw [] (F1 (p1 &&& (1048575 : Int32)) z49_5)  h0 n0 Z0 ) hZ (hw _ (List.mem_of_getElem? (i := 16) rfl)) (hw _ (List.mem_of_getElem? (i := 3) rfl)) (by decide) (by decide)) (g := (mkF m 104 #[.val (.int p1), .val (.int p2), .val (.int p3), .val (.int (p1 &&& (1048575 : Int32))), .val (.int (p3 &&& (3 : Int32))), .val (.int z49_5), .val (.long (F1 (p1 &&& (1048575 : Int32)) z49_5)), .second, .val (.long ((((p1 &&& (1048575 : Int32)).toInt64) * (17592186044416 : Int64)) + (F2 z49_5))), .second, .val (.int (1 : Int32)), .val (.int (1 : Int32)), .unset, .unset] [(.long (F1 (p1 &&& (1048575 : Int32)) z49_5))])) rfl (by rw [hml]; rfl) (argsL := [(.long (F1 (p1 &&& (1048575 : Int32)) z49_5))]) (rest := []) (lenOf pd_0_2 rfl) rfl (by show 2 * 0 + _ ≤ _; exact Nat.le_of_eq rfl) (hb hby at_104) (fun _ _ => ⟨rfl, e13, (by decide : 0 + 0 ≤ _), (by decide : 0 + 0 ≤ _)⟩)
  dsimp only [Pt.U, Pt.locs, Pt.cells, Pt.slots] at X16 l16 y16 z16 st16 hQ16
  subst l16 y16 z16
  obtain ⟨rfl, N16q, e16⟩ := hQ16
  have N16 := Fr.app N13 N16q
  refine OwnG.st (fun t k => st16 t k) ?_
  show OwnG p e below s _ _ _ T16 (mkF m 107 #[.val (.int p1), .val (.int p2), .val (.int p3), .val (.int (p1 &&& (1048575 : Int32))), .val (.int (p3 &&& (3 : Int32))), .val (.int z49_5), .val (.long (F1 (p1 &&& (1048575 : Int32)) z49_5)), .second, .val (.long ((((p1 &&& (1048575 : Int32)).toInt64) * (17592186044416 : Int64)) + (F2 z49_5))), .second, .val (.int (1 : Int32)), .val (.int (1 : Int32)), .unset, .unset] [(.int (F4 (F1 (p1 &&& (1048575 : Int32)) z49_5)))])
  have hc109_17 : (F4 (F1 (p1 &&& (1048575 : Int32)) z49_5)) = z49_5 := own_comm _ _ (own_mask20 _)
  have sg18 : ∀ t, Steps p.tables e below (T16.setTop (mkF m 121 #[.val (.int p1), .val (.int p2), .val (.int p3), .val (.int (p1 &&& (1048575 : Int32))), .val (.int (p3 &&& (3 : Int32))), .val (.int z49_5), .val (.long (F1 (p1 &&& (1048575 : Int32)) z49_5)), .second, .val (.long ((((p1 &&& (1048575 : Int32)).toInt64) * (17592186044416 : Int64)) + (F2 z49_5))), .second, .val (.int (1 : Int32)), .val (.int (1 : Int32)), .val (.int (1 : Int32)), .unset] [(.long (F1 (p1 &&& (1048575 : Int32)) z49_5))])) t → Steps p.tables e below (T16.setTop (mkF m 107 #[.val (.int p1), .val (.int p2), .val (.int p3), .val (.int (p1 &&& (1048575 : Int32))), .val (.int (p3 &&& (3 : Int32))), .val (.int z49_5), .val (.long (F1 (p1 &&& (1048575 : Int32)) z49_5)), .second, .val (.long ((((p1 &&& (1048575 : Int32)).toInt64) * (17592186044416 : Int64)) + (F2 z49_5))), .second, .val (.int (1 : Int32)), .val (.int (1 : Int32)), .unset, .unset] [(.int (F4 (F1 (p1 &&& (1048575 : Int32)) z49_5)))])) t := by
    intro t k
    refine XS.iload X16.here hx rfl (hb hby at_107) rfl ?_
    show Steps p.tables e below (T16.setTop (mkF m 109 #[.val (.int p1), .val (.int p2), .val (.int p3), .val (.int (p1 &&& (1048575 : Int32))), .val (.int (p3 &&& (3 : Int32))), .val (.int z49_5), .val (.long (F1 (p1 &&& (1048575 : Int32)) z49_5)), .second, .val (.long ((((p1 &&& (1048575 : Int32)).toInt64) * (17592186044416 : Int64)) + (F2 z49_5))), .second, .val (.int (1 : Int32)), .val (.int (1 : Int32)), .unset, .unset] [(.int z49_5), (.int (F4 (F1 (p1 &&& (1048575 : Int32)) z49_5)))])) _
    refine XS.icmpNo X16.here hx rfl (hb hby at_109) rfl (teq hc109_17).2 ?_
    show Steps p.tables e below (T16.setTop (mkF m 112 #[.val (.int p1), .val (.int p2), .val (.int p3), .val (.int (p1 &&& (1048575 : Int32))), .val (.int (p3 &&& (3 : Int32))), .val (.int z49_5), .val (.long (F1 (p1 &&& (1048575 : Int32)) z49_5)), .second, .val (.long ((((p1 &&& (1048575 : Int32)).toInt64) * (17592186044416 : Int64)) + (F2 z49_5))), .second, .val (.int (1 : Int32)), .val (.int (1 : Int32)), .unset, .unset] [])) _
    refine XS.iconst X16.here hx rfl (hb hby at_112) ?_
    show Steps p.tables e below (T16.setTop (mkF m 113 #[.val (.int p1), .val (.int p2), .val (.int p3), .val (.int (p1 &&& (1048575 : Int32))), .val (.int (p3 &&& (3 : Int32))), .val (.int z49_5), .val (.long (F1 (p1 &&& (1048575 : Int32)) z49_5)), .second, .val (.long ((((p1 &&& (1048575 : Int32)).toInt64) * (17592186044416 : Int64)) + (F2 z49_5))), .second, .val (.int (1 : Int32)), .val (.int (1 : Int32)), .unset, .unset] [(.int (1 : Int32))])) _
    refine XS.goto X16.here hx rfl (pc0 := 113) (pc' := 117) rfl (hb hby at_113) (by decide) (by decide) ?_
    show Steps p.tables e below (T16.setTop (mkF m 117 #[.val (.int p1), .val (.int p2), .val (.int p3), .val (.int (p1 &&& (1048575 : Int32))), .val (.int (p3 &&& (3 : Int32))), .val (.int z49_5), .val (.long (F1 (p1 &&& (1048575 : Int32)) z49_5)), .second, .val (.long ((((p1 &&& (1048575 : Int32)).toInt64) * (17592186044416 : Int64)) + (F2 z49_5))), .second, .val (.int (1 : Int32)), .val (.int (1 : Int32)), .unset, .unset] [(.int (1 : Int32))])) _
    refine XS.istore X16.here hx rfl (hb hby at_117) rfl (l' := #[.val (.int p1), .val (.int p2), .val (.int p3), .val (.int (p1 &&& (1048575 : Int32))), .val (.int (p3 &&& (3 : Int32))), .val (.int z49_5), .val (.long (F1 (p1 &&& (1048575 : Int32)) z49_5)), .second, .val (.long ((((p1 &&& (1048575 : Int32)).toInt64) * (17592186044416 : Int64)) + (F2 z49_5))), .second, .val (.int (1 : Int32)), .val (.int (1 : Int32)), .val (.int (1 : Int32)), .unset]) rfl ?_
    show Steps p.tables e below (T16.setTop (mkF m 119 #[.val (.int p1), .val (.int p2), .val (.int p3), .val (.int (p1 &&& (1048575 : Int32))), .val (.int (p3 &&& (3 : Int32))), .val (.int z49_5), .val (.long (F1 (p1 &&& (1048575 : Int32)) z49_5)), .second, .val (.long ((((p1 &&& (1048575 : Int32)).toInt64) * (17592186044416 : Int64)) + (F2 z49_5))), .second, .val (.int (1 : Int32)), .val (.int (1 : Int32)), .val (.int (1 : Int32)), .unset] [])) _
    refine XS.lload X16.here hx rfl (hb hby at_119) rfl ?_
    show Steps p.tables e below (T16.setTop (mkF m 121 #[.val (.int p1), .val (.int p2), .val (.int p3), .val (.int (p1 &&& (1048575 : Int32))), .val (.int (p3 &&& (3 : Int32))), .val (.int z49_5), .val (.long (F1 (p1 &&& (1048575 : Int32)) z49_5)), .second, .val (.long ((((p1 &&& (1048575 : Int32)).toInt64) * (17592186044416 : Int64)) + (F2 z49_5))), .second, .val (.int (1 : Int32)), .val (.int (1 : Int32)), .val (.int (1 : Int32)), .unset] [(.long (F1 (p1 &&& (1048575 : Int32)) z49_5))])) _
    exact k
  refine OwnG.st sg18 ?_
  obtain ⟨_, _, ⟨T19, L19, k19, n19⟩, -, X19, ⟨Lc19, hQ19, l19, y19, z19⟩, st19⟩ := Jvm.LawKit.callS X16 hx (y := (⟨"com/example/weiche/weiche/graphgame/Token", "firings", "(J)I"⟩ : MethodName)) hown (mvT hZ (hw _ (List.mem_of_getElem? (i := 17) rfl))) (mvT hZ (hw _ (List.mem_of_getElem? (i := 18) rfl))) (mvT hZ (hw _ (List.mem_of_getElem? (i := 3) rfl))) (mvT hZ (hw _ (List.mem_of_getElem? (i := 19) rfl))) (by decide) (backOf (W := 0) (rm5 l Z a0 hw [] (F1 (p1 &&& (1048575 : Int32)) z49_5)  h0 n0 Z0 ) hZ (hw _ (List.mem_of_getElem? (i := 19) rfl)) (hw _ (List.mem_of_getElem? (i := 3) rfl)) (by decide) (by decide)) (g := (mkF m 121 #[.val (.int p1), .val (.int p2), .val (.int p3), .val (.int (p1 &&& (1048575 : Int32))), .val (.int (p3 &&& (3 : Int32))), .val (.int z49_5), .val (.long (F1 (p1 &&& (1048575 : Int32)) z49_5)), .second, .val (.long ((((p1 &&& (1048575 : Int32)).toInt64) * (17592186044416 : Int64)) + (F2 z49_5))), .second, .val (.int (1 : Int32)), .val (.int (1 : Int32)), .val (.int (1 : Int32)), .unset] [(.long (F1 (p1 &&& (1048575 : Int32)) z49_5))])) rfl (by rw [hml]; rfl) (argsL := [(.long (F1 (p1 &&& (1048575 : Int32)) z49_5))]) (rest := []) (lenOf pd_0_2 rfl) rfl (by show 2 * 0 + _ ≤ _; exact Nat.le_of_eq rfl) (hb hby at_121) (fun _ _ => ⟨rfl, e16, (by decide : 0 + 0 ≤ _), (by decide : 0 + 0 ≤ _)⟩)
  dsimp only [Pt.U, Pt.locs, Pt.cells, Pt.slots] at X19 l19 y19 z19 st19 hQ19
  subst l19 y19 z19
  obtain ⟨rfl, N19q, e19⟩ := hQ19
  have N19 := Fr.app N16 N19q
  refine OwnG.st (fun t k => st19 t k) ?_
  show OwnG p e below s _ _ _ T19 (mkF m 124 #[.val (.int p1), .val (.int p2), .val (.int p3), .val (.int (p1 &&& (1048575 : Int32))), .val (.int (p3 &&& (3 : Int32))), .val (.int z49_5), .val (.long (F1 (p1 &&& (1048575 : Int32)) z49_5)), .second, .val (.long ((((p1 &&& (1048575 : Int32)).toInt64) * (17592186044416 : Int64)) + (F2 z49_5))), .second, .val (.int (1 : Int32)), .val (.int (1 : Int32)), .val (.int (1 : Int32)), .unset] [(.int (F5 (F1 (p1 &&& (1048575 : Int32)) z49_5)))])
  have hc124_20 : (F5 (F1 (p1 &&& (1048575 : Int32)) z49_5)) = (0 : Int32) := own_fire _ _ (own_mask20 _)
  have hc136_21 : ¬ ((1 : Int32) = (0 : Int32)) := by decide
  have hc141_22 : ¬ ((1 : Int32) = (0 : Int32)) := by decide
  have hc146_23 : ¬ ((1 : Int32) = (0 : Int32)) := by decide
  have hc151_24 : ¬ ((1 : Int32) = (0 : Int32)) := by decide
  have sg25 : ∀ t, Steps p.tables e below (T19.setTop (mkF m 159 #[.val (.int p1), .val (.int p2), .val (.int p3), .val (.int (p1 &&& (1048575 : Int32))), .val (.int (p3 &&& (3 : Int32))), .val (.int z49_5), .val (.long (F1 (p1 &&& (1048575 : Int32)) z49_5)), .second, .val (.long ((((p1 &&& (1048575 : Int32)).toInt64) * (17592186044416 : Int64)) + (F2 z49_5))), .second, .val (.int (1 : Int32)), .val (.int (1 : Int32)), .val (.int (1 : Int32)), .val (.int (1 : Int32))] [(.int (1 : Int32))])) t → Steps p.tables e below (T19.setTop (mkF m 124 #[.val (.int p1), .val (.int p2), .val (.int p3), .val (.int (p1 &&& (1048575 : Int32))), .val (.int (p3 &&& (3 : Int32))), .val (.int z49_5), .val (.long (F1 (p1 &&& (1048575 : Int32)) z49_5)), .second, .val (.long ((((p1 &&& (1048575 : Int32)).toInt64) * (17592186044416 : Int64)) + (F2 z49_5))), .second, .val (.int (1 : Int32)), .val (.int (1 : Int32)), .val (.int (1 : Int32)), .unset] [(.int (F5 (F1 (p1 &&& (1048575 : Int32)) z49_5)))])) t := by
    intro t k
    refine XS.ifNo X19.here hx rfl (hb hby at_124) rfl ((if0 _ _).trans (teq hc124_20).2) ?_
    show Steps p.tables e below (T19.setTop (mkF m 127 #[.val (.int p1), .val (.int p2), .val (.int p3), .val (.int (p1 &&& (1048575 : Int32))), .val (.int (p3 &&& (3 : Int32))), .val (.int z49_5), .val (.long (F1 (p1 &&& (1048575 : Int32)) z49_5)), .second, .val (.long ((((p1 &&& (1048575 : Int32)).toInt64) * (17592186044416 : Int64)) + (F2 z49_5))), .second, .val (.int (1 : Int32)), .val (.int (1 : Int32)), .val (.int (1 : Int32)), .unset] [])) _
    refine XS.iconst X19.here hx rfl (hb hby at_127) ?_
    show Steps p.tables e below (T19.setTop (mkF m 128 #[.val (.int p1), .val (.int p2), .val (.int p3), .val (.int (p1 &&& (1048575 : Int32))), .val (.int (p3 &&& (3 : Int32))), .val (.int z49_5), .val (.long (F1 (p1 &&& (1048575 : Int32)) z49_5)), .second, .val (.long ((((p1 &&& (1048575 : Int32)).toInt64) * (17592186044416 : Int64)) + (F2 z49_5))), .second, .val (.int (1 : Int32)), .val (.int (1 : Int32)), .val (.int (1 : Int32)), .unset] [(.int (1 : Int32))])) _
    refine XS.goto X19.here hx rfl (pc0 := 128) (pc' := 132) rfl (hb hby at_128) (by decide) (by decide) ?_
    show Steps p.tables e below (T19.setTop (mkF m 132 #[.val (.int p1), .val (.int p2), .val (.int p3), .val (.int (p1 &&& (1048575 : Int32))), .val (.int (p3 &&& (3 : Int32))), .val (.int z49_5), .val (.long (F1 (p1 &&& (1048575 : Int32)) z49_5)), .second, .val (.long ((((p1 &&& (1048575 : Int32)).toInt64) * (17592186044416 : Int64)) + (F2 z49_5))), .second, .val (.int (1 : Int32)), .val (.int (1 : Int32)), .val (.int (1 : Int32)), .unset] [(.int (1 : Int32))])) _
    refine XS.istore X19.here hx rfl (hb hby at_132) rfl (l' := #[.val (.int p1), .val (.int p2), .val (.int p3), .val (.int (p1 &&& (1048575 : Int32))), .val (.int (p3 &&& (3 : Int32))), .val (.int z49_5), .val (.long (F1 (p1 &&& (1048575 : Int32)) z49_5)), .second, .val (.long ((((p1 &&& (1048575 : Int32)).toInt64) * (17592186044416 : Int64)) + (F2 z49_5))), .second, .val (.int (1 : Int32)), .val (.int (1 : Int32)), .val (.int (1 : Int32)), .val (.int (1 : Int32))]) rfl ?_
    show Steps p.tables e below (T19.setTop (mkF m 134 #[.val (.int p1), .val (.int p2), .val (.int p3), .val (.int (p1 &&& (1048575 : Int32))), .val (.int (p3 &&& (3 : Int32))), .val (.int z49_5), .val (.long (F1 (p1 &&& (1048575 : Int32)) z49_5)), .second, .val (.long ((((p1 &&& (1048575 : Int32)).toInt64) * (17592186044416 : Int64)) + (F2 z49_5))), .second, .val (.int (1 : Int32)), .val (.int (1 : Int32)), .val (.int (1 : Int32)), .val (.int (1 : Int32))] [])) _
    refine XS.iload X19.here hx rfl (hb hby at_134) rfl ?_
    show Steps p.tables e below (T19.setTop (mkF m 136 #[.val (.int p1), .val (.int p2), .val (.int p3), .val (.int (p1 &&& (1048575 : Int32))), .val (.int (p3 &&& (3 : Int32))), .val (.int z49_5), .val (.long (F1 (p1 &&& (1048575 : Int32)) z49_5)), .second, .val (.long ((((p1 &&& (1048575 : Int32)).toInt64) * (17592186044416 : Int64)) + (F2 z49_5))), .second, .val (.int (1 : Int32)), .val (.int (1 : Int32)), .val (.int (1 : Int32)), .val (.int (1 : Int32))] [(.int (1 : Int32))])) _
    refine XS.ifNo X19.here hx rfl (hb hby at_136) rfl ((if0 _ _).trans (feq hc136_21).1) ?_
    show Steps p.tables e below (T19.setTop (mkF m 139 #[.val (.int p1), .val (.int p2), .val (.int p3), .val (.int (p1 &&& (1048575 : Int32))), .val (.int (p3 &&& (3 : Int32))), .val (.int z49_5), .val (.long (F1 (p1 &&& (1048575 : Int32)) z49_5)), .second, .val (.long ((((p1 &&& (1048575 : Int32)).toInt64) * (17592186044416 : Int64)) + (F2 z49_5))), .second, .val (.int (1 : Int32)), .val (.int (1 : Int32)), .val (.int (1 : Int32)), .val (.int (1 : Int32))] [])) _
    refine XS.iload X19.here hx rfl (hb hby at_139) rfl ?_
    show Steps p.tables e below (T19.setTop (mkF m 141 #[.val (.int p1), .val (.int p2), .val (.int p3), .val (.int (p1 &&& (1048575 : Int32))), .val (.int (p3 &&& (3 : Int32))), .val (.int z49_5), .val (.long (F1 (p1 &&& (1048575 : Int32)) z49_5)), .second, .val (.long ((((p1 &&& (1048575 : Int32)).toInt64) * (17592186044416 : Int64)) + (F2 z49_5))), .second, .val (.int (1 : Int32)), .val (.int (1 : Int32)), .val (.int (1 : Int32)), .val (.int (1 : Int32))] [(.int (1 : Int32))])) _
    refine XS.ifNo X19.here hx rfl (hb hby at_141) rfl ((if0 _ _).trans (feq hc141_22).1) ?_
    show Steps p.tables e below (T19.setTop (mkF m 144 #[.val (.int p1), .val (.int p2), .val (.int p3), .val (.int (p1 &&& (1048575 : Int32))), .val (.int (p3 &&& (3 : Int32))), .val (.int z49_5), .val (.long (F1 (p1 &&& (1048575 : Int32)) z49_5)), .second, .val (.long ((((p1 &&& (1048575 : Int32)).toInt64) * (17592186044416 : Int64)) + (F2 z49_5))), .second, .val (.int (1 : Int32)), .val (.int (1 : Int32)), .val (.int (1 : Int32)), .val (.int (1 : Int32))] [])) _
    refine XS.iload X19.here hx rfl (hb hby at_144) rfl ?_
    show Steps p.tables e below (T19.setTop (mkF m 146 #[.val (.int p1), .val (.int p2), .val (.int p3), .val (.int (p1 &&& (1048575 : Int32))), .val (.int (p3 &&& (3 : Int32))), .val (.int z49_5), .val (.long (F1 (p1 &&& (1048575 : Int32)) z49_5)), .second, .val (.long ((((p1 &&& (1048575 : Int32)).toInt64) * (17592186044416 : Int64)) + (F2 z49_5))), .second, .val (.int (1 : Int32)), .val (.int (1 : Int32)), .val (.int (1 : Int32)), .val (.int (1 : Int32))] [(.int (1 : Int32))])) _
    refine XS.ifNo X19.here hx rfl (hb hby at_146) rfl ((if0 _ _).trans (feq hc146_23).1) ?_
    show Steps p.tables e below (T19.setTop (mkF m 149 #[.val (.int p1), .val (.int p2), .val (.int p3), .val (.int (p1 &&& (1048575 : Int32))), .val (.int (p3 &&& (3 : Int32))), .val (.int z49_5), .val (.long (F1 (p1 &&& (1048575 : Int32)) z49_5)), .second, .val (.long ((((p1 &&& (1048575 : Int32)).toInt64) * (17592186044416 : Int64)) + (F2 z49_5))), .second, .val (.int (1 : Int32)), .val (.int (1 : Int32)), .val (.int (1 : Int32)), .val (.int (1 : Int32))] [])) _
    refine XS.iload X19.here hx rfl (hb hby at_149) rfl ?_
    show Steps p.tables e below (T19.setTop (mkF m 151 #[.val (.int p1), .val (.int p2), .val (.int p3), .val (.int (p1 &&& (1048575 : Int32))), .val (.int (p3 &&& (3 : Int32))), .val (.int z49_5), .val (.long (F1 (p1 &&& (1048575 : Int32)) z49_5)), .second, .val (.long ((((p1 &&& (1048575 : Int32)).toInt64) * (17592186044416 : Int64)) + (F2 z49_5))), .second, .val (.int (1 : Int32)), .val (.int (1 : Int32)), .val (.int (1 : Int32)), .val (.int (1 : Int32))] [(.int (1 : Int32))])) _
    refine XS.ifNo X19.here hx rfl (hb hby at_151) rfl ((if0 _ _).trans (feq hc151_24).1) ?_
    show Steps p.tables e below (T19.setTop (mkF m 154 #[.val (.int p1), .val (.int p2), .val (.int p3), .val (.int (p1 &&& (1048575 : Int32))), .val (.int (p3 &&& (3 : Int32))), .val (.int z49_5), .val (.long (F1 (p1 &&& (1048575 : Int32)) z49_5)), .second, .val (.long ((((p1 &&& (1048575 : Int32)).toInt64) * (17592186044416 : Int64)) + (F2 z49_5))), .second, .val (.int (1 : Int32)), .val (.int (1 : Int32)), .val (.int (1 : Int32)), .val (.int (1 : Int32))] [])) _
    refine XS.iconst X19.here hx rfl (hb hby at_154) ?_
    show Steps p.tables e below (T19.setTop (mkF m 155 #[.val (.int p1), .val (.int p2), .val (.int p3), .val (.int (p1 &&& (1048575 : Int32))), .val (.int (p3 &&& (3 : Int32))), .val (.int z49_5), .val (.long (F1 (p1 &&& (1048575 : Int32)) z49_5)), .second, .val (.long ((((p1 &&& (1048575 : Int32)).toInt64) * (17592186044416 : Int64)) + (F2 z49_5))), .second, .val (.int (1 : Int32)), .val (.int (1 : Int32)), .val (.int (1 : Int32)), .val (.int (1 : Int32))] [(.int (1 : Int32))])) _
    refine XS.goto X19.here hx rfl (pc0 := 155) (pc' := 159) rfl (hb hby at_155) (by decide) (by decide) ?_
    show Steps p.tables e below (T19.setTop (mkF m 159 #[.val (.int p1), .val (.int p2), .val (.int p3), .val (.int (p1 &&& (1048575 : Int32))), .val (.int (p3 &&& (3 : Int32))), .val (.int z49_5), .val (.long (F1 (p1 &&& (1048575 : Int32)) z49_5)), .second, .val (.long ((((p1 &&& (1048575 : Int32)).toInt64) * (17592186044416 : Int64)) + (F2 z49_5))), .second, .val (.int (1 : Int32)), .val (.int (1 : Int32)), .val (.int (1 : Int32)), .val (.int (1 : Int32))] [(.int (1 : Int32))])) _
    exact k
  refine OwnG.st sg25 ?_
  have hv : (1 : Int32) = 1 := rfl
  exact OwnG.retN X19 hx (t := .boolean) (by simp) Bd.returns (BodyLoose.notSynchronized Bd) (hb hby at_159) ⟨congrArg (fun w => some (Value.int (nar .boolean w))) hv, N19⟩ (by decide) (by decide)
set_option maxRecDepth 65536 in
set_option maxHeartbeats 40000000 in
theorem comes_1 {Post : Tables → Env → Array Value → State → Outcome → State → Prop} (hpost : ∀ tb e args s v u, (limb_1_1.after args s (.returned v) u = true ∧ limb_1_2.after args s (.returned v) u = true ∧ True) → FrameEnd s (.returned v) u (Jvm.fieldLocs frame_1_writes args s ++ Jvm.arrayLocs frame_1_arrays args s ++ Jvm.staticLocs frame_1_statics s) 0 0 → Post tb e args s (.returned v) u) :
    ArmFor flags0 classFile x code maxLocals ret World_1 tables_1 room_1 Calls_1 rest_1 Pre_1 Post := by
  intro l hfl _ _ p e ha hc hk s m args below hf hA hF happ hP
  obtain ⟨hcalls, hrest, hpre⟩ := hP
  obtain ⟨-, -, -, hnamed, -, -, -, hat⟩ := (Spec.applies_iff hf).mp happ
  obtain ⟨hg, hn⟩ := and_e (Cond.before_iff.mp (show (Jvm.Cond.and given_1 narrow_1).before args s = true from hpre))
  obtain ⟨g1, g2⟩ := and_e hg
  obtain ⟨g3, g4⟩ := and_e g2
  obtain ⟨g5, g6⟩ := and_e g4
  obtain ⟨w0, w1, w2, rfl⟩ : ∃ w0 w1 w2 : Value, args = #[w0, w1, w2] := by
    have hs : args.size = 3 := by simpa [Cond.value, given_1] using g1
    obtain ⟨L⟩ := args
    match L, hs with
    | [w0, w1, w2], _ => exact ⟨w0, w1, w2, rfl⟩
  have hw := fun d (hd : d ∈ tables_1) => atoms_spec (ws := Jvm.Cond.code x code maxLocals ret :: tables_1) hat d (List.mem_cons_of_mem _ hd)
  obtain ⟨i0, ei0⟩ := is_v g3
  obtain rfl : w0 = (.int i0) := Option.some.inj ei0
  obtain ⟨i1, ei1⟩ := is_v g5
  obtain rfl : w1 = (.int i1) := Option.some.inj ei1
  obtain ⟨i2, ei2⟩ := is_v g6
  obtain rfl : w2 = (.int i2) := Option.some.inj ei2
  obtain ⟨n, o, h1, h2, h3, _, L, rfl, ⟨rfl, N⟩, hq⟩ := rm0 l s _ hw tables_1 i0 i1 i2  s.heap s.heap.size (Nat.le_refl _)  p e ha hc hk s m _ below hf ((Spec.applies_iff_loose hf).mp happ).1 ⟨rfl, State.Warmed39.refl s, rfl⟩ trivial
  refine ⟨n, _, h1, h2, h3, hpost _ _ _ _ _ _ ⟨Cond.after_iff.mpr rfl, Cond.after_iff.mpr (eq_i res_at (Term.int_eval (1)) rfl), trivial⟩ ⟨hq.1, hq.2.1, (hq.2.2.sift fun y hy => Or.inr (N y hy)).mono (by decide) (by decide)⟩⟩
theorem main_1_1 : Claimed_1_1 := comes_1 fun _ _ _ _ _ _ h hF => ⟨h.1, hF⟩
theorem main_1_2 : Claimed_1_2 := comes_1 fun _ _ _ _ _ _ h hF => ⟨h.2.1, hF⟩
end Jvm.Pilot.@@N@@
namespace Jvm.Pilot.@@N@@
open Jvm Jvm.ClassFile Sem Op Lib Jvm.Free Jvm.Stand Jvm.Pilot.@@N@@.Jvm.D
/-! MADE BY PROGRAM (witnessworld.py) out of the Statement's table words and the real class files: 9 classes; the members and pool entries that the words name. The judged class is class 1, her method 2. -/
namespace start1
open Jvm.ClassFile
def u (s : String) : CpInfo := .utf8 (stringToUtf16 s)
/-- a pool by its gaps: so many unusable entries, then the entry; so many at the end -/
def gap : Nat → List CpInfo → List CpInfo
  | 0, r => r
  | n + 1, r => .unusable :: gap n r
def poolList (es : List (Nat × CpInfo)) (last : Nat) : List CpInfo := es.foldr (fun e r => gap e.1 (e.2 :: r)) (gap last [])
def pool (es : List (Nat × CpInfo)) (last : Nat) : Array CpInfo := ⟨poolList es last⟩
def fileOf (pool : Array CpInfo) (this : Nat) (attrs : Array Attribute := #[]) (ms : Array MethodInfo := #[]) (fl : Nat := 33) (sup : Nat := 0) (ifs : Array Nat := #[]) (fds : Array FieldInfo := #[]) : ClassFile where
  minorVersion := 0
  majorVersion := 65
  constantPool := pool
  accessFlags := fl
  thisClass := this
  superClass := sup
  interfaces := ifs
  fields := fds
  methods := ms
  attributes := attrs
def plain (name : String) (sup : Option ClassId) : Class where
  name := name
  kind := .ordinary
  loader := none
  accessFlags := 33
  super := sup
  interfaces := #[]
  cf := none
  fields := #[]
  methods := #[]
  instanceTypes := #[]
  staticTypes := #[]
  resolved := #[]
  callSites := []
  init := .initialized
  statics := none
  mirror := none

def pool0 : Array CpInfo := pool [(5, u "<init>"), (0, u "()V"), (1, .class_ 10), (1, u "java/lang/Object")] 113

def k0m0 : Method := { name := "<init>", desc := "()V", sig := { parameters := [], returnType := none }, accessFlags := 1, code := none }
/-- java/lang/Object -/
def k0 : Class := { plain "java/lang/Object" none with
  accessFlags := 33
  interfaces := #[]
  cf := some (fileOf pool0 8 #[] #[{ accessFlags := 1, nameIndex := 5, descriptorIndex := 6, attributes := #[] }] 33 0 #[] #[])
  fields := #[]
  methods := #[k0m0]
  instanceTypes := #[]
  staticTypes := #[]
  resolved := Array.replicate 124 none
  statics := none }

def pool1 : Array CpInfo := pool [(2, .class_ 4), (1, u "java/lang/Object"), (0, u "<init>"), (0, u "()V"), (0, .long 4294967296), (1, .class_ 10), (0, u "com/example/weiche/weiche/graphgame/Token"), (0, .integer 1048575), (0, .methodref 9 13), (0, .nameAndType 14 15), (0, u "of"), (0, u "(II)J"), (0, .long 17592186044416), (1, .methodref 19 20), (0, .class_ 21), (0, .nameAndType 22 23), (0, u "com/example/weiche/weiche/graphgame/TokenOfPinLaw"), (0, u "unsigned32"), (0, u "(I)J"), (0, .methodref 9 25), (0, .nameAndType 26 27), (0, u "place"), (0, u "(J)I"), (0, .methodref 9 29), (0, .nameAndType 30 27), (0, u "commitment"), (0, .methodref 9 32), (0, .nameAndType 33 27), (0, u "firings"), (3, u "law"), (0, u "(III)Z")] 2

def k1m0 : Method := { name := "<init>", desc := "()V", sig := { parameters := [], returnType := none }, accessFlags := 2, code := none }
def k1c1 : Code := { maxStack := 4, maxLocals := 1, code := method_2_code, exceptionTable := #[], attributes := #[] }
def k1m1 : Method := { name := "unsigned32", desc := "(I)J", sig := { parameters := [.int], returnType := some .long }, accessFlags := 10, code := some k1c1 }
def k1c2 : Code := { maxStack := 4, maxLocals := 14, code := code, exceptionTable := #[], attributes := #[] }
def k1m2 : Method := { name := "law", desc := "(III)Z", sig := { parameters := [.int, .int, .int], returnType := some .boolean }, accessFlags := 9, code := some k1c2 }
/-- com/example/weiche/weiche/graphgame/TokenOfPinLaw -/
def k1 : Class := { plain "com/example/weiche/weiche/graphgame/TokenOfPinLaw" (some 0) with
  accessFlags := 49
  interfaces := #[]
  cf := some (fileOf pool1 19 #[] #[{ accessFlags := 2, nameIndex := 5, descriptorIndex := 6, attributes := #[] }, { accessFlags := 10, nameIndex := 22, descriptorIndex := 23, attributes := #[] }, { accessFlags := 9, nameIndex := 37, descriptorIndex := 38, attributes := #[] }] 49 2 #[] #[])
  fields := #[]
  methods := #[k1m0, k1m1, k1m2]
  instanceTypes := #[]
  staticTypes := #[]
  resolved := Array.replicate 41 none
  statics := none }

def pool2 : Array CpInfo := pool [(1, .class_ 2), (0, u "com/example/weiche/weiche/graphgame/Token"), (1, .class_ 6), (1, u "java/lang/Object"), (0, u "<init>"), (0, u "()V"), (0, .long 4294967295), (3, .long 4095), (3, u "commitment"), (0, u "(J)I"), (0, u "UNDECIDED"), (0, u "I"), (2, u "ON_ITS_OWN"), (1, u "MAX_PLACES"), (1, u "MAX_FIRINGS"), (1, u "PLACE_BITS"), (1, u "FIRING_BITS"), (1, u "FIRINGS"), (0, u "J"), (2, u "of"), (0, u "(II)J"), (2, u "place"), (0, u "firings")] 6

def k2m0 : Method := { name := "<init>", desc := "()V", sig := { parameters := [], returnType := none }, accessFlags := 2, code := none }
def k2c1 : Code := { maxStack := 6, maxLocals := 2, code := prog_70_method_2_code, exceptionTable := #[], attributes := #[] }
def k2m1 : Method := { name := "of", desc := "(II)J", sig := { parameters := [.int, .int], returnType := some .long }, accessFlags := 9, code := some k2c1 }
def k2c2 : Code := { maxStack := 3, maxLocals := 2, code := prog_70_method_4_code, exceptionTable := #[], attributes := #[] }
def k2m2 : Method := { name := "place", desc := "(J)I", sig := { parameters := [.long], returnType := some .int }, accessFlags := 9, code := some k2c2 }
def k2c3 : Code := { maxStack := 2, maxLocals := 2, code := prog_70_method_5_code, exceptionTable := #[], attributes := #[] }
def k2m3 : Method := { name := "commitment", desc := "(J)I", sig := { parameters := [.long], returnType := some .int }, accessFlags := 9, code := some k2c3 }
def k2c4 : Code := { maxStack := 4, maxLocals := 2, code := prog_70_method_6_code, exceptionTable := #[], attributes := #[] }
def k2m4 : Method := { name := "firings", desc := "(J)I", sig := { parameters := [.long], returnType := some .int }, accessFlags := 9, code := some k2c4 }
/-- com/example/weiche/weiche/graphgame/Token -/
def k2 : Class := { plain "com/example/weiche/weiche/graphgame/Token" (some 0) with
  accessFlags := 33
  interfaces := #[]
  cf := some (fileOf pool2 1 #[] #[{ accessFlags := 2, nameIndex := 7, descriptorIndex := 8, attributes := #[] }, { accessFlags := 9, nameIndex := 37, descriptorIndex := 38, attributes := #[] }, { accessFlags := 9, nameIndex := 41, descriptorIndex := 18, attributes := #[] }, { accessFlags := 9, nameIndex := 17, descriptorIndex := 18, attributes := #[] }, { accessFlags := 9, nameIndex := 42, descriptorIndex := 18, attributes := #[] }] 33 4 #[] #[{ accessFlags := 25, nameIndex := 19, descriptorIndex := 20, attributes := #[] }, { accessFlags := 25, nameIndex := 23, descriptorIndex := 20, attributes := #[] }, { accessFlags := 25, nameIndex := 25, descriptorIndex := 20, attributes := #[] }, { accessFlags := 25, nameIndex := 27, descriptorIndex := 20, attributes := #[] }, { accessFlags := 26, nameIndex := 29, descriptorIndex := 20, attributes := #[] }, { accessFlags := 26, nameIndex := 31, descriptorIndex := 20, attributes := #[] }, { accessFlags := 26, nameIndex := 33, descriptorIndex := 34, attributes := #[] }])
  fields := #[{ name := "UNDECIDED", type := .int, accessFlags := 25, slot := 0, constantValue := 0 }, { name := "ON_ITS_OWN", type := .int, accessFlags := 25, slot := 1, constantValue := 0 }, { name := "MAX_PLACES", type := .int, accessFlags := 25, slot := 2, constantValue := 0 }, { name := "MAX_FIRINGS", type := .int, accessFlags := 25, slot := 3, constantValue := 0 }, { name := "PLACE_BITS", type := .int, accessFlags := 26, slot := 4, constantValue := 0 }, { name := "FIRING_BITS", type := .int, accessFlags := 26, slot := 5, constantValue := 0 }, { name := "FIRINGS", type := .long, accessFlags := 26, slot := 6, constantValue := 0 }]
  methods := #[k2m0, k2m1, k2m2, k2m3, k2m4]
  instanceTypes := #[]
  staticTypes := #[.int, .int, .int, .int, .int, .int, .long]
  resolved := Array.replicate 49 none
  statics := none }

def pool3 : Array CpInfo := pool [(1, u "java/lang/Cloneable"), (0, .class_ 1), (0, u "java/lang/Object"), (0, .class_ 3)] 3

/-- java/lang/Cloneable -/
def k3 : Class := { plain "java/lang/Cloneable" (some 0) with
  accessFlags := 1537
  interfaces := #[]
  cf := some (fileOf pool3 2 #[] #[] 1537 4 #[] #[])
  fields := #[]
  methods := #[]
  instanceTypes := #[]
  staticTypes := #[]
  resolved := Array.replicate 8 none
  statics := none }

def pool4 : Array CpInfo := pool [(1, u "java/io/Serializable"), (0, .class_ 1), (0, u "java/lang/Object"), (0, .class_ 3)] 3

/-- java/io/Serializable -/
def k4 : Class := { plain "java/io/Serializable" (some 0) with
  accessFlags := 1537
  interfaces := #[]
  cf := some (fileOf pool4 2 #[] #[] 1537 4 #[] #[])
  fields := #[]
  methods := #[]
  instanceTypes := #[]
  staticTypes := #[]
  resolved := Array.replicate 8 none
  statics := none }

/-- the primitive byte -/
def k5 : Class := { plain "byte" none with kind := .primitive 'B', accessFlags := 0x411 }
/-- [B -/
def k6 : Class := { plain "[B" (some 0) with kind := .array 5 .byte, interfaces := #[3, 4], accessFlags := 1041 }

/-- the primitive int -/
def k7 : Class := { plain "int" none with kind := .primitive 'I', accessFlags := 0x411 }
/-- [I -/
def k8 : Class := { plain "[I" (some 0) with kind := .array 7 .int, interfaces := #[3, 4], accessFlags := 1041 }

def heap : Heap := #[]
def classes : Array Class := #[k0, k1, k2, k3, k4, k5, k6, k7, k8]
def interned : List (Array UInt16 × Addr) := []
def slotsUsed : Nat := 0
def theMethod : MethodId := ⟨1, 2⟩
def args0 : Array Value := #[.int 5, .int 5, .int 5]
def aboutOver (below : List Frame) : State where
  vm := { classes := classes, interned := interned.toArray }
  heap := heap
  slotsUsed := slotsUsed
  threads := #[{ frames := .invoking theMethod args0 :: below }]
def below0 : List Frame := [.native { method := ⟨0, 0⟩, args := #[] }]
def about1 : State := aboutOver below0
def p0 : Program := .bare "" "" ""
def e0 : Env := launch0.env 0 0 0
theorem w_frames : about1.frames = Frame.invoking theMethod args0 :: below0 := rfl
set_option maxRecDepth 65536 in
theorem w_args : argsFit about1.vm theMethod args0 = true := by decide +kernel
set_option maxRecDepth 65536 in
theorem w_heap : heapFits about1 = true := by decide +kernel
set_option maxRecDepth 65536 in
theorem w_runnable : about1.curStatus? = some .runnable := by decide +kernel
set_option maxRecDepth 65536 in
theorem w_alone : about1.alone = true := by decide +kernel
set_option maxRecDepth 65536 in
theorem w_named : about1.methodNamed? x = some theMethod := by decide +kernel
set_option maxRecDepth 65536 in
theorem w_hears : about1.hears theMethod below0 = true := by decide +kernel
set_option maxRecDepth 65536 in
theorem w_ripe : about1.ripe theMethod args0 below0 = true := by decide +kernel
theorem w_running : about1.status = .running := rfl
set_option maxRecDepth 65536 in
theorem w_room : about1.hasRoom e0.platform room_1 = true :=
  launch0.hasRoom_least _ room_1 (by decide +kernel) (by decide +kernel) (by decide +kernel) (by decide +kernel) (by decide +kernel) (by decide +kernel)
theorem allAtoms_all (ts : List Jvm.Cond) (a : Array Jvm.Value) (st : Jvm.State) : (allAtoms ts).before a st = ts.all (fun c => c.before a st) := by
  induction ts with
  | nil => rfl
  | cons c t ih =>
    show (Jvm.Cond.and c (allAtoms t)).before a st = _
    rw [Jvm.Cond.before_and, ih, List.all_cons]
def words1 : List Jvm.Cond := Jvm.Cond.code x code maxLocals ret :: tables_1
/-- a 'code' word, met by the world's own term for the bytes: nothing is compared byte by byte -/
theorem code_word {y : MethodName} {bytes : ByteArray} {mx : Nat} {rt : Option FieldType} {a : Array Value} {s : State} {m : MethodId} {meth : Method} {c : Code} (h1 : s.methodNamed? y = some m) (h2 : s.vm.method? m = some meth) (h3 : meth.code = some c) (h4 : c.code = bytes)
    (h5 : (c.maxLocals == mx && c.exceptionTable.isEmpty && decide (c.maxStack ≤ mostOperands) && decide (meth.sig.returnType = rt) && !meth.locks && decide (parseMethodDescriptor y.desc = some meth.sig)) = true) : (Jvm.Cond.code y bytes mx rt).before a s = true := by
  simp only [Bool.and_eq_true, beq_iff_eq, Bool.not_eq_true', decide_eq_true_eq] at h5
  obtain ⟨⟨⟨⟨⟨g1, g2⟩, g3⟩, g4⟩, g5⟩, g6⟩ := h5
  simp [Cond.before, Cond.holds, Cond.value, h1, h2, h3, h4, g1, g2, g3, g4, g5, g6]
def isCode : Jvm.Cond → Bool
  | .code _ _ _ _ => true
  | _ => false
theorem all_split {L : List Jvm.Cond} {P : Jvm.Cond → Bool} (h1 : L.all (fun c => isCode c || P c) = true) (h2 : ∀ c ∈ L.filter isCode, P c = true) : L.all P = true := by
  refine List.all_eq_true.mpr fun c hc => ?_
  have h := List.all_eq_true.mp h1 c hc
  rcases Bool.eq_false_or_eq_true (isCode c) with hi | hi
  · exact h2 c (List.mem_filter.mpr ⟨hc, hi⟩)
  · simpa [hi] using h
set_option maxRecDepth 65536 in
theorem w_c0 : (Jvm.Cond.code x code maxLocals ret).before args0 about1 = true := code_word (m := ⟨1, 2⟩) (meth := k1m2) (c := k1c2) (by decide +kernel) rfl rfl rfl (by decide +kernel)
set_option maxRecDepth 65536 in
theorem w_c1 : (Jvm.Cond.code ({ cls := "com/example/weiche/weiche/graphgame/Token", name := "of", desc := "(II)J" } : Jvm.MethodName) prog_70_method_2_code (2 : Nat) (Option.some Jvm.ClassFile.FieldType.long)).before args0 about1 = true := code_word (m := ⟨2, 1⟩) (meth := k2m1) (c := k2c1) (by decide +kernel) rfl rfl rfl (by decide +kernel)
set_option maxRecDepth 65536 in
theorem w_c2 : (Jvm.Cond.code ({ cls := "com/example/weiche/weiche/graphgame/TokenOfPinLaw", name := "unsigned32", desc := "(I)J" } : Jvm.MethodName) method_2_code (1 : Nat) (Option.some Jvm.ClassFile.FieldType.long)).before args0 about1 = true := code_word (m := ⟨1, 1⟩) (meth := k1m1) (c := k1c1) (by decide +kernel) rfl rfl rfl (by decide +kernel)
set_option maxRecDepth 65536 in
theorem w_c3 : (Jvm.Cond.code ({ cls := "com/example/weiche/weiche/graphgame/Token", name := "place", desc := "(J)I" } : Jvm.MethodName) prog_70_method_4_code (2 : Nat) (Option.some Jvm.ClassFile.FieldType.int)).before args0 about1 = true := code_word (m := ⟨2, 2⟩) (meth := k2m2) (c := k2c2) (by decide +kernel) rfl rfl rfl (by decide +kernel)
set_option maxRecDepth 65536 in
theorem w_c4 : (Jvm.Cond.code ({ cls := "com/example/weiche/weiche/graphgame/Token", name := "commitment", desc := "(J)I" } : Jvm.MethodName) prog_70_method_5_code (2 : Nat) (Option.some Jvm.ClassFile.FieldType.int)).before args0 about1 = true := code_word (m := ⟨2, 3⟩) (meth := k2m3) (c := k2c3) (by decide +kernel) rfl rfl rfl (by decide +kernel)
set_option maxRecDepth 65536 in
theorem w_c5 : (Jvm.Cond.code ({ cls := "com/example/weiche/weiche/graphgame/Token", name := "firings", desc := "(J)I" } : Jvm.MethodName) prog_70_method_6_code (2 : Nat) (Option.some Jvm.ClassFile.FieldType.int)).before args0 about1 = true := code_word (m := ⟨2, 4⟩) (meth := k2m4) (c := k2c4) (by decide +kernel) rfl rfl rfl (by decide +kernel)
def codes1 : List Jvm.Cond := [Jvm.Cond.code x code maxLocals ret, Jvm.Cond.code ({ cls := "com/example/weiche/weiche/graphgame/Token", name := "of", desc := "(II)J" } : Jvm.MethodName) prog_70_method_2_code (2 : Nat) (Option.some Jvm.ClassFile.FieldType.long), Jvm.Cond.code ({ cls := "com/example/weiche/weiche/graphgame/TokenOfPinLaw", name := "unsigned32", desc := "(I)J" } : Jvm.MethodName) method_2_code (1 : Nat) (Option.some Jvm.ClassFile.FieldType.long), Jvm.Cond.code ({ cls := "com/example/weiche/weiche/graphgame/Token", name := "place", desc := "(J)I" } : Jvm.MethodName) prog_70_method_4_code (2 : Nat) (Option.some Jvm.ClassFile.FieldType.int), Jvm.Cond.code ({ cls := "com/example/weiche/weiche/graphgame/Token", name := "commitment", desc := "(J)I" } : Jvm.MethodName) prog_70_method_5_code (2 : Nat) (Option.some Jvm.ClassFile.FieldType.int), Jvm.Cond.code ({ cls := "com/example/weiche/weiche/graphgame/Token", name := "firings", desc := "(J)I" } : Jvm.MethodName) prog_70_method_6_code (2 : Nat) (Option.some Jvm.ClassFile.FieldType.int)]
set_option maxRecDepth 65536 in
theorem codes_eq : words1.filter isCode = codes1 := rfl
theorem w_codes : ∀ c ∈ words1.filter isCode, c.before args0 about1 = true := by
  rw [codes_eq]
  intro c hc
  simp only [codes1, List.mem_cons, List.not_mem_nil, or_false] at hc
  rcases hc with rfl | rfl | rfl | rfl | rfl | rfl
  · exact w_c0
  · exact w_c1
  · exact w_c2
  · exact w_c3
  · exact w_c4
  · exact w_c5
set_option maxRecDepth 65536 in
theorem w_t1 : words1.all (fun c => isCode c || c.before args0 about1) = true := by decide +kernel
theorem w_tables : (allAtoms (Jvm.Cond.code x code maxLocals ret :: tables_1)).before args0 about1 = true := by
  rw [allAtoms_all]
  show words1.all (fun c => c.before args0 about1) = true
  refine all_split ?_ w_codes
  rw [w_t1]
set_option maxRecDepth 65536 in
theorem w_case : (Jvm.Cond.and given_1 narrow_1).before args0 about1 = true := by decide +kernel
theorem w_applies : (headSpec (Jvm.Cond.code x code maxLocals ret :: tables_1) room_1).applies x e0.platform about1 = true :=
  (Spec.applies_iff w_frames).mpr ⟨w_running, w_runnable, w_alone, w_named, w_hears, w_ripe, w_room, w_tables⟩
theorem atStart : AtStart classFile x code maxLocals ret World_1 tables_1 room_1 Calls_1 rest_1 Pre_1 launch0 p0 e0 about1 theMethod args0 below0 :=
  ⟨lists_1, trivial, launch0.admits_env _ _ _, launch0.least_env, fairChoices_fair.cas, fairChoices_fair.clock, w_frames, w_args, w_heap, w_applies, trivial, trivial, w_case⟩
end start1
theorem witness_1 : WitnessClaimed_1 := ⟨start1.p0, start1.e0, start1.about1, start1.theMethod, start1.args0, start1.below0, start1.atStart⟩
end Jvm.Pilot.@@N@@
