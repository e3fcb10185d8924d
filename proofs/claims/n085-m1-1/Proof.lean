import JvmDerived
import JvmDerived.Pilot.@@N@@Statement
import JvmDerived.Pilot.@@N@@Code
set_option linter.unusedVariables false
set_option linter.unusedSimpArgs false
set_option maxHeartbeats 4000000
set_option maxRecDepth 8192
namespace Jvm.OwnKit
open Sem ClassFile Op Lib Jvm.Stand Jvm.Free Jvm.LawKit Jvm.RoadKit
section Own
variable {p : Program} {l : Launch} {e : Env} {R : Room} {s : State} {m : MethodId} {args : Array Value} {below : List Frame} {meth : Method} {c : Code} {T T' : State} {locs : List Loc} {cells slots : Nat}
/-- from the state T with the frame F on top the run comes to the method's end, and what Q says holds there -/
def OwnG (p : Program) (e : Env) (below : List Frame) (s : State) (Q : Option Value → Heap → List Loc → Prop) (k n : Nat) (T : State) (F : JFrame) : Prop :=
  ∃ s₂ o, Steps p.tables e below (T.setTop F) s₂ ∧ s₂.status = .running ∧ Ended s₂ below o ∧ ∃ v L, o = .returned v ∧ Q v s₂.heap L ∧ FrameEnd s o s₂ L k n
theorem OwnG.st {Q : Option Value → Heap → List Loc → Prop} {k n : Nat} {F F' : JFrame} (h : ∀ t, Steps p.tables e below (T'.setTop F') t → Steps p.tables e below (T.setTop F) t) (g : OwnG p e below s Q k n T' F') : OwnG p e below s Q k n T F := by
  obtain ⟨s2, o, h1, r⟩ := g
  exact ⟨s2, o, h _ h1, r⟩
theorem OwnG.leave (X : Stand p l e R s m args below meth c T locs cells slots) {Q : Option Value → Heap → List Loc → Prop} {k n : Nat} {F : JFrame} {v : Option Value} (hv : meth.sig.returnType = none → v = none) (hlk : meth.locks = false)
    (hs : ∀ fs, (∀ (f : JFrame) (acts : List Action), f.method = m → f.locked = none → f.entered = [] → (doReturn e (T.setTop f) acts v).1 = T.setFrames fs) → Steps p.tables e below (T.setTop F) (T.setFrames fs)) (hq : Q v T.heap locs) (hk : cells ≤ k) (hn : slots ≤ n) : OwnG p e below s Q k n T F := by
  obtain ⟨fs, hr, hrun, hended, hW, hsame⟩ := X.leave hv hlk
  exact ⟨_, _, hs fs hr, hrun, hended, _, _, rfl, hq, ⟨_, rfl⟩, hW, hsame.mono hk hn⟩
theorem OwnG.retI (X : Stand p l e R s m args below meth c T locs cells slots) (hx : p.tables.exec = Jvm.exec) {Q : Option Value → Heap → List Loc → Prop} {k n pc : Nat} {Ls : Array Slot} {z : Int32} {rest : List Value} (hret : meth.sig.returnType = some .int) (hlk : meth.locks = false) (hd : decode c.code pc = .ok (.ireturn, 1)) (hq : Q (some (.int z)) T.heap locs) (hk : cells ≤ k) (hn : slots ≤ n) : OwnG p e below s Q k n T (mkF m pc Ls (.int z :: rest)) :=
  OwnG.leave X (fun h => by rw [hret] at h; cases h) hlk (fun fs hr => retOut X hx hret rfl (Or.inl ⟨rfl, Or.inl rfl, z, rfl⟩) hd hr) hq hk hn
theorem OwnG.retJ (X : Stand p l e R s m args below meth c T locs cells slots) (hx : p.tables.exec = Jvm.exec) {Q : Option Value → Heap → List Loc → Prop} {k n pc : Nat} {Ls : Array Slot} {z : Int64} {rest : List Value} (hret : meth.sig.returnType = some .long) (hlk : meth.locks = false) (hd : decode c.code pc = .ok (.lreturn, 1)) (hq : Q (some (.long z)) T.heap locs) (hk : cells ≤ k) (hn : slots ≤ n) : OwnG p e below s Q k n T (mkF m pc Ls (.long z :: rest)) :=
  OwnG.leave X (fun h => by rw [hret] at h; cases h) hlk (fun fs hr => retOut X hx hret rfl (Or.inr (Or.inl ⟨rfl, rfl, z, rfl⟩)) hd hr) hq hk hn
theorem OwnG.retR (X : Stand p l e R s m args below meth c T locs cells slots) (hx : p.tables.exec = Jvm.exec) {Q : Option Value → Heap → List Loc → Prop} {k n pc : Nat} {Ls : Array Slot} {a : Addr} {rest : List Value} {t : FieldType} (hret : meth.sig.returnType = some t) (ht : t.isReference = true) (hnn : narrow t (.ref a) = .ref a) (hlk : meth.locks = false) (hd : decode c.code pc = .ok (.areturn, 1)) (hq : Q (some (.ref a)) T.heap locs) (hk : cells ≤ k) (hn : slots ≤ n) : OwnG p e below s Q k n T (mkF m pc Ls (.ref a :: rest)) :=
  OwnG.leave X (fun h => by rw [hret] at h; cases h) hlk (fun fs hr => retOut X hx hret hnn (Or.inr (Or.inr (Or.inr (Or.inr ⟨rfl, ht, rfl⟩)))) hd hr) hq hk hn
theorem OwnG.retN (X : Stand p l e R s m args below meth c T locs cells slots) (hx : p.tables.exec = Jvm.exec) {Q : Option Value → Heap → List Loc → Prop} {k n pc : Nat} {Ls : Array Slot} {z : Int32} {rest : List Value} {t : FieldType} (ht : t = .boolean ∨ t = .byte ∨ t = .char ∨ t = .short) (hret : meth.sig.returnType = some t) (hlk : meth.locks = false) (hd : decode c.code pc = .ok (.ireturn, 1)) (hq : Q (some (.int (nar t z))) T.heap locs) (hk : cells ≤ k) (hn : slots ≤ n) : OwnG p e below s Q k n T (mkF m pc Ls (.int z :: rest)) :=
  OwnG.leave X (fun h => by rw [hret] at h; cases h) hlk (fun fs hr => Jvm.RoadKit.retN X hx hret ht hd hr) hq hk hn
theorem OwnG.retV (X : Stand p l e R s m args below meth c T locs cells slots) (hx : p.tables.exec = Jvm.exec) {Q : Option Value → Heap → List Loc → Prop} {k n pc : Nat} {Ls : Array Slot} (hret : meth.sig.returnType = none) (hlk : meth.locks = false) (hd : decode c.code pc = .ok (.return_, 1)) (hq : Q none T.heap locs) (hk : cells ≤ k) (hn : slots ≤ n) : OwnG p e below s Q k n T (mkF m pc Ls []) :=
  OwnG.leave X (fun _ => rfl) hlk (fun fs hr => X.returnOut hx hret hd hr) hq hk hn
end Own
end Jvm.OwnKit
namespace Jvm.OwnKit
open Jvm.RoadKit
theorem x_iadd (x y : Int32) (h : -2147483648 ≤ x.toInt + y.toInt ∧ x.toInt + y.toInt < 2147483648) : (x + y).toInt = x.toInt + y.toInt := by
  have a := c_iadd x y
  have b := rng32 (x + y)
  omega
theorem x_isub (x y : Int32) (h : -2147483648 ≤ x.toInt - y.toInt ∧ x.toInt - y.toInt < 2147483648) : (x - y).toInt = x.toInt - y.toInt := by
  have a := c_isub x y
  have b := rng32 (x - y)
  omega
theorem x_imul (x y : Int32) (z : Int) (hz : x.toInt * y.toInt = z) (h : -2147483648 ≤ z ∧ z < 2147483648) : (x * y).toInt = z := by
  have a := c_imul x y
  have b := rng32 (x * y)
  rw [hz] at a
  omega
theorem x_ladd (x y : Int64) (h : -9223372036854775808 ≤ x.toInt + y.toInt ∧ x.toInt + y.toInt < 9223372036854775808) : (x + y).toInt = x.toInt + y.toInt := by
  have a := c_ladd x y
  have b := rng64 (x + y)
  omega
theorem x_lsub (x y : Int64) (h : -9223372036854775808 ≤ x.toInt - y.toInt ∧ x.toInt - y.toInt < 9223372036854775808) : (x - y).toInt = x.toInt - y.toInt := by
  have a := c_lsub x y
  have b := rng64 (x - y)
  omega
theorem x_lmul (x y : Int64) (z : Int) (hz : x.toInt * y.toInt = z) (h : -9223372036854775808 ≤ z ∧ z < 9223372036854775808) : (x * y).toInt = z := by
  have a := c_lmul x y
  have b := rng64 (x * y)
  rw [hz] at a
  omega
theorem x_l2i (x : Int64) (h : -2147483648 ≤ x.toInt ∧ x.toInt < 2147483648) : x.toInt32.toInt = x.toInt := by
  have a := c_l2i x
  have b := rng32 x.toInt32
  omega
end Jvm.OwnKit
namespace Jvm.Pilot.@@N@@
open Jvm Jvm.ClassFile Sem Op Lib Jvm.Free Jvm.Stand Jvm.LawKit Jvm.RoadKit Bundle Jvm.Pilot.@@N@@.Jvm.D Jvm.OwnKit
def F2 (q1 : Int64) (q2 : Int64) (q3 : Int64) (q4 : Int64) : Int64 := (((((((2 : Int64) * q2) + ((4 : Int64) * (q1 + (1 : Int64)))) + ((2 : Int64) * q3)) + ((4 : Int64) * (q3 + (1 : Int64)))) + ((8 : Int64) * q4)) + (512 : Int64))
theorem d2_0 : decode prog_1_method_11_code 0 = .ok (.ldc2_w 144, 3) := by decide +kernel
theorem d2_3 : decode prog_1_method_11_code 3 = .ok (.lload_n 2, 1) := by decide +kernel
theorem d2_4 : decode prog_1_method_11_code 4 = .ok (.lmul, 1) := by decide +kernel
theorem d2_5 : decode prog_1_method_11_code 5 = .ok (.ldc2_w 146, 3) := by decide +kernel
theorem d2_8 : decode prog_1_method_11_code 8 = .ok (.lload_n 0, 1) := by decide +kernel
theorem d2_9 : decode prog_1_method_11_code 9 = .ok (.lconst 1, 1) := by decide +kernel
theorem d2_10 : decode prog_1_method_11_code 10 = .ok (.ladd, 1) := by decide +kernel
theorem d2_11 : decode prog_1_method_11_code 11 = .ok (.lmul, 1) := by decide +kernel
theorem d2_12 : decode prog_1_method_11_code 12 = .ok (.ladd, 1) := by decide +kernel
theorem d2_13 : decode prog_1_method_11_code 13 = .ok (.ldc2_w 144, 3) := by decide +kernel
theorem d2_16 : decode prog_1_method_11_code 16 = .ok (.lload 4, 2) := by decide +kernel
theorem d2_18 : decode prog_1_method_11_code 18 = .ok (.lmul, 1) := by decide +kernel
theorem d2_19 : decode prog_1_method_11_code 19 = .ok (.ladd, 1) := by decide +kernel
theorem d2_20 : decode prog_1_method_11_code 20 = .ok (.ldc2_w 146, 3) := by decide +kernel
theorem d2_23 : decode prog_1_method_11_code 23 = .ok (.lload 4, 2) := by decide +kernel
theorem d2_25 : decode prog_1_method_11_code 25 = .ok (.lconst 1, 1) := by decide +kernel
theorem d2_26 : decode prog_1_method_11_code 26 = .ok (.ladd, 1) := by decide +kernel
theorem d2_27 : decode prog_1_method_11_code 27 = .ok (.lmul, 1) := by decide +kernel
theorem d2_28 : decode prog_1_method_11_code 28 = .ok (.ladd, 1) := by decide +kernel
theorem d2_29 : decode prog_1_method_11_code 29 = .ok (.ldc2_w 148, 3) := by decide +kernel
theorem d2_32 : decode prog_1_method_11_code 32 = .ok (.lload 6, 2) := by decide +kernel
theorem d2_34 : decode prog_1_method_11_code 34 = .ok (.lmul, 1) := by decide +kernel
theorem d2_35 : decode prog_1_method_11_code 35 = .ok (.ladd, 1) := by decide +kernel
theorem d2_36 : decode prog_1_method_11_code 36 = .ok (.ldc2_w 156, 3) := by decide +kernel
theorem d2_39 : decode prog_1_method_11_code 39 = .ok (.ladd, 1) := by decide +kernel
theorem d2_40 : decode prog_1_method_11_code 40 = .ok (.lreturn, 1) := by decide +kernel
theorem pn_2 : plainName "com/example/prefixd/prefixd/BlockList" = true := by first | (simp [plainName, overriddenIn]; done) | decide +kernel
theorem ef_2 (m : MethodId) (q1 : Int64) (q2 : Int64) (q3 : Int64) (q4 : Int64) : entryFrame m #[(.long q1), (.long q2), (.long q3), (.long q4)] 8 = mkF m 0 #[.val (.long q1), .second, .val (.long q2), .second, .val (.long q3), .second, .val (.long q4), .second] [] := by first | (simp [entryFrame, mkF, argsToLocals, Value.category]; done) | rfl
def Q2 (Z : State) (q1 : Int64) (q2 : Int64) (q3 : Int64) (q4 : Int64) (h0 : Heap) (n0 : Nat) (v : Option Value) (h : Heap) (L : List Loc) : Prop := v = some (.long (F2 q1 q2 q3 q4)) ∧ Fr n0 L ∧ h = h0
set_option maxRecDepth 65536 in
set_option maxHeartbeats 40000000 in
theorem rm2 (l : Launch) (Z : State) (a0 : Array Value) (hw : ∀ d ∈ tables_1, d.before a0 Z = true) (ws : List Jvm.Cond) (q1 : Int64) (q2 : Int64) (q3 : Int64) (q4 : Int64)  (h0 : Heap) (n0 : Nat) (Z0 : n0 ≤ h0.size)  :
    MetFree l (⟨"com/example/prefixd/prefixd/BlockList", "heldBytes", "(JJJJ)J"⟩ : MethodName) (head1 (Jvm.Cond.code (⟨"com/example/prefixd/prefixd/BlockList", "heldBytes", "(JJJJ)J"⟩ : MethodName) prog_1_method_11_code 8 (some .long) :: ws) ({ frames := 0, cells := 0, slots := 0, locals := 0 } : Room)) (fun a U => a = #[(.long q1), (.long q2), (.long q3), (.long q4)] ∧ Z.Warmed39 U.vm ∧ U.heap = h0) (fun _ _ _ _ _ => True) (fun _ U o U' => ∃ v L, o = .returned v ∧ Q2 Z q1 q2 q3 q4 h0 n0 v U'.heap L ∧ FrameEnd U o U' L ({ frames := 0, cells := 0, slots := 0, locals := 0 } : Room).cells ({ frames := 0, cells := 0, slots := 0, locals := 0 } : Room).slots) := by
  refine MetFree.of_bodySF (plainFor_of_name pn_2) hisR ?_
  intro p e s m args below meth c s₁ Bd hml0 hP hK
  obtain ⟨rfl, hZ, hh⟩ := hP
  have hx := Bd.exec
  have hby := Bd.bytes
  have hml : c.maxLocals = 8 := hml0
  have hown : s.vm.findClass "com/example/prefixd/prefixd/BlockList" = some m.cls := findClass_of_methodNamed Bd.named
  have hnm := (name_of_methodNamed Bd.named Bd.method).1
  have X0 : Stand p l e ({ frames := 0, cells := 0, slots := 0, locals := 0 } : Room) s m #[(.long q1), (.long q2), (.long q3), (.long q4)] below meth c s₁ [] 0 0 := Stand.of_body Bd
  have e0 : s₁.heap = h0 := by rw [← hh, Bd.state]; rfl
  have N0 := Fr.nil n0
  suffices hG : OwnG p e below s (Q2 Z q1 q2 q3 q4 h0 n0) ({ frames := 0, cells := 0, slots := 0, locals := 0 } : Room).cells ({ frames := 0, cells := 0, slots := 0, locals := 0 } : Room).slots s₁ (mkF m 0 #[.val (.long q1), .second, .val (.long q2), .second, .val (.long q3), .second, .val (.long q4), .second] []) by
    obtain ⟨s2, o2, g1, g2⟩ := hG
    exact ⟨s2, o2, castTop (ef_2 m q1 q2 q3 q4) g1, g2⟩
  have sg1 : ∀ t, Steps p.tables e below (s₁.setTop (mkF m 40 #[.val (.long q1), .second, .val (.long q2), .second, .val (.long q3), .second, .val (.long q4), .second] [(.long (((((((2 : Int64) * q2) + ((4 : Int64) * (q1 + (1 : Int64)))) + ((2 : Int64) * q3)) + ((4 : Int64) * (q3 + (1 : Int64)))) + ((8 : Int64) * q4)) + (512 : Int64)))])) t → Steps p.tables e below (s₁.setTop (mkF m 0 #[.val (.long q1), .second, .val (.long q2), .second, .val (.long q3), .second, .val (.long q4), .second] [])) t := by
    intro t k
    refine X0.ldc2Long hx hown (mvT hZ (hw _ (List.mem_of_getElem? (i := 4) rfl))) (g := (mkF m 0 #[.val (.long q1), .second, .val (.long q2), .second, .val (.long q3), .second, .val (.long q4), .second] [])) rfl (hb hby d2_0) _ ?_
    show Steps p.tables e below (s₁.setTop (mkF m 3 #[.val (.long q1), .second, .val (.long q2), .second, .val (.long q3), .second, .val (.long q4), .second] [(.long (2 : Int64))])) _
    refine XS.lloadN X0.here hx rfl (hb hby d2_3) rfl ?_
    show Steps p.tables e below (s₁.setTop (mkF m 4 #[.val (.long q1), .second, .val (.long q2), .second, .val (.long q3), .second, .val (.long q4), .second] [(.long q2), (.long (2 : Int64))])) _
    refine XS.lmul X0.here hx rfl (hb hby d2_4) rfl ?_
    show Steps p.tables e below (s₁.setTop (mkF m 5 #[.val (.long q1), .second, .val (.long q2), .second, .val (.long q3), .second, .val (.long q4), .second] [(.long ((2 : Int64) * q2))])) _
    refine X0.ldc2Long hx hown (mvT hZ (hw _ (List.mem_of_getElem? (i := 5) rfl))) (g := (mkF m 5 #[.val (.long q1), .second, .val (.long q2), .second, .val (.long q3), .second, .val (.long q4), .second] [(.long ((2 : Int64) * q2))])) rfl (hb hby d2_5) _ ?_
    show Steps p.tables e below (s₁.setTop (mkF m 8 #[.val (.long q1), .second, .val (.long q2), .second, .val (.long q3), .second, .val (.long q4), .second] [(.long (4 : Int64)), (.long ((2 : Int64) * q2))])) _
    refine XS.lloadN X0.here hx rfl (hb hby d2_8) rfl ?_
    show Steps p.tables e below (s₁.setTop (mkF m 9 #[.val (.long q1), .second, .val (.long q2), .second, .val (.long q3), .second, .val (.long q4), .second] [(.long q1), (.long (4 : Int64)), (.long ((2 : Int64) * q2))])) _
    refine XS.lconst X0.here hx rfl (hb hby d2_9) ?_
    show Steps p.tables e below (s₁.setTop (mkF m 10 #[.val (.long q1), .second, .val (.long q2), .second, .val (.long q3), .second, .val (.long q4), .second] [(.long (1 : Int64)), (.long q1), (.long (4 : Int64)), (.long ((2 : Int64) * q2))])) _
    refine XS.ladd X0.here hx rfl (hb hby d2_10) rfl ?_
    show Steps p.tables e below (s₁.setTop (mkF m 11 #[.val (.long q1), .second, .val (.long q2), .second, .val (.long q3), .second, .val (.long q4), .second] [(.long (q1 + (1 : Int64))), (.long (4 : Int64)), (.long ((2 : Int64) * q2))])) _
    refine XS.lmul X0.here hx rfl (hb hby d2_11) rfl ?_
    show Steps p.tables e below (s₁.setTop (mkF m 12 #[.val (.long q1), .second, .val (.long q2), .second, .val (.long q3), .second, .val (.long q4), .second] [(.long ((4 : Int64) * (q1 + (1 : Int64)))), (.long ((2 : Int64) * q2))])) _
    refine XS.ladd X0.here hx rfl (hb hby d2_12) rfl ?_
    show Steps p.tables e below (s₁.setTop (mkF m 13 #[.val (.long q1), .second, .val (.long q2), .second, .val (.long q3), .second, .val (.long q4), .second] [(.long (((2 : Int64) * q2) + ((4 : Int64) * (q1 + (1 : Int64)))))])) _
    refine X0.ldc2Long hx hown (mvT hZ (hw _ (List.mem_of_getElem? (i := 4) rfl))) (g := (mkF m 13 #[.val (.long q1), .second, .val (.long q2), .second, .val (.long q3), .second, .val (.long q4), .second] [(.long (((2 : Int64) * q2) + ((4 : Int64) * (q1 + (1 : Int64)))))])) rfl (hb hby d2_13) _ ?_
    show Steps p.tables e below (s₁.setTop (mkF m 16 #[.val (.long q1), .second, .val (.long q2), .second, .val (.long q3), .second, .val (.long q4), .second] [(.long (2 : Int64)), (.long (((2 : Int64) * q2) + ((4 : Int64) * (q1 + (1 : Int64)))))])) _
    refine XS.lload X0.here hx rfl (hb hby d2_16) rfl ?_
    show Steps p.tables e below (s₁.setTop (mkF m 18 #[.val (.long q1), .second, .val (.long q2), .second, .val (.long q3), .second, .val (.long q4), .second] [(.long q3), (.long (2 : Int64)), (.long (((2 : Int64) * q2) + ((4 : Int64) * (q1 + (1 : Int64)))))])) _
    refine XS.lmul X0.here hx rfl (hb hby d2_18) rfl ?_
    show Steps p.tables e below (s₁.setTop (mkF m 19 #[.val (.long q1), .second, .val (.long q2), .second, .val (.long q3), .second, .val (.long q4), .second] [(.long ((2 : Int64) * q3)), (.long (((2 : Int64) * q2) + ((4 : Int64) * (q1 + (1 : Int64)))))])) _
    refine XS.ladd X0.here hx rfl (hb hby d2_19) rfl ?_
    show Steps p.tables e below (s₁.setTop (mkF m 20 #[.val (.long q1), .second, .val (.long q2), .second, .val (.long q3), .second, .val (.long q4), .second] [(.long ((((2 : Int64) * q2) + ((4 : Int64) * (q1 + (1 : Int64)))) + ((2 : Int64) * q3)))])) _
    refine X0.ldc2Long hx hown (mvT hZ (hw _ (List.mem_of_getElem? (i := 5) rfl))) (g := (mkF m 20 #[.val (.long q1), .second, .val (.long q2), .second, .val (.long q3), .second, .val (.long q4), .second] [(.long ((((2 : Int64) * q2) + ((4 : Int64) * (q1 + (1 : Int64)))) + ((2 : Int64) * q3)))])) rfl (hb hby d2_20) _ ?_
    show Steps p.tables e below (s₁.setTop (mkF m 23 #[.val (.long q1), .second, .val (.long q2), .second, .val (.long q3), .second, .val (.long q4), .second] [(.long (4 : Int64)), (.long ((((2 : Int64) * q2) + ((4 : Int64) * (q1 + (1 : Int64)))) + ((2 : Int64) * q3)))])) _
    refine XS.lload X0.here hx rfl (hb hby d2_23) rfl ?_
    show Steps p.tables e below (s₁.setTop (mkF m 25 #[.val (.long q1), .second, .val (.long q2), .second, .val (.long q3), .second, .val (.long q4), .second] [(.long q3), (.long (4 : Int64)), (.long ((((2 : Int64) * q2) + ((4 : Int64) * (q1 + (1 : Int64)))) + ((2 : Int64) * q3)))])) _
    refine XS.lconst X0.here hx rfl (hb hby d2_25) ?_
    show Steps p.tables e below (s₁.setTop (mkF m 26 #[.val (.long q1), .second, .val (.long q2), .second, .val (.long q3), .second, .val (.long q4), .second] [(.long (1 : Int64)), (.long q3), (.long (4 : Int64)), (.long ((((2 : Int64) * q2) + ((4 : Int64) * (q1 + (1 : Int64)))) + ((2 : Int64) * q3)))])) _
    refine XS.ladd X0.here hx rfl (hb hby d2_26) rfl ?_
    show Steps p.tables e below (s₁.setTop (mkF m 27 #[.val (.long q1), .second, .val (.long q2), .second, .val (.long q3), .second, .val (.long q4), .second] [(.long (q3 + (1 : Int64))), (.long (4 : Int64)), (.long ((((2 : Int64) * q2) + ((4 : Int64) * (q1 + (1 : Int64)))) + ((2 : Int64) * q3)))])) _
    refine XS.lmul X0.here hx rfl (hb hby d2_27) rfl ?_
    show Steps p.tables e below (s₁.setTop (mkF m 28 #[.val (.long q1), .second, .val (.long q2), .second, .val (.long q3), .second, .val (.long q4), .second] [(.long ((4 : Int64) * (q3 + (1 : Int64)))), (.long ((((2 : Int64) * q2) + ((4 : Int64) * (q1 + (1 : Int64)))) + ((2 : Int64) * q3)))])) _
    refine XS.ladd X0.here hx rfl (hb hby d2_28) rfl ?_
    show Steps p.tables e below (s₁.setTop (mkF m 29 #[.val (.long q1), .second, .val (.long q2), .second, .val (.long q3), .second, .val (.long q4), .second] [(.long (((((2 : Int64) * q2) + ((4 : Int64) * (q1 + (1 : Int64)))) + ((2 : Int64) * q3)) + ((4 : Int64) * (q3 + (1 : Int64)))))])) _
    refine X0.ldc2Long hx hown (mvT hZ (hw _ (List.mem_of_getElem? (i := 6) rfl))) (g := (mkF m 29 #[.val (.long q1), .second, .val (.long q2), .second, .val (.long q3), .second, .val (.long q4), .second] [(.long (((((2 : Int64) * q2) + ((4 : Int64) * (q1 + (1 : Int64)))) + ((2 : Int64) * q3)) + ((4 : Int64) * (q3 + (1 : Int64)))))])) rfl (hb hby d2_29) _ ?_
    show Steps p.tables e below (s₁.setTop (mkF m 32 #[.val (.long q1), .second, .val (.long q2), .second, .val (.long q3), .second, .val (.long q4), .second] [(.long (8 : Int64)), (.long (((((2 : Int64) * q2) + ((4 : Int64) * (q1 + (1 : Int64)))) + ((2 : Int64) * q3)) + ((4 : Int64) * (q3 + (1 : Int64)))))])) _
    refine XS.lload X0.here hx rfl (hb hby d2_32) rfl ?_
    show Steps p.tables e below (s₁.setTop (mkF m 34 #[.val (.long q1), .second, .val (.long q2), .second, .val (.long q3), .second, .val (.long q4), .second] [(.long q4), (.long (8 : Int64)), (.long (((((2 : Int64) * q2) + ((4 : Int64) * (q1 + (1 : Int64)))) + ((2 : Int64) * q3)) + ((4 : Int64) * (q3 + (1 : Int64)))))])) _
    refine XS.lmul X0.here hx rfl (hb hby d2_34) rfl ?_
    show Steps p.tables e below (s₁.setTop (mkF m 35 #[.val (.long q1), .second, .val (.long q2), .second, .val (.long q3), .second, .val (.long q4), .second] [(.long ((8 : Int64) * q4)), (.long (((((2 : Int64) * q2) + ((4 : Int64) * (q1 + (1 : Int64)))) + ((2 : Int64) * q3)) + ((4 : Int64) * (q3 + (1 : Int64)))))])) _
    refine XS.ladd X0.here hx rfl (hb hby d2_35) rfl ?_
    show Steps p.tables e below (s₁.setTop (mkF m 36 #[.val (.long q1), .second, .val (.long q2), .second, .val (.long q3), .second, .val (.long q4), .second] [(.long ((((((2 : Int64) * q2) + ((4 : Int64) * (q1 + (1 : Int64)))) + ((2 : Int64) * q3)) + ((4 : Int64) * (q3 + (1 : Int64)))) + ((8 : Int64) * q4)))])) _
    refine X0.ldc2Long hx hown (mvT hZ (hw _ (List.mem_of_getElem? (i := 11) rfl))) (g := (mkF m 36 #[.val (.long q1), .second, .val (.long q2), .second, .val (.long q3), .second, .val (.long q4), .second] [(.long ((((((2 : Int64) * q2) + ((4 : Int64) * (q1 + (1 : Int64)))) + ((2 : Int64) * q3)) + ((4 : Int64) * (q3 + (1 : Int64)))) + ((8 : Int64) * q4)))])) rfl (hb hby d2_36) _ ?_
    show Steps p.tables e below (s₁.setTop (mkF m 39 #[.val (.long q1), .second, .val (.long q2), .second, .val (.long q3), .second, .val (.long q4), .second] [(.long (512 : Int64)), (.long ((((((2 : Int64) * q2) + ((4 : Int64) * (q1 + (1 : Int64)))) + ((2 : Int64) * q3)) + ((4 : Int64) * (q3 + (1 : Int64)))) + ((8 : Int64) * q4)))])) _
    refine XS.ladd X0.here hx rfl (hb hby d2_39) rfl ?_
    show Steps p.tables e below (s₁.setTop (mkF m 40 #[.val (.long q1), .second, .val (.long q2), .second, .val (.long q3), .second, .val (.long q4), .second] [(.long (((((((2 : Int64) * q2) + ((4 : Int64) * (q1 + (1 : Int64)))) + ((2 : Int64) * q3)) + ((4 : Int64) * (q3 + (1 : Int64)))) + ((8 : Int64) * q4)) + (512 : Int64)))])) _
    exact k
  refine OwnG.st sg1 ?_
  have hv : (((((((2 : Int64) * q2) + ((4 : Int64) * (q1 + (1 : Int64)))) + ((2 : Int64) * q3)) + ((4 : Int64) * (q3 + (1 : Int64)))) + ((8 : Int64) * q4)) + (512 : Int64)) = F2 q1 q2 q3 q4 := by simp only [F2]
  exact OwnG.retJ X0 hx Bd.returns (BodyLoose.notSynchronized Bd) (hb hby d2_40) ⟨congrArg (fun w => some (Value.long w)) hv, N0, e0⟩ (by decide) (by decide)
def F1 (q1 : Int64) (q2 : Int64) : Int64 := (((((2 : Int64) * q2) + ((4 : Int64) * (q1 + (1 : Int64)))) + ((8 : Int64) * q1)) + (F2 q1 q2 q1 (1024 : Int64)))
theorem d1_0 : decode prog_1_method_10_code 0 = .ok (.ldc2_w 144, 3) := by decide +kernel
theorem d1_3 : decode prog_1_method_10_code 3 = .ok (.lload_n 2, 1) := by decide +kernel
theorem d1_4 : decode prog_1_method_10_code 4 = .ok (.lmul, 1) := by decide +kernel
theorem d1_5 : decode prog_1_method_10_code 5 = .ok (.ldc2_w 146, 3) := by decide +kernel
theorem d1_8 : decode prog_1_method_10_code 8 = .ok (.lload_n 0, 1) := by decide +kernel
theorem d1_9 : decode prog_1_method_10_code 9 = .ok (.lconst 1, 1) := by decide +kernel
theorem d1_10 : decode prog_1_method_10_code 10 = .ok (.ladd, 1) := by decide +kernel
theorem d1_11 : decode prog_1_method_10_code 11 = .ok (.lmul, 1) := by decide +kernel
theorem d1_12 : decode prog_1_method_10_code 12 = .ok (.ladd, 1) := by decide +kernel
theorem d1_13 : decode prog_1_method_10_code 13 = .ok (.ldc2_w 148, 3) := by decide +kernel
theorem d1_16 : decode prog_1_method_10_code 16 = .ok (.lload_n 0, 1) := by decide +kernel
theorem d1_17 : decode prog_1_method_10_code 17 = .ok (.lmul, 1) := by decide +kernel
theorem d1_18 : decode prog_1_method_10_code 18 = .ok (.ladd, 1) := by decide +kernel
theorem d1_19 : decode prog_1_method_10_code 19 = .ok (.lload_n 0, 1) := by decide +kernel
theorem d1_20 : decode prog_1_method_10_code 20 = .ok (.lload_n 2, 1) := by decide +kernel
theorem d1_21 : decode prog_1_method_10_code 21 = .ok (.lload_n 0, 1) := by decide +kernel
theorem d1_22 : decode prog_1_method_10_code 22 = .ok (.ldc2_w 150, 3) := by decide +kernel
theorem d1_25 : decode prog_1_method_10_code 25 = .ok (.invokestatic 152, 3) := by decide +kernel
theorem d1_28 : decode prog_1_method_10_code 28 = .ok (.ladd, 1) := by decide +kernel
theorem d1_29 : decode prog_1_method_10_code 29 = .ok (.lreturn, 1) := by decide +kernel
theorem pn_1 : plainName "com/example/prefixd/prefixd/BlockList" = true := by first | (simp [plainName, overriddenIn]; done) | decide +kernel
theorem pd_1_0 : parseMethodDescriptor "(JJJJ)J" = some ⟨[.long, .long, .long, .long], some .long⟩ := by decide +kernel
theorem ef_1 (m : MethodId) (q1 : Int64) (q2 : Int64) : entryFrame m #[(.long q1), (.long q2)] 4 = mkF m 0 #[.val (.long q1), .second, .val (.long q2), .second] [] := by first | (simp [entryFrame, mkF, argsToLocals, Value.category]; done) | rfl
def Q1 (Z : State) (q1 : Int64) (q2 : Int64) (h0 : Heap) (n0 : Nat) (v : Option Value) (h : Heap) (L : List Loc) : Prop := v = some (.long (F1 q1 q2)) ∧ Fr n0 L ∧ h = h0
set_option maxRecDepth 65536 in
set_option maxHeartbeats 40000000 in
theorem rm1 (l : Launch) (Z : State) (a0 : Array Value) (hw : ∀ d ∈ tables_1, d.before a0 Z = true) (ws : List Jvm.Cond) (q1 : Int64) (q2 : Int64)  (h0 : Heap) (n0 : Nat) (Z0 : n0 ≤ h0.size)  :
    MetFree l (⟨"com/example/prefixd/prefixd/BlockList", "readingBytes", "(JJ)J"⟩ : MethodName) (head1 (Jvm.Cond.code (⟨"com/example/prefixd/prefixd/BlockList", "readingBytes", "(JJ)J"⟩ : MethodName) prog_1_method_10_code 4 (some .long) :: ws) ({ frames := 1, cells := 0, slots := 0, locals := 21 } : Room)) (fun a U => a = #[(.long q1), (.long q2)] ∧ Z.Warmed39 U.vm ∧ U.heap = h0) (fun _ _ _ _ _ => True) (fun _ U o U' => ∃ v L, o = .returned v ∧ Q1 Z q1 q2 h0 n0 v U'.heap L ∧ FrameEnd U o U' L ({ frames := 1, cells := 0, slots := 0, locals := 21 } : Room).cells ({ frames := 1, cells := 0, slots := 0, locals := 21 } : Room).slots) := by
  refine MetFree.of_bodySF (plainFor_of_name pn_1) hisR ?_
  intro p e s m args below meth c s₁ Bd hml0 hP hK
  obtain ⟨rfl, hZ, hh⟩ := hP
  have hx := Bd.exec
  have hby := Bd.bytes
  have hml : c.maxLocals = 4 := hml0
  have hown : s.vm.findClass "com/example/prefixd/prefixd/BlockList" = some m.cls := findClass_of_methodNamed Bd.named
  have hnm := (name_of_methodNamed Bd.named Bd.method).1
  have X0 : Stand p l e ({ frames := 1, cells := 0, slots := 0, locals := 21 } : Room) s m #[(.long q1), (.long q2)] below meth c s₁ [] 0 0 := Stand.of_body Bd
  have e0 : s₁.heap = h0 := by rw [← hh, Bd.state]; rfl
  have N0 := Fr.nil n0
  suffices hG : OwnG p e below s (Q1 Z q1 q2 h0 n0) ({ frames := 1, cells := 0, slots := 0, locals := 21 } : Room).cells ({ frames := 1, cells := 0, slots := 0, locals := 21 } : Room).slots s₁ (mkF m 0 #[.val (.long q1), .second, .val (.long q2), .second] []) by
    obtain ⟨s2, o2, g1, g2⟩ := hG
    exact ⟨s2, o2, castTop (ef_1 m q1 q2) g1, g2⟩
  have sg1 : ∀ t, Steps p.tables e below (s₁.setTop (mkF m 25 #[.val (.long q1), .second, .val (.long q2), .second] [(.long (1024 : Int64)), (.long q1), (.long q2), (.long q1), (.long ((((2 : Int64) * q2) + ((4 : Int64) * (q1 + (1 : Int64)))) + ((8 : Int64) * q1)))])) t → Steps p.tables e below (s₁.setTop (mkF m 0 #[.val (.long q1), .second, .val (.long q2), .second] [])) t := by
    intro t k
    refine X0.ldc2Long hx hown (mvT hZ (hw _ (List.mem_of_getElem? (i := 4) rfl))) (g := (mkF m 0 #[.val (.long q1), .second, .val (.long q2), .second] [])) rfl (hb hby d1_0) _ ?_
    show Steps p.tables e below (s₁.setTop (mkF m 3 #[.val (.long q1), .second, .val (.long q2), .second] [(.long (2 : Int64))])) _
    refine XS.lloadN X0.here hx rfl (hb hby d1_3) rfl ?_
    show Steps p.tables e below (s₁.setTop (mkF m 4 #[.val (.long q1), .second, .val (.long q2), .second] [(.long q2), (.long (2 : Int64))])) _
    refine XS.lmul X0.here hx rfl (hb hby d1_4) rfl ?_
    show Steps p.tables e below (s₁.setTop (mkF m 5 #[.val (.long q1), .second, .val (.long q2), .second] [(.long ((2 : Int64) * q2))])) _
    refine X0.ldc2Long hx hown (mvT hZ (hw _ (List.mem_of_getElem? (i := 5) rfl))) (g := (mkF m 5 #[.val (.long q1), .second, .val (.long q2), .second] [(.long ((2 : Int64) * q2))])) rfl (hb hby d1_5) _ ?_
    show Steps p.tables e below (s₁.setTop (mkF m 8 #[.val (.long q1), .second, .val (.long q2), .second] [(.long (4 : Int64)), (.long ((2 : Int64) * q2))])) _
    refine XS.lloadN X0.here hx rfl (hb hby d1_8) rfl ?_
    show Steps p.tables e below (s₁.setTop (mkF m 9 #[.val (.long q1), .second, .val (.long q2), .second] [(.long q1), (.long (4 : Int64)), (.long ((2 : Int64) * q2))])) _
    refine XS.lconst X0.here hx rfl (hb hby d1_9) ?_
    show Steps p.tables e below (s₁.setTop (mkF m 10 #[.val (.long q1), .second, .val (.long q2), .second] [(.long (1 : Int64)), (.long q1), (.long (4 : Int64)), (.long ((2 : Int64) * q2))])) _
    refine XS.ladd X0.here hx rfl (hb hby d1_10) rfl ?_
    show Steps p.tables e below (s₁.setTop (mkF m 11 #[.val (.long q1), .second, .val (.long q2), .second] [(.long (q1 + (1 : Int64))), (.long (4 : Int64)), (.long ((2 : Int64) * q2))])) _
    refine XS.lmul X0.here hx rfl (hb hby d1_11) rfl ?_
    show Steps p.tables e below (s₁.setTop (mkF m 12 #[.val (.long q1), .second, .val (.long q2), .second] [(.long ((4 : Int64) * (q1 + (1 : Int64)))), (.long ((2 : Int64) * q2))])) _
    refine XS.ladd X0.here hx rfl (hb hby d1_12) rfl ?_
    show Steps p.tables e below (s₁.setTop (mkF m 13 #[.val (.long q1), .second, .val (.long q2), .second] [(.long (((2 : Int64) * q2) + ((4 : Int64) * (q1 + (1 : Int64)))))])) _
    refine X0.ldc2Long hx hown (mvT hZ (hw _ (List.mem_of_getElem? (i := 6) rfl))) (g := (mkF m 13 #[.val (.long q1), .second, .val (.long q2), .second] [(.long (((2 : Int64) * q2) + ((4 : Int64) * (q1 + (1 : Int64)))))])) rfl (hb hby d1_13) _ ?_
    show Steps p.tables e below (s₁.setTop (mkF m 16 #[.val (.long q1), .second, .val (.long q2), .second] [(.long (8 : Int64)), (.long (((2 : Int64) * q2) + ((4 : Int64) * (q1 + (1 : Int64)))))])) _
    refine XS.lloadN X0.here hx rfl (hb hby d1_16) rfl ?_
    show Steps p.tables e below (s₁.setTop (mkF m 17 #[.val (.long q1), .second, .val (.long q2), .second] [(.long q1), (.long (8 : Int64)), (.long (((2 : Int64) * q2) + ((4 : Int64) * (q1 + (1 : Int64)))))])) _
    refine XS.lmul X0.here hx rfl (hb hby d1_17) rfl ?_
    show Steps p.tables e below (s₁.setTop (mkF m 18 #[.val (.long q1), .second, .val (.long q2), .second] [(.long ((8 : Int64) * q1)), (.long (((2 : Int64) * q2) + ((4 : Int64) * (q1 + (1 : Int64)))))])) _
    refine XS.ladd X0.here hx rfl (hb hby d1_18) rfl ?_
    show Steps p.tables e below (s₁.setTop (mkF m 19 #[.val (.long q1), .second, .val (.long q2), .second] [(.long ((((2 : Int64) * q2) + ((4 : Int64) * (q1 + (1 : Int64)))) + ((8 : Int64) * q1)))])) _
    refine XS.lloadN X0.here hx rfl (hb hby d1_19) rfl ?_
    show Steps p.tables e below (s₁.setTop (mkF m 20 #[.val (.long q1), .second, .val (.long q2), .second] [(.long q1), (.long ((((2 : Int64) * q2) + ((4 : Int64) * (q1 + (1 : Int64)))) + ((8 : Int64) * q1)))])) _
    refine XS.lloadN X0.here hx rfl (hb hby d1_20) rfl ?_
    show Steps p.tables e below (s₁.setTop (mkF m 21 #[.val (.long q1), .second, .val (.long q2), .second] [(.long q2), (.long q1), (.long ((((2 : Int64) * q2) + ((4 : Int64) * (q1 + (1 : Int64)))) + ((8 : Int64) * q1)))])) _
    refine XS.lloadN X0.here hx rfl (hb hby d1_21) rfl ?_
    show Steps p.tables e below (s₁.setTop (mkF m 22 #[.val (.long q1), .second, .val (.long q2), .second] [(.long q1), (.long q2), (.long q1), (.long ((((2 : Int64) * q2) + ((4 : Int64) * (q1 + (1 : Int64)))) + ((8 : Int64) * q1)))])) _
    refine X0.ldc2Long hx hown (mvT hZ (hw _ (List.mem_of_getElem? (i := 7) rfl))) (g := (mkF m 22 #[.val (.long q1), .second, .val (.long q2), .second] [(.long q1), (.long q2), (.long q1), (.long ((((2 : Int64) * q2) + ((4 : Int64) * (q1 + (1 : Int64)))) + ((8 : Int64) * q1)))])) rfl (hb hby d1_22) _ ?_
    show Steps p.tables e below (s₁.setTop (mkF m 25 #[.val (.long q1), .second, .val (.long q2), .second] [(.long (1024 : Int64)), (.long q1), (.long q2), (.long q1), (.long ((((2 : Int64) * q2) + ((4 : Int64) * (q1 + (1 : Int64)))) + ((8 : Int64) * q1)))])) _
    exact k
  refine OwnG.st sg1 ?_
  obtain ⟨_, _, ⟨T2, L2, k2, n2⟩, -, X2, ⟨Lc2, hQ2, l2, y2, z2⟩, st2⟩ := Jvm.LawKit.callS X0 hx (y := (⟨"com/example/prefixd/prefixd/BlockList", "heldBytes", "(JJJJ)J"⟩ : MethodName)) hown (mvT hZ (hw _ (List.mem_of_getElem? (i := 8) rfl))) (mvT hZ (hw _ (List.mem_of_getElem? (i := 9) rfl))) (mvT hZ (hw _ (List.mem_of_getElem? (i := 2) rfl))) (mvT hZ (hw _ (List.mem_of_getElem? (i := 10) rfl))) (by decide) (backOf (W := 2) (rm2 l Z a0 hw [] q1 q2 q1 (1024 : Int64)  h0 n0 Z0 ) hZ (hw _ (List.mem_of_getElem? (i := 10) rfl)) (hw _ (List.mem_of_getElem? (i := 2) rfl)) (by decide) (by decide)) (g := (mkF m 25 #[.val (.long q1), .second, .val (.long q2), .second] [(.long (1024 : Int64)), (.long q1), (.long q2), (.long q1), (.long ((((2 : Int64) * q2) + ((4 : Int64) * (q1 + (1 : Int64)))) + ((8 : Int64) * q1)))])) rfl (by rw [hml]; rfl) (argsL := [(.long q1), (.long q2), (.long q1), (.long (1024 : Int64))]) (rest := [(.long ((((2 : Int64) * q2) + ((4 : Int64) * (q1 + (1 : Int64)))) + ((8 : Int64) * q1)))]) (lenOf pd_1_0 rfl) rfl (by show 2 * 0 + _ ≤ _; exact Nat.le_of_eq rfl) (hb hby d1_25) (fun _ _ => ⟨rfl, e0, (by decide : 0 + 0 ≤ _), (by decide : 0 + 0 ≤ _)⟩)
  dsimp only [Pt.U, Pt.locs, Pt.cells, Pt.slots] at X2 l2 y2 z2 st2 hQ2
  subst l2 y2 z2
  obtain ⟨rfl, N2q, e2⟩ := hQ2
  have N2 := Fr.app N0 N2q
  refine OwnG.st (fun t k => st2 t k) ?_
  show OwnG p e below s _ _ _ T2 (mkF m 28 #[.val (.long q1), .second, .val (.long q2), .second] [(.long (F2 q1 q2 q1 (1024 : Int64))), (.long ((((2 : Int64) * q2) + ((4 : Int64) * (q1 + (1 : Int64)))) + ((8 : Int64) * q1)))])
  have sg3 : ∀ t, Steps p.tables e below (T2.setTop (mkF m 29 #[.val (.long q1), .second, .val (.long q2), .second] [(.long (((((2 : Int64) * q2) + ((4 : Int64) * (q1 + (1 : Int64)))) + ((8 : Int64) * q1)) + (F2 q1 q2 q1 (1024 : Int64))))])) t → Steps p.tables e below (T2.setTop (mkF m 28 #[.val (.long q1), .second, .val (.long q2), .second] [(.long (F2 q1 q2 q1 (1024 : Int64))), (.long ((((2 : Int64) * q2) + ((4 : Int64) * (q1 + (1 : Int64)))) + ((8 : Int64) * q1)))])) t := by
    intro t k
    refine XS.ladd X2.here hx rfl (hb hby d1_28) rfl ?_
    show Steps p.tables e below (T2.setTop (mkF m 29 #[.val (.long q1), .second, .val (.long q2), .second] [(.long (((((2 : Int64) * q2) + ((4 : Int64) * (q1 + (1 : Int64)))) + ((8 : Int64) * q1)) + (F2 q1 q2 q1 (1024 : Int64))))])) _
    exact k
  refine OwnG.st sg3 ?_
  have hv : (((((2 : Int64) * q2) + ((4 : Int64) * (q1 + (1 : Int64)))) + ((8 : Int64) * q1)) + (F2 q1 q2 q1 (1024 : Int64))) = F1 q1 q2 := by simp only [F1]
  exact OwnG.retJ X2 hx Bd.returns (BodyLoose.notSynchronized Bd) (hb hby d1_29) ⟨congrArg (fun w => some (Value.long w)) hv, N2, e2⟩ (by decide) (by decide)
theorem own_rd (t u : Int64) : F1 t u = ((((4 : Int64) * u) + ((22 : Int64) * t)) + (8716 : Int64)) := by
  unfold F1 F2
  grind
theorem own_gt (t u : Int64) : (0 : Int64) < F1 (t &&& (2147483647 : Int64)) (u &&& (2147483647 : Int64)) := by
  rw [own_rd]
  have h1 := c_maskL t 2147483647 31 (by decide) (by decide)
  have h2 := c_maskL u 2147483647 31 (by decide) (by decide)
  obtain ⟨U, hU⟩ : ∃ U, U = u &&& (2147483647 : Int64) := ⟨_, rfl⟩
  obtain ⟨V, hV⟩ : ∃ V, V = t &&& (2147483647 : Int64) := ⟨_, rfl⟩
  rw [← hU] at h2 ⊢
  rw [← hV] at h1 ⊢
  have b1 : 0 ≤ U.toInt ∧ U.toInt < 2147483648 := by omega
  have b2 : 0 ≤ V.toInt ∧ V.toInt < 2147483648 := by omega
  clear h1 h2
  have h3 := x_lmul 4 U (4 * U.toInt) rfl (by omega)
  have h4 := x_lmul 22 V (22 * V.toInt) rfl (by omega)
  have h5 := x_ladd ((4 : Int64) * U) ((22 : Int64) * V) (by omega)
  have e2 : (8716 : Int64).toInt = 8716 := rfl
  have h6 := x_ladd (((4 : Int64) * U) + ((22 : Int64) * V)) 8716 (by omega)
  rw [Int64.lt_iff_toInt_lt, h6, h5, h3, h4, e2]
  show (0 : Int) < _
  omega
theorem pn_0 : plainName "com/example/prefixd/prefixd/BlockListReadingBytesPinLaw" = true := by first | (simp [plainName, overriddenIn]; done) | decide +kernel
theorem pd_0_0 : parseMethodDescriptor "(JJ)J" = some ⟨[.long, .long], some .long⟩ := by decide +kernel
theorem ef_0 (m : MethodId) (q1 : Int64) (q2 : Int64) : entryFrame m #[(.long q1), (.long q2)] maxLocals = mkF m 0 #[.val (.long q1), .second, .val (.long q2), .second, .unset, .unset, .unset, .unset, .unset, .unset, .unset, .unset] [] := by first | (simp [entryFrame, mkF, argsToLocals, Value.category, maxLocals]; done) | rfl
def Q0 (Z : State) (q1 : Int64) (q2 : Int64) (h0 : Heap) (n0 : Nat) (v : Option Value) (h : Heap) (L : List Loc) : Prop := v = some (.int 1) ∧ Fr n0 L
set_option maxRecDepth 65536 in
set_option maxHeartbeats 40000000 in
theorem rm0 (l : Launch) (Z : State) (a0 : Array Value) (hw : ∀ d ∈ tables_1, d.before a0 Z = true) (ws : List Jvm.Cond) (q1 : Int64) (q2 : Int64)  (h0 : Heap) (n0 : Nat) (Z0 : n0 ≤ h0.size)  :
    MetFree l x (head1 (Jvm.Cond.code x code maxLocals ret :: ws) room_1) (fun a U => a = #[(.long q1), (.long q2)] ∧ Z.Warmed39 U.vm ∧ U.heap = h0) (fun _ _ _ _ _ => True) (fun _ U o U' => ∃ v L, o = .returned v ∧ Q0 Z q1 q2 h0 n0 v U'.heap L ∧ FrameEnd U o U' L room_1.cells room_1.slots) := by
  refine MetFree.of_bodySF (plainFor_of_name pn_0) hisR ?_
  intro p e s m args below meth c s₁ Bd hml0 hP hK
  obtain ⟨rfl, hZ, hh⟩ := hP
  have hx := Bd.exec
  have hby := Bd.bytes
  have hml : c.maxLocals = 12 := hml0
  have hown : s.vm.findClass "com/example/prefixd/prefixd/BlockListReadingBytesPinLaw" = some m.cls := findClass_of_methodNamed Bd.named
  have hnm := (name_of_methodNamed Bd.named Bd.method).1
  have X0 : Stand p l e room_1 s m #[(.long q1), (.long q2)] below meth c s₁ [] 0 0 := Stand.of_body Bd
  have e0 : s₁.heap = h0 := by rw [← hh, Bd.state]; rfl
  have N0 := Fr.nil n0
  suffices hG : OwnG p e below s (Q0 Z q1 q2 h0 n0) room_1.cells room_1.slots s₁ (mkF m 0 #[.val (.long q1), .second, .val (.long q2), .second, .unset, .unset, .unset, .unset, .unset, .unset, .unset, .unset] []) by
    obtain ⟨s2, o2, g1, g2⟩ := hG
    exact ⟨s2, o2, castTop (ef_0 m q1 q2) g1, g2⟩
  have sg1 : ∀ t, Steps p.tables e below (s₁.setTop (mkF m 2 #[.val (.long q1), .second, .val (.long q2), .second, .unset, .unset, .unset, .unset, .unset, .unset, .unset, .unset] [(.long q2), (.long q1)])) t → Steps p.tables e below (s₁.setTop (mkF m 0 #[.val (.long q1), .second, .val (.long q2), .second, .unset, .unset, .unset, .unset, .unset, .unset, .unset, .unset] [])) t := by
    intro t k
    refine XS.lloadN X0.here hx rfl (hb hby at_0) rfl ?_
    show Steps p.tables e below (s₁.setTop (mkF m 1 #[.val (.long q1), .second, .val (.long q2), .second, .unset, .unset, .unset, .unset, .unset, .unset, .unset, .unset] [(.long q1)])) _
    refine XS.lloadN X0.here hx rfl (hb hby at_1) rfl ?_
    show Steps p.tables e below (s₁.setTop (mkF m 2 #[.val (.long q1), .second, .val (.long q2), .second, .unset, .unset, .unset, .unset, .unset, .unset, .unset, .unset] [(.long q2), (.long q1)])) _
    exact k
  refine OwnG.st sg1 ?_
  obtain ⟨_, _, ⟨T2, L2, k2, n2⟩, -, X2, ⟨Lc2, hQ2, l2, y2, z2⟩, st2⟩ := Jvm.LawKit.callS X0 hx (y := (⟨"com/example/prefixd/prefixd/BlockList", "readingBytes", "(JJ)J"⟩ : MethodName)) hown (mvT hZ (hw _ (List.mem_of_getElem? (i := 0) rfl))) (mvT hZ (hw _ (List.mem_of_getElem? (i := 1) rfl))) (mvT hZ (hw _ (List.mem_of_getElem? (i := 2) rfl))) (mvT hZ (hw _ (List.mem_of_getElem? (i := 3) rfl))) (by decide) (backOf (W := 0) (rm1 l Z a0 hw [] q1 q2  h0 n0 Z0 ) hZ (hw _ (List.mem_of_getElem? (i := 3) rfl)) (hw _ (List.mem_of_getElem? (i := 2) rfl)) (by decide) (by decide)) (g := (mkF m 2 #[.val (.long q1), .second, .val (.long q2), .second, .unset, .unset, .unset, .unset, .unset, .unset, .unset, .unset] [(.long q2), (.long q1)])) rfl (by rw [hml]; rfl) (argsL := [(.long q1), (.long q2)]) (rest := []) (lenOf pd_0_0 rfl) rfl (by show 2 * 0 + _ ≤ _; exact Nat.le_of_eq rfl) (hb hby at_2) (fun _ _ => ⟨rfl, e0, (by decide : 0 + 0 ≤ _), (by decide : 0 + 0 ≤ _)⟩)
  dsimp only [Pt.U, Pt.locs, Pt.cells, Pt.slots] at X2 l2 y2 z2 st2 hQ2
  subst l2 y2 z2
  obtain ⟨rfl, N2q, e2⟩ := hQ2
  have N2 := Fr.app N0 N2q
  refine OwnG.st (fun t k => st2 t k) ?_
  show OwnG p e below s _ _ _ T2 (mkF m 5 #[.val (.long q1), .second, .val (.long q2), .second, .unset, .unset, .unset, .unset, .unset, .unset, .unset, .unset] [(.long (F1 q1 q2))])
  have sg3 : ∀ t, Steps p.tables e below (T2.setTop (mkF m 34 #[.val (.long q1), .second, .val (.long q2), .second, .val (.long (F1 q1 q2)), .second, .val (.long ((((4 : Int64) * q2) + ((22 : Int64) * q1)) + (8716 : Int64))), .second, .unset, .unset, .unset, .unset] [(.long (q2 &&& (2147483647 : Int64))), (.long (q1 &&& (2147483647 : Int64)))])) t → Steps p.tables e below (T2.setTop (mkF m 5 #[.val (.long q1), .second, .val (.long q2), .second, .unset, .unset, .unset, .unset, .unset, .unset, .unset, .unset] [(.long (F1 q1 q2))])) t := by
    intro t k
    refine XS.lstore X2.here hx rfl (hb hby at_5) rfl (l' := #[.val (.long q1), .second, .val (.long q2), .second, .val (.long (F1 q1 q2)), .second, .unset, .unset, .unset, .unset, .unset, .unset]) rfl ?_
    show Steps p.tables e below (T2.setTop (mkF m 7 #[.val (.long q1), .second, .val (.long q2), .second, .val (.long (F1 q1 q2)), .second, .unset, .unset, .unset, .unset, .unset, .unset] [])) _
    refine X2.ldc2Long hx hown (mvT hZ (hw _ (List.mem_of_getElem? (i := 12) rfl))) (g := (mkF m 7 #[.val (.long q1), .second, .val (.long q2), .second, .val (.long (F1 q1 q2)), .second, .unset, .unset, .unset, .unset, .unset, .unset] [])) rfl (hb hby at_7) _ ?_
    show Steps p.tables e below (T2.setTop (mkF m 10 #[.val (.long q1), .second, .val (.long q2), .second, .val (.long (F1 q1 q2)), .second, .unset, .unset, .unset, .unset, .unset, .unset] [(.long (4 : Int64))])) _
    refine XS.lloadN X2.here hx rfl (hb hby at_10) rfl ?_
    show Steps p.tables e below (T2.setTop (mkF m 11 #[.val (.long q1), .second, .val (.long q2), .second, .val (.long (F1 q1 q2)), .second, .unset, .unset, .unset, .unset, .unset, .unset] [(.long q2), (.long (4 : Int64))])) _
    refine XS.lmul X2.here hx rfl (hb hby at_11) rfl ?_
    show Steps p.tables e below (T2.setTop (mkF m 12 #[.val (.long q1), .second, .val (.long q2), .second, .val (.long (F1 q1 q2)), .second, .unset, .unset, .unset, .unset, .unset, .unset] [(.long ((4 : Int64) * q2))])) _
    refine X2.ldc2Long hx hown (mvT hZ (hw _ (List.mem_of_getElem? (i := 13) rfl))) (g := (mkF m 12 #[.val (.long q1), .second, .val (.long q2), .second, .val (.long (F1 q1 q2)), .second, .unset, .unset, .unset, .unset, .unset, .unset] [(.long ((4 : Int64) * q2))])) rfl (hb hby at_12) _ ?_
    show Steps p.tables e below (T2.setTop (mkF m 15 #[.val (.long q1), .second, .val (.long q2), .second, .val (.long (F1 q1 q2)), .second, .unset, .unset, .unset, .unset, .unset, .unset] [(.long (22 : Int64)), (.long ((4 : Int64) * q2))])) _
    refine XS.lloadN X2.here hx rfl (hb hby at_15) rfl ?_
    show Steps p.tables e below (T2.setTop (mkF m 16 #[.val (.long q1), .second, .val (.long q2), .second, .val (.long (F1 q1 q2)), .second, .unset, .unset, .unset, .unset, .unset, .unset] [(.long q1), (.long (22 : Int64)), (.long ((4 : Int64) * q2))])) _
    refine XS.lmul X2.here hx rfl (hb hby at_16) rfl ?_
    show Steps p.tables e below (T2.setTop (mkF m 17 #[.val (.long q1), .second, .val (.long q2), .second, .val (.long (F1 q1 q2)), .second, .unset, .unset, .unset, .unset, .unset, .unset] [(.long ((22 : Int64) * q1)), (.long ((4 : Int64) * q2))])) _
    refine XS.ladd X2.here hx rfl (hb hby at_17) rfl ?_
    show Steps p.tables e below (T2.setTop (mkF m 18 #[.val (.long q1), .second, .val (.long q2), .second, .val (.long (F1 q1 q2)), .second, .unset, .unset, .unset, .unset, .unset, .unset] [(.long (((4 : Int64) * q2) + ((22 : Int64) * q1)))])) _
    refine X2.ldc2Long hx hown (mvT hZ (hw _ (List.mem_of_getElem? (i := 14) rfl))) (g := (mkF m 18 #[.val (.long q1), .second, .val (.long q2), .second, .val (.long (F1 q1 q2)), .second, .unset, .unset, .unset, .unset, .unset, .unset] [(.long (((4 : Int64) * q2) + ((22 : Int64) * q1)))])) rfl (hb hby at_18) _ ?_
    show Steps p.tables e below (T2.setTop (mkF m 21 #[.val (.long q1), .second, .val (.long q2), .second, .val (.long (F1 q1 q2)), .second, .unset, .unset, .unset, .unset, .unset, .unset] [(.long (8716 : Int64)), (.long (((4 : Int64) * q2) + ((22 : Int64) * q1)))])) _
    refine XS.ladd X2.here hx rfl (hb hby at_21) rfl ?_
    show Steps p.tables e below (T2.setTop (mkF m 22 #[.val (.long q1), .second, .val (.long q2), .second, .val (.long (F1 q1 q2)), .second, .unset, .unset, .unset, .unset, .unset, .unset] [(.long ((((4 : Int64) * q2) + ((22 : Int64) * q1)) + (8716 : Int64)))])) _
    refine XS.lstore X2.here hx rfl (hb hby at_22) rfl (l' := #[.val (.long q1), .second, .val (.long q2), .second, .val (.long (F1 q1 q2)), .second, .val (.long ((((4 : Int64) * q2) + ((22 : Int64) * q1)) + (8716 : Int64))), .second, .unset, .unset, .unset, .unset]) rfl ?_
    show Steps p.tables e below (T2.setTop (mkF m 24 #[.val (.long q1), .second, .val (.long q2), .second, .val (.long (F1 q1 q2)), .second, .val (.long ((((4 : Int64) * q2) + ((22 : Int64) * q1)) + (8716 : Int64))), .second, .unset, .unset, .unset, .unset] [])) _
    refine XS.lloadN X2.here hx rfl (hb hby at_24) rfl ?_
    show Steps p.tables e below (T2.setTop (mkF m 25 #[.val (.long q1), .second, .val (.long q2), .second, .val (.long (F1 q1 q2)), .second, .val (.long ((((4 : Int64) * q2) + ((22 : Int64) * q1)) + (8716 : Int64))), .second, .unset, .unset, .unset, .unset] [(.long q1)])) _
    refine X2.ldc2Long hx hown (mvT hZ (hw _ (List.mem_of_getElem? (i := 15) rfl))) (g := (mkF m 25 #[.val (.long q1), .second, .val (.long q2), .second, .val (.long (F1 q1 q2)), .second, .val (.long ((((4 : Int64) * q2) + ((22 : Int64) * q1)) + (8716 : Int64))), .second, .unset, .unset, .unset, .unset] [(.long q1)])) rfl (hb hby at_25) _ ?_
    show Steps p.tables e below (T2.setTop (mkF m 28 #[.val (.long q1), .second, .val (.long q2), .second, .val (.long (F1 q1 q2)), .second, .val (.long ((((4 : Int64) * q2) + ((22 : Int64) * q1)) + (8716 : Int64))), .second, .unset, .unset, .unset, .unset] [(.long (2147483647 : Int64)), (.long q1)])) _
    refine XS.land X2.here hx rfl (hb hby at_28) rfl ?_
    show Steps p.tables e below (T2.setTop (mkF m 29 #[.val (.long q1), .second, .val (.long q2), .second, .val (.long (F1 q1 q2)), .second, .val (.long ((((4 : Int64) * q2) + ((22 : Int64) * q1)) + (8716 : Int64))), .second, .unset, .unset, .unset, .unset] [(.long (q1 &&& (2147483647 : Int64)))])) _
    refine XS.lloadN X2.here hx rfl (hb hby at_29) rfl ?_
    show Steps p.tables e below (T2.setTop (mkF m 30 #[.val (.long q1), .second, .val (.long q2), .second, .val (.long (F1 q1 q2)), .second, .val (.long ((((4 : Int64) * q2) + ((22 : Int64) * q1)) + (8716 : Int64))), .second, .unset, .unset, .unset, .unset] [(.long q2), (.long (q1 &&& (2147483647 : Int64)))])) _
    refine X2.ldc2Long hx hown (mvT hZ (hw _ (List.mem_of_getElem? (i := 15) rfl))) (g := (mkF m 30 #[.val (.long q1), .second, .val (.long q2), .second, .val (.long (F1 q1 q2)), .second, .val (.long ((((4 : Int64) * q2) + ((22 : Int64) * q1)) + (8716 : Int64))), .second, .unset, .unset, .unset, .unset] [(.long q2), (.long (q1 &&& (2147483647 : Int64)))])) rfl (hb hby at_30) _ ?_
    show Steps p.tables e below (T2.setTop (mkF m 33 #[.val (.long q1), .second, .val (.long q2), .second, .val (.long (F1 q1 q2)), .second, .val (.long ((((4 : Int64) * q2) + ((22 : Int64) * q1)) + (8716 : Int64))), .second, .unset, .unset, .unset, .unset] [(.long (2147483647 : Int64)), (.long q2), (.long (q1 &&& (2147483647 : Int64)))])) _
    refine XS.land X2.here hx rfl (hb hby at_33) rfl ?_
    show Steps p.tables e below (T2.setTop (mkF m 34 #[.val (.long q1), .second, .val (.long q2), .second, .val (.long (F1 q1 q2)), .second, .val (.long ((((4 : Int64) * q2) + ((22 : Int64) * q1)) + (8716 : Int64))), .second, .unset, .unset, .unset, .unset] [(.long (q2 &&& (2147483647 : Int64))), (.long (q1 &&& (2147483647 : Int64)))])) _
    exact k
  refine OwnG.st sg3 ?_
  obtain ⟨_, _, ⟨T4, L4, k4, n4⟩, -, X4, ⟨Lc4, hQ4, l4, y4, z4⟩, st4⟩ := Jvm.LawKit.callS X2 hx (y := (⟨"com/example/prefixd/prefixd/BlockList", "readingBytes", "(JJ)J"⟩ : MethodName)) hown (mvT hZ (hw _ (List.mem_of_getElem? (i := 0) rfl))) (mvT hZ (hw _ (List.mem_of_getElem? (i := 1) rfl))) (mvT hZ (hw _ (List.mem_of_getElem? (i := 2) rfl))) (mvT hZ (hw _ (List.mem_of_getElem? (i := 3) rfl))) (by decide) (backOf (W := 0) (rm1 l Z a0 hw [] (q1 &&& (2147483647 : Int64)) (q2 &&& (2147483647 : Int64))  h0 n0 Z0 ) hZ (hw _ (List.mem_of_getElem? (i := 3) rfl)) (hw _ (List.mem_of_getElem? (i := 2) rfl)) (by decide) (by decide)) (g := (mkF m 34 #[.val (.long q1), .second, .val (.long q2), .second, .val (.long (F1 q1 q2)), .second, .val (.long ((((4 : Int64) * q2) + ((22 : Int64) * q1)) + (8716 : Int64))), .second, .unset, .unset, .unset, .unset] [(.long (q2 &&& (2147483647 : Int64))), (.long (q1 &&& (2147483647 : Int64)))])) rfl (by rw [hml]; rfl) (argsL := [(.long (q1 &&& (2147483647 : Int64))), (.long (q2 &&& (2147483647 : Int64)))]) (rest := []) (lenOf pd_0_0 rfl) rfl (by show 2 * 0 + _ ≤ _; exact Nat.le_of_eq rfl) (hb hby at_34) (fun _ _ => ⟨rfl, e2, (by decide : 0 + 0 ≤ _), (by decide : 0 + 0 ≤ _)⟩)
  dsimp only [Pt.U, Pt.locs, Pt.cells, Pt.slots] at X4 l4 y4 z4 st4 hQ4
  subst l4 y4 z4
  obtain ⟨rfl, N4q, e4⟩ := hQ4
  have N4 := Fr.app N2 N4q
  refine OwnG.st (fun t k => st4 t k) ?_
  show OwnG p e below s _ _ _ T4 (mkF m 37 #[.val (.long q1), .second, .val (.long q2), .second, .val (.long (F1 q1 q2)), .second, .val (.long ((((4 : Int64) * q2) + ((22 : Int64) * q1)) + (8716 : Int64))), .second, .unset, .unset, .unset, .unset] [(.long (F1 (q1 &&& (2147483647 : Int64)) (q2 &&& (2147483647 : Int64))))])
  have hc69_5 : (F1 q1 q2) = ((((4 : Int64) * q2) + ((22 : Int64) * q1)) + (8716 : Int64)) := own_rd _ _
  have hc77_6 : (F1 (q1 &&& (2147483647 : Int64)) (q2 &&& (2147483647 : Int64))) = ((((4 : Int64) * (q2 &&& (2147483647 : Int64))) + ((22 : Int64) * (q1 &&& (2147483647 : Int64)))) + (8716 : Int64)) := own_rd _ _
  have hc84_7 : (0 : Int64) < (F1 (q1 &&& (2147483647 : Int64)) (q2 &&& (2147483647 : Int64))) := own_gt _ _
  have sg8 : ∀ t, Steps p.tables e below (T4.setTop (mkF m 92 #[.val (.long q1), .second, .val (.long q2), .second, .val (.long (F1 q1 q2)), .second, .val (.long ((((4 : Int64) * q2) + ((22 : Int64) * q1)) + (8716 : Int64))), .second, .val (.long (F1 (q1 &&& (2147483647 : Int64)) (q2 &&& (2147483647 : Int64)))), .second, .val (.long ((((4 : Int64) * (q2 &&& (2147483647 : Int64))) + ((22 : Int64) * (q1 &&& (2147483647 : Int64)))) + (8716 : Int64))), .second] [(.int (1 : Int32))])) t → Steps p.tables e below (T4.setTop (mkF m 37 #[.val (.long q1), .second, .val (.long q2), .second, .val (.long (F1 q1 q2)), .second, .val (.long ((((4 : Int64) * q2) + ((22 : Int64) * q1)) + (8716 : Int64))), .second, .unset, .unset, .unset, .unset] [(.long (F1 (q1 &&& (2147483647 : Int64)) (q2 &&& (2147483647 : Int64))))])) t := by
    intro t k
    refine XS.lstore X4.here hx rfl (hb hby at_37) rfl (l' := #[.val (.long q1), .second, .val (.long q2), .second, .val (.long (F1 q1 q2)), .second, .val (.long ((((4 : Int64) * q2) + ((22 : Int64) * q1)) + (8716 : Int64))), .second, .val (.long (F1 (q1 &&& (2147483647 : Int64)) (q2 &&& (2147483647 : Int64)))), .second, .unset, .unset]) rfl ?_
    show Steps p.tables e below (T4.setTop (mkF m 39 #[.val (.long q1), .second, .val (.long q2), .second, .val (.long (F1 q1 q2)), .second, .val (.long ((((4 : Int64) * q2) + ((22 : Int64) * q1)) + (8716 : Int64))), .second, .val (.long (F1 (q1 &&& (2147483647 : Int64)) (q2 &&& (2147483647 : Int64)))), .second, .unset, .unset] [])) _
    refine X4.ldc2Long hx hown (mvT hZ (hw _ (List.mem_of_getElem? (i := 12) rfl))) (g := (mkF m 39 #[.val (.long q1), .second, .val (.long q2), .second, .val (.long (F1 q1 q2)), .second, .val (.long ((((4 : Int64) * q2) + ((22 : Int64) * q1)) + (8716 : Int64))), .second, .val (.long (F1 (q1 &&& (2147483647 : Int64)) (q2 &&& (2147483647 : Int64)))), .second, .unset, .unset] [])) rfl (hb hby at_39) _ ?_
    show Steps p.tables e below (T4.setTop (mkF m 42 #[.val (.long q1), .second, .val (.long q2), .second, .val (.long (F1 q1 q2)), .second, .val (.long ((((4 : Int64) * q2) + ((22 : Int64) * q1)) + (8716 : Int64))), .second, .val (.long (F1 (q1 &&& (2147483647 : Int64)) (q2 &&& (2147483647 : Int64)))), .second, .unset, .unset] [(.long (4 : Int64))])) _
    refine XS.lloadN X4.here hx rfl (hb hby at_42) rfl ?_
    show Steps p.tables e below (T4.setTop (mkF m 43 #[.val (.long q1), .second, .val (.long q2), .second, .val (.long (F1 q1 q2)), .second, .val (.long ((((4 : Int64) * q2) + ((22 : Int64) * q1)) + (8716 : Int64))), .second, .val (.long (F1 (q1 &&& (2147483647 : Int64)) (q2 &&& (2147483647 : Int64)))), .second, .unset, .unset] [(.long q2), (.long (4 : Int64))])) _
    refine X4.ldc2Long hx hown (mvT hZ (hw _ (List.mem_of_getElem? (i := 15) rfl))) (g := (mkF m 43 #[.val (.long q1), .second, .val (.long q2), .second, .val (.long (F1 q1 q2)), .second, .val (.long ((((4 : Int64) * q2) + ((22 : Int64) * q1)) + (8716 : Int64))), .second, .val (.long (F1 (q1 &&& (2147483647 : Int64)) (q2 &&& (2147483647 : Int64)))), .second, .unset, .unset] [(.long q2), (.long (4 : Int64))])) rfl (hb hby at_43) _ ?_
    show Steps p.tables e below (T4.setTop (mkF m 46 #[.val (.long q1), .second, .val (.long q2), .second, .val (.long (F1 q1 q2)), .second, .val (.long ((((4 : Int64) * q2) + ((22 : Int64) * q1)) + (8716 : Int64))), .second, .val (.long (F1 (q1 &&& (2147483647 : Int64)) (q2 &&& (2147483647 : Int64)))), .second, .unset, .unset] [(.long (2147483647 : Int64)), (.long q2), (.long (4 : Int64))])) _
    refine XS.land X4.here hx rfl (hb hby at_46) rfl ?_
    show Steps p.tables e below (T4.setTop (mkF m 47 #[.val (.long q1), .second, .val (.long q2), .second, .val (.long (F1 q1 q2)), .second, .val (.long ((((4 : Int64) * q2) + ((22 : Int64) * q1)) + (8716 : Int64))), .second, .val (.long (F1 (q1 &&& (2147483647 : Int64)) (q2 &&& (2147483647 : Int64)))), .second, .unset, .unset] [(.long (q2 &&& (2147483647 : Int64))), (.long (4 : Int64))])) _
    refine XS.lmul X4.here hx rfl (hb hby at_47) rfl ?_
    show Steps p.tables e below (T4.setTop (mkF m 48 #[.val (.long q1), .second, .val (.long q2), .second, .val (.long (F1 q1 q2)), .second, .val (.long ((((4 : Int64) * q2) + ((22 : Int64) * q1)) + (8716 : Int64))), .second, .val (.long (F1 (q1 &&& (2147483647 : Int64)) (q2 &&& (2147483647 : Int64)))), .second, .unset, .unset] [(.long ((4 : Int64) * (q2 &&& (2147483647 : Int64))))])) _
    refine X4.ldc2Long hx hown (mvT hZ (hw _ (List.mem_of_getElem? (i := 13) rfl))) (g := (mkF m 48 #[.val (.long q1), .second, .val (.long q2), .second, .val (.long (F1 q1 q2)), .second, .val (.long ((((4 : Int64) * q2) + ((22 : Int64) * q1)) + (8716 : Int64))), .second, .val (.long (F1 (q1 &&& (2147483647 : Int64)) (q2 &&& (2147483647 : Int64)))), .second, .unset, .unset] [(.long ((4 : Int64) * (q2 &&& (2147483647 : Int64))))])) rfl (hb hby at_48) _ ?_
    show Steps p.tables e below (T4.setTop (mkF m 51 #[.val (.long q1), .second, .val (.long q2), .second, .val (.long (F1 q1 q2)), .second, .val (.long ((((4 : Int64) * q2) + ((22 : Int64) * q1)) + (8716 : Int64))), .second, .val (.long (F1 (q1 &&& (2147483647 : Int64)) (q2 &&& (2147483647 : Int64)))), .second, .unset, .unset] [(.long (22 : Int64)), (.long ((4 : Int64) * (q2 &&& (2147483647 : Int64))))])) _
    refine XS.lloadN X4.here hx rfl (hb hby at_51) rfl ?_
    show Steps p.tables e below (T4.setTop (mkF m 52 #[.val (.long q1), .second, .val (.long q2), .second, .val (.long (F1 q1 q2)), .second, .val (.long ((((4 : Int64) * q2) + ((22 : Int64) * q1)) + (8716 : Int64))), .second, .val (.long (F1 (q1 &&& (2147483647 : Int64)) (q2 &&& (2147483647 : Int64)))), .second, .unset, .unset] [(.long q1), (.long (22 : Int64)), (.long ((4 : Int64) * (q2 &&& (2147483647 : Int64))))])) _
    refine X4.ldc2Long hx hown (mvT hZ (hw _ (List.mem_of_getElem? (i := 15) rfl))) (g := (mkF m 52 #[.val (.long q1), .second, .val (.long q2), .second, .val (.long (F1 q1 q2)), .second, .val (.long ((((4 : Int64) * q2) + ((22 : Int64) * q1)) + (8716 : Int64))), .second, .val (.long (F1 (q1 &&& (2147483647 : Int64)) (q2 &&& (2147483647 : Int64)))), .second, .unset, .unset] [(.long q1), (.long (22 : Int64)), (.long ((4 : Int64) * (q2 &&& (2147483647 : Int64))))])) rfl (hb hby at_52) _ ?_
    show Steps p.tables e below (T4.setTop (mkF m 55 #[.val (.long q1), .second, .val (.long q2), .second, .val (.long (F1 q1 q2)), .second, .val (.long ((((4 : Int64) * q2) + ((22 : Int64) * q1)) + (8716 : Int64))), .second, .val (.long (F1 (q1 &&& (2147483647 : Int64)) (q2 &&& (2147483647 : Int64)))), .second, .unset, .unset] [(.long (2147483647 : Int64)), (.long q1), (.long (22 : Int64)), (.long ((4 : Int64) * (q2 &&& (2147483647 : Int64))))])) _
    refine XS.land X4.here hx rfl (hb hby at_55) rfl ?_
    show Steps p.tables e below (T4.setTop (mkF m 56 #[.val (.long q1), .second, .val (.long q2), .second, .val (.long (F1 q1 q2)), .second, .val (.long ((((4 : Int64) * q2) + ((22 : Int64) * q1)) + (8716 : Int64))), .second, .val (.long (F1 (q1 &&& (2147483647 : Int64)) (q2 &&& (2147483647 : Int64)))), .second, .unset, .unset] [(.long (q1 &&& (2147483647 : Int64))), (.long (22 : Int64)), (.long ((4 : Int64) * (q2 &&& (2147483647 : Int64))))])) _
    refine XS.lmul X4.here hx rfl (hb hby at_56) rfl ?_
    show Steps p.tables e below (T4.setTop (mkF m 57 #[.val (.long q1), .second, .val (.long q2), .second, .val (.long (F1 q1 q2)), .second, .val (.long ((((4 : Int64) * q2) + ((22 : Int64) * q1)) + (8716 : Int64))), .second, .val (.long (F1 (q1 &&& (2147483647 : Int64)) (q2 &&& (2147483647 : Int64)))), .second, .unset, .unset] [(.long ((22 : Int64) * (q1 &&& (2147483647 : Int64)))), (.long ((4 : Int64) * (q2 &&& (2147483647 : Int64))))])) _
    refine XS.ladd X4.here hx rfl (hb hby at_57) rfl ?_
    show Steps p.tables e below (T4.setTop (mkF m 58 #[.val (.long q1), .second, .val (.long q2), .second, .val (.long (F1 q1 q2)), .second, .val (.long ((((4 : Int64) * q2) + ((22 : Int64) * q1)) + (8716 : Int64))), .second, .val (.long (F1 (q1 &&& (2147483647 : Int64)) (q2 &&& (2147483647 : Int64)))), .second, .unset, .unset] [(.long (((4 : Int64) * (q2 &&& (2147483647 : Int64))) + ((22 : Int64) * (q1 &&& (2147483647 : Int64)))))])) _
    refine X4.ldc2Long hx hown (mvT hZ (hw _ (List.mem_of_getElem? (i := 14) rfl))) (g := (mkF m 58 #[.val (.long q1), .second, .val (.long q2), .second, .val (.long (F1 q1 q2)), .second, .val (.long ((((4 : Int64) * q2) + ((22 : Int64) * q1)) + (8716 : Int64))), .second, .val (.long (F1 (q1 &&& (2147483647 : Int64)) (q2 &&& (2147483647 : Int64)))), .second, .unset, .unset] [(.long (((4 : Int64) * (q2 &&& (2147483647 : Int64))) + ((22 : Int64) * (q1 &&& (2147483647 : Int64)))))])) rfl (hb hby at_58) _ ?_
    show Steps p.tables e below (T4.setTop (mkF m 61 #[.val (.long q1), .second, .val (.long q2), .second, .val (.long (F1 q1 q2)), .second, .val (.long ((((4 : Int64) * q2) + ((22 : Int64) * q1)) + (8716 : Int64))), .second, .val (.long (F1 (q1 &&& (2147483647 : Int64)) (q2 &&& (2147483647 : Int64)))), .second, .unset, .unset] [(.long (8716 : Int64)), (.long (((4 : Int64) * (q2 &&& (2147483647 : Int64))) + ((22 : Int64) * (q1 &&& (2147483647 : Int64)))))])) _
    refine XS.ladd X4.here hx rfl (hb hby at_61) rfl ?_
    show Steps p.tables e below (T4.setTop (mkF m 62 #[.val (.long q1), .second, .val (.long q2), .second, .val (.long (F1 q1 q2)), .second, .val (.long ((((4 : Int64) * q2) + ((22 : Int64) * q1)) + (8716 : Int64))), .second, .val (.long (F1 (q1 &&& (2147483647 : Int64)) (q2 &&& (2147483647 : Int64)))), .second, .unset, .unset] [(.long ((((4 : Int64) * (q2 &&& (2147483647 : Int64))) + ((22 : Int64) * (q1 &&& (2147483647 : Int64)))) + (8716 : Int64)))])) _
    refine XS.lstore X4.here hx rfl (hb hby at_62) rfl (l' := #[.val (.long q1), .second, .val (.long q2), .second, .val (.long (F1 q1 q2)), .second, .val (.long ((((4 : Int64) * q2) + ((22 : Int64) * q1)) + (8716 : Int64))), .second, .val (.long (F1 (q1 &&& (2147483647 : Int64)) (q2 &&& (2147483647 : Int64)))), .second, .val (.long ((((4 : Int64) * (q2 &&& (2147483647 : Int64))) + ((22 : Int64) * (q1 &&& (2147483647 : Int64)))) + (8716 : Int64))), .second]) rfl ?_
    show Steps p.tables e below (T4.setTop (mkF m 64 #[.val (.long q1), .second, .val (.long q2), .second, .val (.long (F1 q1 q2)), .second, .val (.long ((((4 : Int64) * q2) + ((22 : Int64) * q1)) + (8716 : Int64))), .second, .val (.long (F1 (q1 &&& (2147483647 : Int64)) (q2 &&& (2147483647 : Int64)))), .second, .val (.long ((((4 : Int64) * (q2 &&& (2147483647 : Int64))) + ((22 : Int64) * (q1 &&& (2147483647 : Int64)))) + (8716 : Int64))), .second] [])) _
    refine XS.lload X4.here hx rfl (hb hby at_64) rfl ?_
    show Steps p.tables e below (T4.setTop (mkF m 66 #[.val (.long q1), .second, .val (.long q2), .second, .val (.long (F1 q1 q2)), .second, .val (.long ((((4 : Int64) * q2) + ((22 : Int64) * q1)) + (8716 : Int64))), .second, .val (.long (F1 (q1 &&& (2147483647 : Int64)) (q2 &&& (2147483647 : Int64)))), .second, .val (.long ((((4 : Int64) * (q2 &&& (2147483647 : Int64))) + ((22 : Int64) * (q1 &&& (2147483647 : Int64)))) + (8716 : Int64))), .second] [(.long (F1 q1 q2))])) _
    refine XS.lload X4.here hx rfl (hb hby at_66) rfl ?_
    show Steps p.tables e below (T4.setTop (mkF m 68 #[.val (.long q1), .second, .val (.long q2), .second, .val (.long (F1 q1 q2)), .second, .val (.long ((((4 : Int64) * q2) + ((22 : Int64) * q1)) + (8716 : Int64))), .second, .val (.long (F1 (q1 &&& (2147483647 : Int64)) (q2 &&& (2147483647 : Int64)))), .second, .val (.long ((((4 : Int64) * (q2 &&& (2147483647 : Int64))) + ((22 : Int64) * (q1 &&& (2147483647 : Int64)))) + (8716 : Int64))), .second] [(.long ((((4 : Int64) * q2) + ((22 : Int64) * q1)) + (8716 : Int64))), (.long (F1 q1 q2))])) _
    refine XS.lcmp X4.here hx rfl (hb hby at_68) rfl ?_
    show Steps p.tables e below (T4.setTop (mkF m 69 #[.val (.long q1), .second, .val (.long q2), .second, .val (.long (F1 q1 q2)), .second, .val (.long ((((4 : Int64) * q2) + ((22 : Int64) * q1)) + (8716 : Int64))), .second, .val (.long (F1 (q1 &&& (2147483647 : Int64)) (q2 &&& (2147483647 : Int64)))), .second, .val (.long ((((4 : Int64) * (q2 &&& (2147483647 : Int64))) + ((22 : Int64) * (q1 &&& (2147483647 : Int64)))) + (8716 : Int64))), .second] [(.int (lcmpW (F1 q1 q2) ((((4 : Int64) * q2) + ((22 : Int64) * q1)) + (8716 : Int64))))])) _
    refine XS.ifNo X4.here hx rfl (hb hby at_69) rfl ((if0 _ _).trans (teq ((lw_eq (F1 q1 q2) ((((4 : Int64) * q2) + ((22 : Int64) * q1)) + (8716 : Int64))).mpr hc69_5)).2) ?_
    show Steps p.tables e below (T4.setTop (mkF m 72 #[.val (.long q1), .second, .val (.long q2), .second, .val (.long (F1 q1 q2)), .second, .val (.long ((((4 : Int64) * q2) + ((22 : Int64) * q1)) + (8716 : Int64))), .second, .val (.long (F1 (q1 &&& (2147483647 : Int64)) (q2 &&& (2147483647 : Int64)))), .second, .val (.long ((((4 : Int64) * (q2 &&& (2147483647 : Int64))) + ((22 : Int64) * (q1 &&& (2147483647 : Int64)))) + (8716 : Int64))), .second] [])) _
    refine XS.lload X4.here hx rfl (hb hby at_72) rfl ?_
    show Steps p.tables e below (T4.setTop (mkF m 74 #[.val (.long q1), .second, .val (.long q2), .second, .val (.long (F1 q1 q2)), .second, .val (.long ((((4 : Int64) * q2) + ((22 : Int64) * q1)) + (8716 : Int64))), .second, .val (.long (F1 (q1 &&& (2147483647 : Int64)) (q2 &&& (2147483647 : Int64)))), .second, .val (.long ((((4 : Int64) * (q2 &&& (2147483647 : Int64))) + ((22 : Int64) * (q1 &&& (2147483647 : Int64)))) + (8716 : Int64))), .second] [(.long (F1 (q1 &&& (2147483647 : Int64)) (q2 &&& (2147483647 : Int64))))])) _
    refine XS.lload X4.here hx rfl (hb hby at_74) rfl ?_
    show Steps p.tables e below (T4.setTop (mkF m 76 #[.val (.long q1), .second, .val (.long q2), .second, .val (.long (F1 q1 q2)), .second, .val (.long ((((4 : Int64) * q2) + ((22 : Int64) * q1)) + (8716 : Int64))), .second, .val (.long (F1 (q1 &&& (2147483647 : Int64)) (q2 &&& (2147483647 : Int64)))), .second, .val (.long ((((4 : Int64) * (q2 &&& (2147483647 : Int64))) + ((22 : Int64) * (q1 &&& (2147483647 : Int64)))) + (8716 : Int64))), .second] [(.long ((((4 : Int64) * (q2 &&& (2147483647 : Int64))) + ((22 : Int64) * (q1 &&& (2147483647 : Int64)))) + (8716 : Int64))), (.long (F1 (q1 &&& (2147483647 : Int64)) (q2 &&& (2147483647 : Int64))))])) _
    refine XS.lcmp X4.here hx rfl (hb hby at_76) rfl ?_
    show Steps p.tables e below (T4.setTop (mkF m 77 #[.val (.long q1), .second, .val (.long q2), .second, .val (.long (F1 q1 q2)), .second, .val (.long ((((4 : Int64) * q2) + ((22 : Int64) * q1)) + (8716 : Int64))), .second, .val (.long (F1 (q1 &&& (2147483647 : Int64)) (q2 &&& (2147483647 : Int64)))), .second, .val (.long ((((4 : Int64) * (q2 &&& (2147483647 : Int64))) + ((22 : Int64) * (q1 &&& (2147483647 : Int64)))) + (8716 : Int64))), .second] [(.int (lcmpW (F1 (q1 &&& (2147483647 : Int64)) (q2 &&& (2147483647 : Int64))) ((((4 : Int64) * (q2 &&& (2147483647 : Int64))) + ((22 : Int64) * (q1 &&& (2147483647 : Int64)))) + (8716 : Int64))))])) _
    refine XS.ifNo X4.here hx rfl (hb hby at_77) rfl ((if0 _ _).trans (teq ((lw_eq (F1 (q1 &&& (2147483647 : Int64)) (q2 &&& (2147483647 : Int64))) ((((4 : Int64) * (q2 &&& (2147483647 : Int64))) + ((22 : Int64) * (q1 &&& (2147483647 : Int64)))) + (8716 : Int64))).mpr hc77_6)).2) ?_
    show Steps p.tables e below (T4.setTop (mkF m 80 #[.val (.long q1), .second, .val (.long q2), .second, .val (.long (F1 q1 q2)), .second, .val (.long ((((4 : Int64) * q2) + ((22 : Int64) * q1)) + (8716 : Int64))), .second, .val (.long (F1 (q1 &&& (2147483647 : Int64)) (q2 &&& (2147483647 : Int64)))), .second, .val (.long ((((4 : Int64) * (q2 &&& (2147483647 : Int64))) + ((22 : Int64) * (q1 &&& (2147483647 : Int64)))) + (8716 : Int64))), .second] [])) _
    refine XS.lload X4.here hx rfl (hb hby at_80) rfl ?_
    show Steps p.tables e below (T4.setTop (mkF m 82 #[.val (.long q1), .second, .val (.long q2), .second, .val (.long (F1 q1 q2)), .second, .val (.long ((((4 : Int64) * q2) + ((22 : Int64) * q1)) + (8716 : Int64))), .second, .val (.long (F1 (q1 &&& (2147483647 : Int64)) (q2 &&& (2147483647 : Int64)))), .second, .val (.long ((((4 : Int64) * (q2 &&& (2147483647 : Int64))) + ((22 : Int64) * (q1 &&& (2147483647 : Int64)))) + (8716 : Int64))), .second] [(.long (F1 (q1 &&& (2147483647 : Int64)) (q2 &&& (2147483647 : Int64))))])) _
    refine XS.lconst X4.here hx rfl (hb hby at_82) ?_
    show Steps p.tables e below (T4.setTop (mkF m 83 #[.val (.long q1), .second, .val (.long q2), .second, .val (.long (F1 q1 q2)), .second, .val (.long ((((4 : Int64) * q2) + ((22 : Int64) * q1)) + (8716 : Int64))), .second, .val (.long (F1 (q1 &&& (2147483647 : Int64)) (q2 &&& (2147483647 : Int64)))), .second, .val (.long ((((4 : Int64) * (q2 &&& (2147483647 : Int64))) + ((22 : Int64) * (q1 &&& (2147483647 : Int64)))) + (8716 : Int64))), .second] [(.long (0 : Int64)), (.long (F1 (q1 &&& (2147483647 : Int64)) (q2 &&& (2147483647 : Int64))))])) _
    refine XS.lcmp X4.here hx rfl (hb hby at_83) rfl ?_
    show Steps p.tables e below (T4.setTop (mkF m 84 #[.val (.long q1), .second, .val (.long q2), .second, .val (.long (F1 q1 q2)), .second, .val (.long ((((4 : Int64) * q2) + ((22 : Int64) * q1)) + (8716 : Int64))), .second, .val (.long (F1 (q1 &&& (2147483647 : Int64)) (q2 &&& (2147483647 : Int64)))), .second, .val (.long ((((4 : Int64) * (q2 &&& (2147483647 : Int64))) + ((22 : Int64) * (q1 &&& (2147483647 : Int64)))) + (8716 : Int64))), .second] [(.int (lcmpW (F1 (q1 &&& (2147483647 : Int64)) (q2 &&& (2147483647 : Int64))) (0 : Int64)))])) _
    refine XS.ifNo X4.here hx rfl (hb hby at_84) rfl ((if0 _ _).trans (tlt ((lw_gt (F1 (q1 &&& (2147483647 : Int64)) (q2 &&& (2147483647 : Int64))) (0 : Int64)).mpr hc84_7)).2.2.2) ?_
    show Steps p.tables e below (T4.setTop (mkF m 87 #[.val (.long q1), .second, .val (.long q2), .second, .val (.long (F1 q1 q2)), .second, .val (.long ((((4 : Int64) * q2) + ((22 : Int64) * q1)) + (8716 : Int64))), .second, .val (.long (F1 (q1 &&& (2147483647 : Int64)) (q2 &&& (2147483647 : Int64)))), .second, .val (.long ((((4 : Int64) * (q2 &&& (2147483647 : Int64))) + ((22 : Int64) * (q1 &&& (2147483647 : Int64)))) + (8716 : Int64))), .second] [])) _
    refine XS.iconst X4.here hx rfl (hb hby at_87) ?_
    show Steps p.tables e below (T4.setTop (mkF m 88 #[.val (.long q1), .second, .val (.long q2), .second, .val (.long (F1 q1 q2)), .second, .val (.long ((((4 : Int64) * q2) + ((22 : Int64) * q1)) + (8716 : Int64))), .second, .val (.long (F1 (q1 &&& (2147483647 : Int64)) (q2 &&& (2147483647 : Int64)))), .second, .val (.long ((((4 : Int64) * (q2 &&& (2147483647 : Int64))) + ((22 : Int64) * (q1 &&& (2147483647 : Int64)))) + (8716 : Int64))), .second] [(.int (1 : Int32))])) _
    refine XS.goto X4.here hx rfl (pc0 := 88) (pc' := 92) rfl (hb hby at_88) (by decide) (by decide) ?_
    show Steps p.tables e below (T4.setTop (mkF m 92 #[.val (.long q1), .second, .val (.long q2), .second, .val (.long (F1 q1 q2)), .second, .val (.long ((((4 : Int64) * q2) + ((22 : Int64) * q1)) + (8716 : Int64))), .second, .val (.long (F1 (q1 &&& (2147483647 : Int64)) (q2 &&& (2147483647 : Int64)))), .second, .val (.long ((((4 : Int64) * (q2 &&& (2147483647 : Int64))) + ((22 : Int64) * (q1 &&& (2147483647 : Int64)))) + (8716 : Int64))), .second] [(.int (1 : Int32))])) _
    exact k
  refine OwnG.st sg8 ?_
  have hv : (1 : Int32) = 1 := rfl
  exact OwnG.retN X4 hx (t := .boolean) (by simp) Bd.returns (BodyLoose.notSynchronized Bd) (hb hby at_92) ⟨congrArg (fun w => some (Value.int (nar .boolean w))) hv, N4⟩ (by decide) (by decide)
set_option maxRecDepth 65536 in
set_option maxHeartbeats 40000000 in
theorem comes_1 {Post : Tables → Env → Array Value → State → Outcome → State → Prop} (hpost : ∀ tb e args s v u, (limb_1_1.after args s (.returned v) u = true ∧ limb_1_2.after args s (.returned v) u = true ∧ True) → FrameEnd s (.returned v) u (Jvm.fieldLocs frame_1_writes args s ++ Jvm.arrayLocs frame_1_arrays args s ++ Jvm.staticLocs frame_1_statics s) 0 0 → Post tb e args s (.returned v) u) :
    ArmFor flags0 classFile x code maxLocals ret World_1 tables_1 room_1 Calls_1 rest_1 Pre_1 Post := by
  intro l hfl _ _ p e ha hc hk s m args below hf hA hF happ hP
  obtain ⟨hcalls, hrest, hpre⟩ := hP
  obtain ⟨-, -, -, hnamed, -, -, -, hat⟩ := (Spec.applies_iff hf).mp happ
  obtain ⟨hg, hn⟩ := and_e (Cond.before_iff.mp (show (Jvm.Cond.and given_1 narrow_1).before args s = true from hpre))
  obtain ⟨g1, g2⟩ := and_e hg
  obtain ⟨g3, g4⟩ := and_e g2
  obtain ⟨w0, w1, rfl⟩ : ∃ w0 w1 : Value, args = #[w0, w1] := by
    have hs : args.size = 2 := by simpa [Cond.value, given_1] using g1
    obtain ⟨L⟩ := args
    match L, hs with
    | [w0, w1], _ => exact ⟨w0, w1, rfl⟩
  have hw := fun d (hd : d ∈ tables_1) => atoms_spec (ws := Jvm.Cond.code x code maxLocals ret :: tables_1) hat d (List.mem_cons_of_mem _ hd)
  obtain ⟨i0, ei0⟩ := isL_v g3
  obtain rfl : w0 = (.long i0) := Option.some.inj ei0
  obtain ⟨i1, ei1⟩ := isL_v g4
  obtain rfl : w1 = (.long i1) := Option.some.inj ei1
  obtain ⟨n, o, h1, h2, h3, _, L, rfl, ⟨rfl, N⟩, hq⟩ := rm0 l s _ hw tables_1 i0 i1  s.heap s.heap.size (Nat.le_refl _)  p e ha hc hk s m _ below hf ((Spec.applies_iff_loose hf).mp happ).1 ⟨rfl, State.Warmed39.refl s, rfl⟩ trivial
  refine ⟨n, _, h1, h2, h3, hpost _ _ _ _ _ _ ⟨Cond.after_iff.mpr rfl, Cond.after_iff.mpr (eq_i res_at (Term.int_eval (1)) rfl), trivial⟩ ⟨hq.1, hq.2.1, (hq.2.2.sift fun y hy => Or.inr (N y hy)).mono (by decide) (by decide)⟩⟩
theorem main_1_1 : Claimed_1_1 := comes_1 fun _ _ _ _ _ _ h hF => ⟨h.1, hF⟩
theorem main_1_2 : Claimed_1_2 := comes_1 fun _ _ _ _ _ _ h hF => ⟨h.2.1, hF⟩
end Jvm.Pilot.@@N@@
namespace Jvm.Pilot.@@N@@
open Jvm Jvm.ClassFile Sem Op Lib Jvm.Free Jvm.Stand Jvm.Pilot.@@N@@.Jvm.D
/-! MADE BY PROGRAM (witnessworld.py) out of the Statement's table words and the real class files: 9 classes; the members and pool entries that the words name. The judged class is class 1, her method 1. -/
namespace start1
open Jvm.ClassFile
def u (s : String) : CpInfo := .utf8 (stringToUtf16 s)
/-- a pool by its gaps: so many unusable entries, then the entry; so many at the end -/
def gap : Nat → List CpInfo → List CpInfo
  | 0, r => r
  | n + 1, r => .unusable :: gap n r
def poolList (es : List (Nat × CpInfo)) (last : Nat) : List CpInfo := es.foldr (fun e r => gap e.1 (e.2 :: r)) (gap last [])
def pool (es : List (Nat × CpInfo)) (last : Nat) : Array CpInfo := ⟨poolList es last⟩
def fileOf (pool : Array CpInfo) (this : Nat) (attrs : Array Attribute := #[]) (ms : Array MethodInfo := #[]) (fl : Nat := 33) (sup : Nat := 0) (ifs : Array Nat := #[]) (fds : Array FieldInfo := #[]) : ClassFile where
  minorVersion := 0
  majorVersion := 65
  constantPool := pool
  accessFlags := fl
  thisClass := this
  superClass := sup
  interfaces := ifs
  fields := fds
  methods := ms
  attributes := attrs
def plain (name : String) (sup : Option ClassId) : Class where
  name := name
  kind := .ordinary
  loader := none
  accessFlags := 33
  super := sup
  interfaces := #[]
  cf := none
  fields := #[]
  methods := #[]
  instanceTypes := #[]
  staticTypes := #[]
  resolved := #[]
  callSites := []
  init := .initialized
  statics := none
  mirror := none

def pool0 : Array CpInfo := pool [(5, u "<init>"), (0, u "()V"), (1, .class_ 10), (1, u "java/lang/Object")] 113

def k0m0 : Method := { name := "<init>", desc := "()V", sig := { parameters := [], returnType := none }, accessFlags := 1, code := none }
/-- java/lang/Object -/
def k0 : Class := { plain "java/lang/Object" none with
  accessFlags := 33
  interfaces := #[]
  cf := some (fileOf pool0 8 #[] #[{ accessFlags := 1, nameIndex := 5, descriptorIndex := 6, attributes := #[] }] 33 0 #[] #[])
  fields := #[]
  methods := #[k0m0]
  instanceTypes := #[]
  staticTypes := #[]
  resolved := Array.replicate 124 none
  statics := none }

def pool1 : Array CpInfo := pool [(2, .class_ 4), (1, u "java/lang/Object"), (0, u "<init>"), (0, u "()V"), (0, .methodref 8 9), (0, .class_ 10), (0, .nameAndType 11 12), (0, u "com/example/prefixd/prefixd/BlockList"), (0, u "readingBytes"), (0, u "(JJ)J"), (0, .long 4), (1, .long 22), (1, .long 8716), (1, .long 2147483647), (1, .class_ 22), (0, u "com/example/prefixd/prefixd/BlockListReadingBytesPinLaw"), (2, u "law"), (0, u "(JJ)Z")] 3

def k1m0 : Method := { name := "<init>", desc := "()V", sig := { parameters := [], returnType := none }, accessFlags := 2, code := none }
def k1c1 : Code := { maxStack := 8, maxLocals := 12, code := code, exceptionTable := #[], attributes := #[] }
def k1m1 : Method := { name := "law", desc := "(JJ)Z", sig := { parameters := [.long, .long], returnType := some .boolean }, accessFlags := 9, code := some k1c1 }
/-- com/example/prefixd/prefixd/BlockListReadingBytesPinLaw -/
def k1 : Class := { plain "com/example/prefixd/prefixd/BlockListReadingBytesPinLaw" (some 0) with
  accessFlags := 49
  interfaces := #[]
  cf := some (fileOf pool1 21 #[] #[{ accessFlags := 2, nameIndex := 5, descriptorIndex := 6, attributes := #[] }, { accessFlags := 9, nameIndex := 25, descriptorIndex := 26, attributes := #[] }] 49 2 #[] #[])
  fields := #[]
  methods := #[k1m0, k1m1]
  instanceTypes := #[]
  staticTypes := #[]
  resolved := Array.replicate 30 none
  statics := none }

def pool2 : Array CpInfo := pool [(4, .class_ 6), (1, u "java/lang/Object"), (3, .class_ 12), (1, u "com/example/prefixd/prefixd/BlockList"), (0, u "units"), (0, u "[C"), (2, u "textStarts"), (0, u "[I"), (2, u "firsts"), (2, u "groupStarts"), (2, u "starting"), (0, u "[J"), (34, u "readingBytes"), (0, u "(JJ)J"), (79, .long 2), (1, .long 4), (1, .long 8), (1, .long 1024), (1, .methodref 10 153), (0, .nameAndType 154 155), (0, u "heldBytes"), (0, u "(JJJJ)J"), (0, .long 512), (18, u "NONE"), (0, u "Lcom/example/prefixd/prefixd/BlockList;"), (0, u "LARGEST_ARRAY"), (0, u "I"), (2, u "STARTING_WORDS"), (1, u "LAYOUT_BYTES"), (0, u "J")] 29

def k2c0 : Code := { maxStack := 10, maxLocals := 4, code := prog_1_method_10_code, exceptionTable := #[], attributes := #[] }
def k2m0 : Method := { name := "readingBytes", desc := "(JJ)J", sig := { parameters := [.long, .long], returnType := some .long }, accessFlags := 8, code := some k2c0 }
def k2c1 : Code := { maxStack := 8, maxLocals := 8, code := prog_1_method_11_code, exceptionTable := #[], attributes := #[] }
def k2m1 : Method := { name := "heldBytes", desc := "(JJJJ)J", sig := { parameters := [.long, .long, .long, .long], returnType := some .long }, accessFlags := 10, code := some k2c1 }
/-- com/example/prefixd/prefixd/BlockList -/
def k2 : Class := { plain "com/example/prefixd/prefixd/BlockList" (some 0) with
  accessFlags := 33
  interfaces := #[]
  cf := some (fileOf pool2 10 #[] #[{ accessFlags := 8, nameIndex := 63, descriptorIndex := 64, attributes := #[] }, { accessFlags := 10, nameIndex := 154, descriptorIndex := 155, attributes := #[] }] 33 4 #[] #[{ accessFlags := 25, nameIndex := 175, descriptorIndex := 176, attributes := #[] }, { accessFlags := 26, nameIndex := 177, descriptorIndex := 178, attributes := #[] }, { accessFlags := 26, nameIndex := 181, descriptorIndex := 178, attributes := #[] }, { accessFlags := 26, nameIndex := 183, descriptorIndex := 184, attributes := #[] }, { accessFlags := 18, nameIndex := 13, descriptorIndex := 14, attributes := #[] }, { accessFlags := 18, nameIndex := 17, descriptorIndex := 18, attributes := #[] }, { accessFlags := 18, nameIndex := 21, descriptorIndex := 14, attributes := #[] }, { accessFlags := 18, nameIndex := 24, descriptorIndex := 18, attributes := #[] }, { accessFlags := 18, nameIndex := 27, descriptorIndex := 28, attributes := #[] }])
  fields := #[{ name := "NONE", type := (.object "com/example/prefixd/prefixd/BlockList"), accessFlags := 25, slot := 0, constantValue := 0 }, { name := "LARGEST_ARRAY", type := .int, accessFlags := 26, slot := 1, constantValue := 0 }, { name := "STARTING_WORDS", type := .int, accessFlags := 26, slot := 2, constantValue := 0 }, { name := "LAYOUT_BYTES", type := .long, accessFlags := 26, slot := 3, constantValue := 0 }, { name := "units", type := (.array .char), accessFlags := 18, slot := 0, constantValue := 0 }, { name := "textStarts", type := (.array .int), accessFlags := 18, slot := 1, constantValue := 0 }, { name := "firsts", type := (.array .char), accessFlags := 18, slot := 2, constantValue := 0 }, { name := "groupStarts", type := (.array .int), accessFlags := 18, slot := 3, constantValue := 0 }, { name := "starting", type := (.array .long), accessFlags := 18, slot := 4, constantValue := 0 }]
  methods := #[k2m0, k2m1]
  instanceTypes := #[(.array .char), (.array .int), (.array .char), (.array .int), (.array .long)]
  staticTypes := #[(.object "com/example/prefixd/prefixd/BlockList"), .int, .int, .long]
  resolved := Array.replicate 214 none
  statics := none }

def pool3 : Array CpInfo := pool [(1, u "java/lang/Cloneable"), (0, .class_ 1), (0, u "java/lang/Object"), (0, .class_ 3)] 3

/-- java/lang/Cloneable -/
def k3 : Class := { plain "java/lang/Cloneable" (some 0) with
  accessFlags := 1537
  interfaces := #[]
  cf := some (fileOf pool3 2 #[] #[] 1537 4 #[] #[])
  fields := #[]
  methods := #[]
  instanceTypes := #[]
  staticTypes := #[]
  resolved := Array.replicate 8 none
  statics := none }

def pool4 : Array CpInfo := pool [(1, u "java/io/Serializable"), (0, .class_ 1), (0, u "java/lang/Object"), (0, .class_ 3)] 3

/-- java/io/Serializable -/
def k4 : Class := { plain "java/io/Serializable" (some 0) with
  accessFlags := 1537
  interfaces := #[]
  cf := some (fileOf pool4 2 #[] #[] 1537 4 #[] #[])
  fields := #[]
  methods := #[]
  instanceTypes := #[]
  staticTypes := #[]
  resolved := Array.replicate 8 none
  statics := none }

/-- the primitive byte -/
def k5 : Class := { plain "byte" none with kind := .primitive 'B', accessFlags := 0x411 }
/-- [B -/
def k6 : Class := { plain "[B" (some 0) with kind := .array 5 .byte, interfaces := #[3, 4], accessFlags := 1041 }

/-- the primitive int -/
def k7 : Class := { plain "int" none with kind := .primitive 'I', accessFlags := 0x411 }
/-- [I -/
def k8 : Class := { plain "[I" (some 0) with kind := .array 7 .int, interfaces := #[3, 4], accessFlags := 1041 }

def heap : Heap := #[]
def classes : Array Class := #[k0, k1, k2, k3, k4, k5, k6, k7, k8]
def interned : List (Array UInt16 × Addr) := []
def slotsUsed : Nat := 0
def theMethod : MethodId := ⟨1, 1⟩
def args0 : Array Value := #[.long 5, .long 5]
def aboutOver (below : List Frame) : State where
  vm := { classes := classes, interned := interned.toArray }
  heap := heap
  slotsUsed := slotsUsed
  threads := #[{ frames := .invoking theMethod args0 :: below }]
def below0 : List Frame := [.native { method := ⟨0, 0⟩, args := #[] }]
def about1 : State := aboutOver below0
def p0 : Program := .bare "" "" ""
def e0 : Env := launch0.env 0 0 0
theorem w_frames : about1.frames = Frame.invoking theMethod args0 :: below0 := rfl
set_option maxRecDepth 65536 in
theorem w_args : argsFit about1.vm theMethod args0 = true := by decide +kernel
set_option maxRecDepth 65536 in
theorem w_heap : heapFits about1 = true := by decide +kernel
set_option maxRecDepth 65536 in
theorem w_runnable : about1.curStatus? = some .runnable := by decide +kernel
set_option maxRecDepth 65536 in
theorem w_alone : about1.alone = true := by decide +kernel
set_option maxRecDepth 65536 in
theorem w_named : about1.methodNamed? x = some theMethod := by decide +kernel
set_option maxRecDepth 65536 in
theorem w_hears : about1.hears theMethod below0 = true := by decide +kernel
set_option maxRecDepth 65536 in
theorem w_ripe : about1.ripe theMethod args0 below0 = true := by decide +kernel
theorem w_running : about1.status = .running := rfl
set_option maxRecDepth 65536 in
theorem w_room : about1.hasRoom e0.platform room_1 = true :=
  launch0.hasRoom_least _ room_1 (by decide +kernel) (by decide +kernel) (by decide +kernel) (by decide +kernel) (by decide +kernel) (by decide +kernel)
theorem allAtoms_all (ts : List Jvm.Cond) (a : Array Jvm.Value) (st : Jvm.State) : (allAtoms ts).before a st = ts.all (fun c => c.before a st) := by
  induction ts with
  | nil => rfl
  | cons c t ih =>
    show (Jvm.Cond.and c (allAtoms t)).before a st = _
    rw [Jvm.Cond.before_and, ih, List.all_cons]
def words1 : List Jvm.Cond := Jvm.Cond.code x code maxLocals ret :: tables_1
/-- a 'code' word, met by the world's own term for the bytes: nothing is compared byte by byte -/
theorem code_word {y : MethodName} {bytes : ByteArray} {mx : Nat} {rt : Option FieldType} {a : Array Value} {s : State} {m : MethodId} {meth : Method} {c : Code} (h1 : s.methodNamed? y = some m) (h2 : s.vm.method? m = some meth) (h3 : meth.code = some c) (h4 : c.code = bytes)
    (h5 : (c.maxLocals == mx && c.exceptionTable.isEmpty && decide (c.maxStack ≤ mostOperands) && decide (meth.sig.returnType = rt) && !meth.locks && decide (parseMethodDescriptor y.desc = some meth.sig)) = true) : (Jvm.Cond.code y bytes mx rt).before a s = true := by
  simp only [Bool.and_eq_true, beq_iff_eq, Bool.not_eq_true', decide_eq_true_eq] at h5
  obtain ⟨⟨⟨⟨⟨g1, g2⟩, g3⟩, g4⟩, g5⟩, g6⟩ := h5
  simp [Cond.before, Cond.holds, Cond.value, h1, h2, h3, h4, g1, g2, g3, g4, g5, g6]
def isCode : Jvm.Cond → Bool
  | .code _ _ _ _ => true
  | _ => false
theorem all_split {L : List Jvm.Cond} {P : Jvm.Cond → Bool} (h1 : L.all (fun c => isCode c || P c) = true) (h2 : ∀ c ∈ L.filter isCode, P c = true) : L.all P = true := by
  refine List.all_eq_true.mpr fun c hc => ?_
  have h := List.all_eq_true.mp h1 c hc
  rcases Bool.eq_false_or_eq_true (isCode c) with hi | hi
  · exact h2 c (List.mem_filter.mpr ⟨hc, hi⟩)
  · simpa [hi] using h
set_option maxRecDepth 65536 in
theorem w_c0 : (Jvm.Cond.code x code maxLocals ret).before args0 about1 = true := code_word (m := ⟨1, 1⟩) (meth := k1m1) (c := k1c1) (by decide +kernel) rfl rfl rfl (by decide +kernel)
set_option maxRecDepth 65536 in
theorem w_c1 : (Jvm.Cond.code ({ cls := "com/example/prefixd/prefixd/BlockList", name := "readingBytes", desc := "(JJ)J" } : Jvm.MethodName) prog_1_method_10_code (4 : Nat) (Option.some Jvm.ClassFile.FieldType.long)).before args0 about1 = true := code_word (m := ⟨2, 0⟩) (meth := k2m0) (c := k2c0) (by decide +kernel) rfl rfl rfl (by decide +kernel)
set_option maxRecDepth 65536 in
theorem w_c2 : (Jvm.Cond.code ({ cls := "com/example/prefixd/prefixd/BlockList", name := "heldBytes", desc := "(JJJJ)J" } : Jvm.MethodName) prog_1_method_11_code (8 : Nat) (Option.some Jvm.ClassFile.FieldType.long)).before args0 about1 = true := code_word (m := ⟨2, 1⟩) (meth := k2m1) (c := k2c1) (by decide +kernel) rfl rfl rfl (by decide +kernel)
def codes1 : List Jvm.Cond := [Jvm.Cond.code x code maxLocals ret, Jvm.Cond.code ({ cls := "com/example/prefixd/prefixd/BlockList", name := "readingBytes", desc := "(JJ)J" } : Jvm.MethodName) prog_1_method_10_code (4 : Nat) (Option.some Jvm.ClassFile.FieldType.long), Jvm.Cond.code ({ cls := "com/example/prefixd/prefixd/BlockList", name := "heldBytes", desc := "(JJJJ)J" } : Jvm.MethodName) prog_1_method_11_code (8 : Nat) (Option.some Jvm.ClassFile.FieldType.long)]
set_option maxRecDepth 65536 in
theorem codes_eq : words1.filter isCode = codes1 := rfl
theorem w_codes : ∀ c ∈ words1.filter isCode, c.before args0 about1 = true := by
  rw [codes_eq]
  intro c hc
  simp only [codes1, List.mem_cons, List.not_mem_nil, or_false] at hc
  rcases hc with rfl | rfl | rfl
  · exact w_c0
  · exact w_c1
  · exact w_c2
set_option maxRecDepth 65536 in
theorem w_t1 : words1.all (fun c => isCode c || c.before args0 about1) = true := by decide +kernel
theorem w_tables : (allAtoms (Jvm.Cond.code x code maxLocals ret :: tables_1)).before args0 about1 = true := by
  rw [allAtoms_all]
  show words1.all (fun c => c.before args0 about1) = true
  refine all_split ?_ w_codes
  rw [w_t1]
set_option maxRecDepth 65536 in
theorem w_case : (Jvm.Cond.and given_1 narrow_1).before args0 about1 = true := by decide +kernel
theorem w_applies : (headSpec (Jvm.Cond.code x code maxLocals ret :: tables_1) room_1).applies x e0.platform about1 = true :=
  (Spec.applies_iff w_frames).mpr ⟨w_running, w_runnable, w_alone, w_named, w_hears, w_ripe, w_room, w_tables⟩
theorem atStart : AtStart classFile x code maxLocals ret World_1 tables_1 room_1 Calls_1 rest_1 Pre_1 launch0 p0 e0 about1 theMethod args0 below0 :=
  ⟨lists_1, trivial, launch0.admits_env _ _ _, launch0.least_env, fairChoices_fair.cas, fairChoices_fair.clock, w_frames, w_args, w_heap, w_applies, trivial, trivial, w_case⟩
end start1
theorem witness_1 : WitnessClaimed_1 := ⟨start1.p0, start1.e0, start1.about1, start1.theMethod, start1.args0, start1.below0, start1.atStart⟩
end Jvm.Pilot.@@N@@
