import JvmDerived
import JvmDerived.Pilot.@@N@@Statement
import JvmDerived.Pilot.@@N@@Code
set_option linter.unusedVariables false
set_option linter.unusedSimpArgs false
namespace Jvm.OwnKit
open Sem ClassFile Op Lib Jvm.Stand Jvm.Free Jvm.LawKit Jvm.RoadKit
section Own
variable {p : Program} {l : Launch} {e : Env} {R : Room} {s : State} {m : MethodId} {args : Array Value} {below : List Frame} {meth : Method} {c : Code} {T T' : State} {locs : List Loc} {cells slots : Nat}
/-- from the state T with the frame F on top the run comes to the method's end, and what Q says holds there -/
def OwnG (p : Program) (e : Env) (below : List Frame) (s : State) (Q : Option Value → Heap → List Loc → Prop) (k n : Nat) (T : State) (F : JFrame) : Prop :=
  ∃ s₂ o, Steps p.tables e below (T.setTop F) s₂ ∧ s₂.status = .running ∧ Ended s₂ below o ∧ ∃ v L, o = .returned v ∧ Q v s₂.heap L ∧ FrameEnd s o s₂ L k n
theorem OwnG.st {Q : Option Value → Heap → List Loc → Prop} {k n : Nat} {F F' : JFrame} (h : ∀ t, Steps p.tables e below (T'.setTop F') t → Steps p.tables e below (T.setTop F) t) (g : OwnG p e below s Q k n T' F') : OwnG p e below s Q k n T F := by
  obtain ⟨s2, o, h1, r⟩ := g
  exact ⟨s2, o, h _ h1, r⟩
theorem OwnG.leave (X : Stand p l e R s m args below meth c T locs cells slots) {Q : Option Value → Heap → List Loc → Prop} {k n : Nat} {F : JFrame} {v : Option Value} (hv : meth.sig.returnType = none → v = none) (hlk : meth.locks = false)
    (hs : ∀ fs, (∀ (f : JFrame) (acts : List Action), f.method = m → f.locked = none → f.entered = [] → (doReturn e (T.setTop f) acts v).1 = T.setFrames fs) → Steps p.tables e below (T.setTop F) (T.setFrames fs)) (hq : Q v T.heap locs) (hk : cells ≤ k) (hn : slots ≤ n) : OwnG p e below s Q k n T F := by
  obtain ⟨fs, hr, hrun, hended, hW, hsame⟩ := X.leave hv hlk
  exact ⟨_, _, hs fs hr, hrun, hended, _, _, rfl, hq, ⟨_, rfl⟩, hW, hsame.mono hk hn⟩
theorem OwnG.retI (X : Stand p l e R s m args below meth c T locs cells slots) (hx : p.tables.exec = Jvm.exec) {Q : Option Value → Heap → List Loc → Prop} {k n pc : Nat} {Ls : Array Slot} {z : Int32} {rest : List Value} (hret : meth.sig.returnType = some .int) (hlk : meth.locks = false) (hd : decode c.code pc = .ok (.ireturn, 1)) (hq : Q (some (.int z)) T.heap locs) (hk : cells ≤ k) (hn : slots ≤ n) : OwnG p e below s Q k n T (mkF m pc Ls (.int z :: rest)) :=
  OwnG.leave X (fun h => by rw [hret] at h; cases h) hlk (fun fs hr => retOut X hx hret rfl (Or.inl ⟨rfl, Or.inl rfl, z, rfl⟩) hd hr) hq hk hn
theorem OwnG.retJ (X : Stand p l e R s m args below meth c T locs cells slots) (hx : p.tables.exec = Jvm.exec) {Q : Option Value → Heap → List Loc → Prop} {k n pc : Nat} {Ls : Array Slot} {z : Int64} {rest : List Value} (hret : meth.sig.returnType = some .long) (hlk : meth.locks = false) (hd : decode c.code pc = .ok (.lreturn, 1)) (hq : Q (some (.long z)) T.heap locs) (hk : cells ≤ k) (hn : slots ≤ n) : OwnG p e below s Q k n T (mkF m pc Ls (.long z :: rest)) :=
  OwnG.leave X (fun h => by rw [hret] at h; cases h) hlk (fun fs hr => retOut X hx hret rfl (Or.inr (Or.inl ⟨rfl, rfl, z, rfl⟩)) hd hr) hq hk hn
theorem OwnG.retR (X : Stand p l e R s m args below meth c T locs cells slots) (hx : p.tables.exec = Jvm.exec) {Q : Option Value → Heap → List Loc → Prop} {k n pc : Nat} {Ls : Array Slot} {a : Addr} {rest : List Value} {t : FieldType} (hret : meth.sig.returnType = some t) (ht : t.isReference = true) (hnn : narrow t (.ref a) = .ref a) (hlk : meth.locks = false) (hd : decode c.code pc = .ok (.areturn, 1)) (hq : Q (some (.ref a)) T.heap locs) (hk : cells ≤ k) (hn : slots ≤ n) : OwnG p e below s Q k n T (mkF m pc Ls (.ref a :: rest)) :=
  OwnG.leave X (fun h => by rw [hret] at h; cases h) hlk (fun fs hr => retOut X hx hret hnn (Or.inr (Or.inr (Or.inr (Or.inr ⟨rfl, ht, rfl⟩)))) hd hr) hq hk hn
theorem OwnG.retN (X : Stand p l e R s m args below meth c T locs cells slots) (hx : p.tables.exec = Jvm.exec) {Q : Option Value → Heap → List Loc → Prop} {k n pc : Nat} {Ls : Array Slot} {z : Int32} {rest : List Value} {t : FieldType} (ht : t = .boolean ∨ t = .byte ∨ t = .char ∨ t = .short) (hret : meth.sig.returnType = some t) (hlk : meth.locks = false) (hd : decode c.code pc = .ok (.ireturn, 1)) (hq : Q (some (.int (nar t z))) T.heap locs) (hk : cells ≤ k) (hn : slots ≤ n) : OwnG p e below s Q k n T (mkF m pc Ls (.int z :: rest)) :=
  OwnG.leave X (fun h => by rw [hret] at h; cases h) hlk (fun fs hr => Jvm.RoadKit.retN X hx hret ht hd hr) hq hk hn
theorem OwnG.retV (X : Stand p l e R s m args below meth c T locs cells slots) (hx : p.tables.exec = Jvm.exec) {Q : Option Value → Heap → List Loc → Prop} {k n pc : Nat} {Ls : Array Slot} (hret : meth.sig.returnType = none) (hlk : meth.locks = false) (hd : decode c.code pc = .ok (.return_, 1)) (hq : Q none T.heap locs) (hk : cells ≤ k) (hn : slots ≤ n) : OwnG p e below s Q k n T (mkF m pc Ls []) :=
  OwnG.leave X (fun _ => rfl) hlk (fun fs hr => X.returnOut hx hret hd hr) hq hk hn
end Own
end Jvm.OwnKit
namespace Jvm.Pilot.@@N@@
open Jvm Jvm.ClassFile Sem Op Lib Jvm.Free Jvm.Stand Jvm.LawKit Jvm.RoadKit Bundle Jvm.Pilot.@@N@@.Jvm.D Jvm.OwnKit
theorem own_pow2 (b : Int32) (k : Nat) : (b * b) ^ k = b ^ (2 * k) := by
  induction k with
  | zero => rfl
  | succ k ih =>
    rw [show 2 * (k + 1) = 2 * k + 1 + 1 by omega, Int32.pow_succ, Int32.pow_succ, Int32.pow_succ, ih, Int32.mul_assoc]
theorem own_padd (b : Int32) (j k : Nat) : b ^ (j + k) = b ^ j * b ^ k := by
  induction k with
  | zero => rw [Nat.add_zero, Int32.pow_zero, Int32.mul_one]
  | succ k ih => rw [← Nat.add_assoc, Int32.pow_succ, Int32.pow_succ, ih, Int32.mul_assoc]
def F1 (p1 p2 p3 : Int32) : Int32 := (p1 * (31 : Int32) ^ p2.toInt.toNat) + p3
theorem own_turn (x b e z : Int32) (he : 0 < e.toInt) (hz : z = (if (e &&& (1 : Int32)) = (0 : Int32) then x else (x * b))) : z * (b * b) ^ ((e.toUInt32 >>> ((1 : Int32) &&& 31).toUInt32).toInt32).toInt.toNat = x * b ^ e.toInt.toNat ∧ ((e.toUInt32 >>> ((1 : Int32) &&& 31).toUInt32).toInt32).toInt.toNat < e.toInt.toNat ∧ 0 ≤ ((e.toUInt32 >>> ((1 : Int32) &&& 31).toUInt32).toInt32).toInt := by
  have h1 := c_iushr e 1 1 (by decide) (by decide)
  have h2 := c_mask e 1 1 (by decide) (by decide)
  have r := rng32 e
  obtain ⟨j, hj⟩ : ∃ j, j = ((e.toUInt32 >>> ((1 : Int32) &&& 31).toUInt32).toInt32).toInt.toNat := ⟨_, rfl⟩
  rw [own_pow2, ← hj]
  refine ⟨?_, by omega, by omega⟩
  by_cases c : (e &&& (1 : Int32)) = (0 : Int32)
  · rw [hz, if_pos c]
    rw [← Int32.toInt_inj, show (0 : Int32).toInt = 0 from rfl] at c
    rw [show 2 * j = e.toInt.toNat by omega]
  · rw [hz, if_neg c]
    rw [← Int32.toInt_inj, show (0 : Int32).toInt = 0 from rfl] at c
    rw [show e.toInt.toNat = 2 * j + 1 by omega, Int32.pow_succ, Int32.mul_assoc, Int32.mul_comm b]
theorem d1_0 : decode prog_23_method_6_code 0 = .ok (.iconst 1, 1) := by decide +kernel
theorem d1_1 : decode prog_23_method_6_code 1 = .ok (.istore_n 3, 1) := by decide +kernel
theorem d1_2 : decode prog_23_method_6_code 2 = .ok (.bipush 31, 2) := by decide +kernel
theorem d1_4 : decode prog_23_method_6_code 4 = .ok (.istore 4, 2) := by decide +kernel
theorem d1_6 : decode prog_23_method_6_code 6 = .ok (.iload_n 1, 1) := by decide +kernel
theorem d1_7 : decode prog_23_method_6_code 7 = .ok (.istore 5, 2) := by decide +kernel
theorem d1_9 : decode prog_23_method_6_code 9 = .ok (.iload 5, 2) := by decide +kernel
theorem d1_11 : decode prog_23_method_6_code 11 = .ok (.ifCond .le 31, 3) := by decide +kernel
theorem d1_14 : decode prog_23_method_6_code 14 = .ok (.iload 5, 2) := by decide +kernel
theorem d1_16 : decode prog_23_method_6_code 16 = .ok (.iconst 1, 1) := by decide +kernel
theorem d1_17 : decode prog_23_method_6_code 17 = .ok (.iand, 1) := by decide +kernel
theorem d1_18 : decode prog_23_method_6_code 18 = .ok (.ifCond .eq 8, 3) := by decide +kernel
theorem d1_21 : decode prog_23_method_6_code 21 = .ok (.iload_n 3, 1) := by decide +kernel
theorem d1_22 : decode prog_23_method_6_code 22 = .ok (.iload 4, 2) := by decide +kernel
theorem d1_24 : decode prog_23_method_6_code 24 = .ok (.imul, 1) := by decide +kernel
theorem d1_25 : decode prog_23_method_6_code 25 = .ok (.istore_n 3, 1) := by decide +kernel
theorem d1_26 : decode prog_23_method_6_code 26 = .ok (.iload 4, 2) := by decide +kernel
theorem d1_28 : decode prog_23_method_6_code 28 = .ok (.iload 4, 2) := by decide +kernel
theorem d1_30 : decode prog_23_method_6_code 30 = .ok (.imul, 1) := by decide +kernel
theorem d1_31 : decode prog_23_method_6_code 31 = .ok (.istore 4, 2) := by decide +kernel
theorem d1_33 : decode prog_23_method_6_code 33 = .ok (.iload 5, 2) := by decide +kernel
theorem d1_35 : decode prog_23_method_6_code 35 = .ok (.iconst 1, 1) := by decide +kernel
theorem d1_36 : decode prog_23_method_6_code 36 = .ok (.iushr, 1) := by decide +kernel
theorem d1_37 : decode prog_23_method_6_code 37 = .ok (.istore 5, 2) := by decide +kernel
theorem d1_39 : decode prog_23_method_6_code 39 = .ok (.goto (-30), 3) := by decide +kernel
theorem d1_42 : decode prog_23_method_6_code 42 = .ok (.iload_n 0, 1) := by decide +kernel
theorem d1_43 : decode prog_23_method_6_code 43 = .ok (.iload_n 3, 1) := by decide +kernel
theorem d1_44 : decode prog_23_method_6_code 44 = .ok (.imul, 1) := by decide +kernel
theorem d1_45 : decode prog_23_method_6_code 45 = .ok (.iload_n 2, 1) := by decide +kernel
theorem d1_46 : decode prog_23_method_6_code 46 = .ok (.iadd, 1) := by decide +kernel
theorem d1_47 : decode prog_23_method_6_code 47 = .ok (.ireturn, 1) := by decide +kernel
theorem pn_1 : plainName "com/example/emberwire/emberwire/Ids" = true := by first | (simp [plainName, overriddenIn]; done) | decide +kernel
theorem ef_1 (m : MethodId) (p1 : Int32) (p2 : Int32) (p3 : Int32) : entryFrame m #[(.int p1), (.int p2), (.int p3)] 6 = mkF m 0 #[.val (.int p1), .val (.int p2), .val (.int p3), .unset, .unset, .unset] [] := by first | (simp [entryFrame, mkF, argsToLocals, Value.category]; done) | rfl
def Q1 (Z : State) (p1 : Int32) (p2 : Int32) (p3 : Int32) (h0 : Heap) (n0 : Nat) (v : Option Value) (h : Heap) (L : List Loc) : Prop := v = some (.int (F1 p1 p2 p3)) ∧ Fr n0 L ∧ h = h0
set_option maxRecDepth 65536 in
set_option maxHeartbeats 40000000 in
theorem rm1 (l : Launch) (Z : State) (a0 : Array Value) (hw : ∀ d ∈ tables_1, d.before a0 Z = true) (ws : List Jvm.Cond) (p1 : Int32) (p2 : Int32) (p3 : Int32)  (h0 : Heap) (n0 : Nat) (Z0 : n0 ≤ h0.size)  :
    MetFree l (⟨"com/example/emberwire/emberwire/Ids", "append", "(III)I"⟩ : MethodName) (head1 (Jvm.Cond.code (⟨"com/example/emberwire/emberwire/Ids", "append", "(III)I"⟩ : MethodName) prog_23_method_6_code 6 (some .int) :: ws) ({ frames := 0, cells := 0, slots := 0, locals := 0 } : Room)) (fun a U => a = #[(.int p1), (.int p2), (.int p3)] ∧ Z.Warmed39 U.vm ∧ U.heap = h0) (fun _ _ _ _ _ => True) (fun _ U o U' => ∃ v L, o = .returned v ∧ Q1 Z p1 p2 p3 h0 n0 v U'.heap L ∧ FrameEnd U o U' L ({ frames := 0, cells := 0, slots := 0, locals := 0 } : Room).cells ({ frames := 0, cells := 0, slots := 0, locals := 0 } : Room).slots) := by
  refine MetFree.of_bodySF (plainFor_of_name pn_1) hisR ?_
  intro p e s m args below meth c s₁ Bd hml0 hP hK
  obtain ⟨rfl, hZ, hh⟩ := hP
  have hx := Bd.exec
  have hby := Bd.bytes
  have hml : c.maxLocals = 6 := hml0
  have hown : s.vm.findClass "com/example/emberwire/emberwire/Ids" = some m.cls := findClass_of_methodNamed Bd.named
  have hnm := (name_of_methodNamed Bd.named Bd.method).1
  have X0 : Stand p l e ({ frames := 0, cells := 0, slots := 0, locals := 0 } : Room) s m #[(.int p1), (.int p2), (.int p3)] below meth c s₁ [] 0 0 := Stand.of_body Bd
  have e0 : s₁.heap = h0 := by rw [← hh, Bd.state]; rfl
  have N0 := Fr.nil n0
  suffices hG : OwnG p e below s (Q1 Z p1 p2 p3 h0 n0) ({ frames := 0, cells := 0, slots := 0, locals := 0 } : Room).cells ({ frames := 0, cells := 0, slots := 0, locals := 0 } : Room).slots s₁ (mkF m 0 #[.val (.int p1), .val (.int p2), .val (.int p3), .unset, .unset, .unset] []) by
    obtain ⟨s2, o2, g1, g2⟩ := hG
    exact ⟨s2, o2, castTop (ef_1 m p1 p2 p3) g1, g2⟩
  have sg1 : ∀ t, Steps p.tables e below (s₁.setTop (mkF m 9 #[.val (.int p1), .val (.int p2), .val (.int p3), .val (.int (1 : Int32)), .val (.int (31 : Int32)), .val (.int p2)] [])) t → Steps p.tables e below (s₁.setTop (mkF m 0 #[.val (.int p1), .val (.int p2), .val (.int p3), .unset, .unset, .unset] [])) t := by
    intro t k
    refine XS.iconst X0.here hx rfl (hb hby d1_0) ?_
    show Steps p.tables e below (s₁.setTop (mkF m 1 #[.val (.int p1), .val (.int p2), .val (.int p3), .unset, .unset, .unset] [(.int (1 : Int32))])) _
    refine XS.istoreN X0.here hx rfl (hb hby d1_1) rfl (l' := #[.val (.int p1), .val (.int p2), .val (.int p3), .val (.int (1 : Int32)), .unset, .unset]) rfl ?_
    show Steps p.tables e below (s₁.setTop (mkF m 2 #[.val (.int p1), .val (.int p2), .val (.int p3), .val (.int (1 : Int32)), .unset, .unset] [])) _
    refine XS.bipush X0.here hx rfl (hb hby d1_2) ?_
    show Steps p.tables e below (s₁.setTop (mkF m 4 #[.val (.int p1), .val (.int p2), .val (.int p3), .val (.int (1 : Int32)), .unset, .unset] [(.int (31 : Int32))])) _
    refine XS.istore X0.here hx rfl (hb hby d1_4) rfl (l' := #[.val (.int p1), .val (.int p2), .val (.int p3), .val (.int (1 : Int32)), .val (.int (31 : Int32)), .unset]) rfl ?_
    show Steps p.tables e below (s₁.setTop (mkF m 6 #[.val (.int p1), .val (.int p2), .val (.int p3), .val (.int (1 : Int32)), .val (.int (31 : Int32)), .unset] [])) _
    refine XS.iloadN X0.here hx rfl (hb hby d1_6) rfl ?_
    show Steps p.tables e below (s₁.setTop (mkF m 7 #[.val (.int p1), .val (.int p2), .val (.int p3), .val (.int (1 : Int32)), .val (.int (31 : Int32)), .unset] [(.int p2)])) _
    refine XS.istore X0.here hx rfl (hb hby d1_7) rfl (l' := #[.val (.int p1), .val (.int p2), .val (.int p3), .val (.int (1 : Int32)), .val (.int (31 : Int32)), .val (.int p2)]) rfl ?_
    show Steps p.tables e below (s₁.setTop (mkF m 9 #[.val (.int p1), .val (.int p2), .val (.int p3), .val (.int (1 : Int32)), .val (.int (31 : Int32)), .val (.int p2)] [])) _
    exact k
  refine OwnG.st sg1 ?_
  have lp2 : ∀ (k : Nat) (T : State) (lc : List Loc) (x : Int32) (y : Int32) (e5 : Int32) (X : Stand p l e ({ frames := 0, cells := 0, slots := 0, locals := 0 } : Room) s m #[(.int p1), (.int p2), (.int p3)] below meth c T lc 0 0) (eT : T.heap = h0) (N : Fr n0 lc) (hI : x * y ^ e5.toInt.toNat = (31 : Int32) ^ p2.toInt.toNat), e5.toInt.toNat = k → OwnG p e below s (Q1 Z p1 p2 p3 h0 n0) ({ frames := 0, cells := 0, slots := 0, locals := 0 } : Room).cells ({ frames := 0, cells := 0, slots := 0, locals := 0 } : Room).slots T (mkF m 9 #[.val (.int p1), .val (.int p2), .val (.int p3), .val (.int x), .val (.int y), .val (.int e5)] []) := by
    intro k
    induction k using Nat.strongRecOn with
    | _ k ih =>
      intro T lc x y e5 X eT N hI hk
      have sg3 : ∀ t, Steps p.tables e below (T.setTop (mkF m 11 #[.val (.int p1), .val (.int p2), .val (.int p3), .val (.int x), .val (.int y), .val (.int e5)] [(.int e5)])) t → Steps p.tables e below (T.setTop (mkF m 9 #[.val (.int p1), .val (.int p2), .val (.int p3), .val (.int x), .val (.int y), .val (.int e5)] [])) t := by
        intro t k
        refine XS.iload X.here hx rfl (hb hby d1_9) rfl ?_
        show Steps p.tables e below (T.setTop (mkF m 11 #[.val (.int p1), .val (.int p2), .val (.int p3), .val (.int x), .val (.int y), .val (.int e5)] [(.int e5)])) _
        exact k
      refine OwnG.st sg3 ?_
      by_cases hc11_4 : (0 : Int32) < e5
      · have sg5 : ∀ t, Steps p.tables e below (T.setTop (mkF m 18 #[.val (.int p1), .val (.int p2), .val (.int p3), .val (.int x), .val (.int y), .val (.int e5)] [(.int (e5 &&& (1 : Int32)))])) t → Steps p.tables e below (T.setTop (mkF m 11 #[.val (.int p1), .val (.int p2), .val (.int p3), .val (.int x), .val (.int y), .val (.int e5)] [(.int e5)])) t := by
          intro t k
          refine XS.ifNo X.here hx rfl (hb hby d1_11) rfl ((if0 _ _).trans (tlt hc11_4).2.2.2) ?_
          show Steps p.tables e below (T.setTop (mkF m 14 #[.val (.int p1), .val (.int p2), .val (.int p3), .val (.int x), .val (.int y), .val (.int e5)] [])) _
          refine XS.iload X.here hx rfl (hb hby d1_14) rfl ?_
          show Steps p.tables e below (T.setTop (mkF m 16 #[.val (.int p1), .val (.int p2), .val (.int p3), .val (.int x), .val (.int y), .val (.int e5)] [(.int e5)])) _
          refine XS.iconst X.here hx rfl (hb hby d1_16) ?_
          show Steps p.tables e below (T.setTop (mkF m 17 #[.val (.int p1), .val (.int p2), .val (.int p3), .val (.int x), .val (.int y), .val (.int e5)] [(.int (1 : Int32)), (.int e5)])) _
          refine XS.iand X.here hx rfl (hb hby d1_17) rfl ?_
          show Steps p.tables e below (T.setTop (mkF m 18 #[.val (.int p1), .val (.int p2), .val (.int p3), .val (.int x), .val (.int y), .val (.int e5)] [(.int (e5 &&& (1 : Int32)))])) _
          exact k
        refine OwnG.st sg5 ?_
        obtain ⟨z26_7, hz26_7⟩ : ∃ w : Int32, w = (if (e5 &&& (1 : Int32)) = (0 : Int32) then x else (x * y)) := ⟨_, rfl⟩
        have dj8 : ∀ t, Steps p.tables e below (T.setTop (mkF m 26 #[.val (.int p1), .val (.int p2), .val (.int p3), .val (.int z26_7), .val (.int y), .val (.int e5)] [])) t → Steps p.tables e below (T.setTop (mkF m 18 #[.val (.int p1), .val (.int p2), .val (.int p3), .val (.int x), .val (.int y), .val (.int e5)] [(.int (e5 &&& (1 : Int32)))])) t := by
          intro t k
          by_cases hc18_6 : (e5 &&& (1 : Int32)) = (0 : Int32)
          · have qz26_7 : z26_7 = x := by rw [hz26_7, if_pos hc18_6]
            rw [qz26_7] at k
            refine XS.ifYes X.here hx rfl (pc0 := 18) (pc' := 26) rfl (hb hby d1_18) rfl ((if0 _ _).trans (teq hc18_6).1) (by decide) (by decide) ?_
            show Steps p.tables e below (T.setTop (mkF m 26 #[.val (.int p1), .val (.int p2), .val (.int p3), .val (.int x), .val (.int y), .val (.int e5)] [])) _
            exact k
          · have qz26_7 : z26_7 = (x * y) := by rw [hz26_7, if_neg hc18_6]
            rw [qz26_7] at k
            refine XS.ifNo X.here hx rfl (hb hby d1_18) rfl ((if0 _ _).trans (feq hc18_6).1) ?_
            show Steps p.tables e below (T.setTop (mkF m 21 #[.val (.int p1), .val (.int p2), .val (.int p3), .val (.int x), .val (.int y), .val (.int e5)] [])) _
            refine XS.iloadN X.here hx rfl (hb hby d1_21) rfl ?_
            show Steps p.tables e below (T.setTop (mkF m 22 #[.val (.int p1), .val (.int p2), .val (.int p3), .val (.int x), .val (.int y), .val (.int e5)] [(.int x)])) _
            refine XS.iload X.here hx rfl (hb hby d1_22) rfl ?_
            show Steps p.tables e below (T.setTop (mkF m 24 #[.val (.int p1), .val (.int p2), .val (.int p3), .val (.int x), .val (.int y), .val (.int e5)] [(.int y), (.int x)])) _
            refine XS.imul X.here hx rfl (hb hby d1_24) rfl ?_
            show Steps p.tables e below (T.setTop (mkF m 25 #[.val (.int p1), .val (.int p2), .val (.int p3), .val (.int x), .val (.int y), .val (.int e5)] [(.int (x * y))])) _
            refine XS.istoreN X.here hx rfl (hb hby d1_25) rfl (l' := #[.val (.int p1), .val (.int p2), .val (.int p3), .val (.int (x * y)), .val (.int y), .val (.int e5)]) rfl ?_
            show Steps p.tables e below (T.setTop (mkF m 26 #[.val (.int p1), .val (.int p2), .val (.int p3), .val (.int (x * y)), .val (.int y), .val (.int e5)] [])) _
            exact k
        refine OwnG.st dj8 ?_
        have sg9 : ∀ t, Steps p.tables e below (T.setTop (mkF m 9 #[.val (.int p1), .val (.int p2), .val (.int p3), .val (.int z26_7), .val (.int (y * y)), .val (.int ((e5.toUInt32 >>> ((1 : Int32) &&& 31).toUInt32).toInt32))] [])) t → Steps p.tables e below (T.setTop (mkF m 26 #[.val (.int p1), .val (.int p2), .val (.int p3), .val (.int z26_7), .val (.int y), .val (.int e5)] [])) t := by
          intro t k
          refine XS.iload X.here hx rfl (hb hby d1_26) rfl ?_
          show Steps p.tables e below (T.setTop (mkF m 28 #[.val (.int p1), .val (.int p2), .val (.int p3), .val (.int z26_7), .val (.int y), .val (.int e5)] [(.int y)])) _
          refine XS.iload X.here hx rfl (hb hby d1_28) rfl ?_
          show Steps p.tables e below (T.setTop (mkF m 30 #[.val (.int p1), .val (.int p2), .val (.int p3), .val (.int z26_7), .val (.int y), .val (.int e5)] [(.int y), (.int y)])) _
          refine XS.imul X.here hx rfl (hb hby d1_30) rfl ?_
          show Steps p.tables e below (T.setTop (mkF m 31 #[.val (.int p1), .val (.int p2), .val (.int p3), .val (.int z26_7), .val (.int y), .val (.int e5)] [(.int (y * y))])) _
          refine XS.istore X.here hx rfl (hb hby d1_31) rfl (l' := #[.val (.int p1), .val (.int p2), .val (.int p3), .val (.int z26_7), .val (.int (y * y)), .val (.int e5)]) rfl ?_
          show Steps p.tables e below (T.setTop (mkF m 33 #[.val (.int p1), .val (.int p2), .val (.int p3), .val (.int z26_7), .val (.int (y * y)), .val (.int e5)] [])) _
          refine XS.iload X.here hx rfl (hb hby d1_33) rfl ?_
          show Steps p.tables e below (T.setTop (mkF m 35 #[.val (.int p1), .val (.int p2), .val (.int p3), .val (.int z26_7), .val (.int (y * y)), .val (.int e5)] [(.int e5)])) _
          refine XS.iconst X.here hx rfl (hb hby d1_35) ?_
          show Steps p.tables e below (T.setTop (mkF m 36 #[.val (.int p1), .val (.int p2), .val (.int p3), .val (.int z26_7), .val (.int (y * y)), .val (.int e5)] [(.int (1 : Int32)), (.int e5)])) _
          refine XS.iushr X.here hx rfl (hb hby d1_36) rfl ?_
          show Steps p.tables e below (T.setTop (mkF m 37 #[.val (.int p1), .val (.int p2), .val (.int p3), .val (.int z26_7), .val (.int (y * y)), .val (.int e5)] [(.int ((e5.toUInt32 >>> ((1 : Int32) &&& 31).toUInt32).toInt32))])) _
          refine XS.istore X.here hx rfl (hb hby d1_37) rfl (l' := #[.val (.int p1), .val (.int p2), .val (.int p3), .val (.int z26_7), .val (.int (y * y)), .val (.int ((e5.toUInt32 >>> ((1 : Int32) &&& 31).toUInt32).toInt32))]) rfl ?_
          show Steps p.tables e below (T.setTop (mkF m 39 #[.val (.int p1), .val (.int p2), .val (.int p3), .val (.int z26_7), .val (.int (y * y)), .val (.int ((e5.toUInt32 >>> ((1 : Int32) &&& 31).toUInt32).toInt32))] [])) _
          refine XS.goto X.here hx rfl (pc0 := 39) (pc' := 9) rfl (hb hby d1_39) (by decide) (by decide) ?_
          show Steps p.tables e below (T.setTop (mkF m 9 #[.val (.int p1), .val (.int p2), .val (.int p3), .val (.int z26_7), .val (.int (y * y)), .val (.int ((e5.toUInt32 >>> ((1 : Int32) &&& 31).toUInt32).toInt32))] [])) _
          exact k
        refine OwnG.st sg9 ?_
        have ht := own_turn _ _ _ _ (by have q := hc11_4; rw [Int32.lt_iff_toInt_lt] at q; exact q) hz26_7
        exact ih _ (hk ▸ ht.2.1) T lc _ _ _ X eT N (ht.1.trans hI) rfl
      · have sg10 : ∀ t, Steps p.tables e below (T.setTop (mkF m 47 #[.val (.int p1), .val (.int p2), .val (.int p3), .val (.int x), .val (.int y), .val (.int e5)] [(.int ((p1 * x) + p3))])) t → Steps p.tables e below (T.setTop (mkF m 11 #[.val (.int p1), .val (.int p2), .val (.int p3), .val (.int x), .val (.int y), .val (.int e5)] [(.int e5)])) t := by
          intro t k
          refine XS.ifYes X.here hx rfl (pc0 := 11) (pc' := 42) rfl (hb hby d1_11) rfl ((if0 _ _).trans (flt hc11_4).2.2.2) (by decide) (by decide) ?_
          show Steps p.tables e below (T.setTop (mkF m 42 #[.val (.int p1), .val (.int p2), .val (.int p3), .val (.int x), .val (.int y), .val (.int e5)] [])) _
          refine XS.iloadN X.here hx rfl (hb hby d1_42) rfl ?_
          show Steps p.tables e below (T.setTop (mkF m 43 #[.val (.int p1), .val (.int p2), .val (.int p3), .val (.int x), .val (.int y), .val (.int e5)] [(.int p1)])) _
          refine XS.iloadN X.here hx rfl (hb hby d1_43) rfl ?_
          show Steps p.tables e below (T.setTop (mkF m 44 #[.val (.int p1), .val (.int p2), .val (.int p3), .val (.int x), .val (.int y), .val (.int e5)] [(.int x), (.int p1)])) _
          refine XS.imul X.here hx rfl (hb hby d1_44) rfl ?_
          show Steps p.tables e below (T.setTop (mkF m 45 #[.val (.int p1), .val (.int p2), .val (.int p3), .val (.int x), .val (.int y), .val (.int e5)] [(.int (p1 * x))])) _
          refine XS.iloadN X.here hx rfl (hb hby d1_45) rfl ?_
          show Steps p.tables e below (T.setTop (mkF m 46 #[.val (.int p1), .val (.int p2), .val (.int p3), .val (.int x), .val (.int y), .val (.int e5)] [(.int p3), (.int (p1 * x))])) _
          refine XS.iadd X.here hx rfl (hb hby d1_46) rfl ?_
          show Steps p.tables e below (T.setTop (mkF m 47 #[.val (.int p1), .val (.int p2), .val (.int p3), .val (.int x), .val (.int y), .val (.int e5)] [(.int ((p1 * x) + p3))])) _
          exact k
        refine OwnG.st sg10 ?_
        have hv : ((p1 * x) + p3) = F1 p1 p2 p3 := by have q := hc11_4; rw [Int32.lt_iff_toInt_lt, show (0 : Int32).toInt = 0 from rfl] at q; rw [show e5.toInt.toNat = 0 by omega, Int32.pow_zero, Int32.mul_one] at hI; rw [hI]; rfl
        exact OwnG.retI X hx Bd.returns (BodyLoose.notSynchronized Bd) (hb hby d1_47) ⟨congrArg (fun w => some (Value.int w)) hv, N, eT⟩ (by decide) (by decide)
  exact lp2 _ s₁ _  _ _ _ X0 e0 N0 (Int32.one_mul _)  rfl
theorem own_m30 (x : Int32) : 0 ≤ (x &&& (1073741823 : Int32)).toInt ∧ (x &&& (1073741823 : Int32)).toInt < 1073741824 := by
  have h := c_mask x 1073741823 30 (by decide) (by decide)
  omega
theorem own_mult (a b : Int32) (ha : 0 ≤ a.toInt ∧ a.toInt < 1073741824) (hb : 0 ≤ b.toInt ∧ b.toInt < 1073741824) : F1 1 (a + b) 0 = F1 1 a 0 * F1 1 b 0 := by
  have h := c_iadd a b
  have r := rng32 (a + b)
  unfold F1
  rw [show (a + b).toInt.toNat = a.toInt.toNat + b.toInt.toNat by omega, own_padd]
  simp only [Int32.one_mul, Int32.add_zero]
theorem own_form (h a t : Int32) : F1 h a t = h * F1 1 a 0 + t := by
  unfold F1
  simp only [Int32.one_mul, Int32.add_zero]
theorem pn_0 : plainName "com/example/emberwire/emberwire/IdsAppendPinLaw" = true := by first | (simp [plainName, overriddenIn]; done) | decide +kernel
theorem pd_0_0 : parseMethodDescriptor "(III)I" = some ⟨[.int, .int, .int], some .int⟩ := by decide +kernel
theorem ef_0 (m : MethodId) (p1 : Int32) (p2 : Int32) (p3 : Int32) (p4 : Int32) : entryFrame m #[(.int p1), (.int p2), (.int p3), (.int p4)] maxLocals = mkF m 0 #[.val (.int p1), .val (.int p2), .val (.int p3), .val (.int p4), .unset, .unset, .unset, .unset, .unset, .unset, .unset, .unset, .unset, .unset] [] := by first | (simp [entryFrame, mkF, argsToLocals, Value.category, maxLocals]; done) | rfl
def Q0 (Z : State) (p1 : Int32) (p2 : Int32) (p3 : Int32) (p4 : Int32) (h0 : Heap) (n0 : Nat) (v : Option Value) (h : Heap) (L : List Loc) : Prop := v = some (.int 1) ∧ Fr n0 L
set_option maxRecDepth 65536 in
set_option maxHeartbeats 40000000 in
theorem rm0 (l : Launch) (Z : State) (a0 : Array Value) (hw : ∀ d ∈ tables_1, d.before a0 Z = true) (ws : List Jvm.Cond) (p1 : Int32) (p2 : Int32) (p3 : Int32) (p4 : Int32)  (h0 : Heap) (n0 : Nat) (Z0 : n0 ≤ h0.size)  :
    MetFree l x (head1 (Jvm.Cond.code x code maxLocals ret :: ws) room_1) (fun a U => a = #[(.int p1), (.int p2), (.int p3), (.int p4)] ∧ Z.Warmed39 U.vm ∧ U.heap = h0) (fun _ _ _ _ _ => True) (fun _ U o U' => ∃ v L, o = .returned v ∧ Q0 Z p1 p2 p3 p4 h0 n0 v U'.heap L ∧ FrameEnd U o U' L room_1.cells room_1.slots) := by
  refine MetFree.of_bodySF (plainFor_of_name pn_0) hisR ?_
  intro p e s m args below meth c s₁ Bd hml0 hP hK
  obtain ⟨rfl, hZ, hh⟩ := hP
  have hx := Bd.exec
  have hby := Bd.bytes
  have hml : c.maxLocals = 14 := hml0
  have hown : s.vm.findClass "com/example/emberwire/emberwire/IdsAppendPinLaw" = some m.cls := findClass_of_methodNamed Bd.named
  have hnm := (name_of_methodNamed Bd.named Bd.method).1
  have X0 : Stand p l e room_1 s m #[(.int p1), (.int p2), (.int p3), (.int p4)] below meth c s₁ [] 0 0 := Stand.of_body Bd
  have e0 : s₁.heap = h0 := by rw [← hh, Bd.state]; rfl
  have N0 := Fr.nil n0
  suffices hG : OwnG p e below s (Q0 Z p1 p2 p3 p4 h0 n0) room_1.cells room_1.slots s₁ (mkF m 0 #[.val (.int p1), .val (.int p2), .val (.int p3), .val (.int p4), .unset, .unset, .unset, .unset, .unset, .unset, .unset, .unset, .unset, .unset] []) by
    obtain ⟨s2, o2, g1, g2⟩ := hG
    exact ⟨s2, o2, castTop (ef_0 m p1 p2 p3 p4) g1, g2⟩
  have sg1 : ∀ t, Steps p.tables e below (s₁.setTop (mkF m 23 #[.val (.int p1), .val (.int p2), .val (.int p3), .val (.int p4), .val (.int (p3 &&& (1073741823 : Int32))), .val (.int (p4 &&& (1073741823 : Int32))), .val (.int ((p3 &&& (1073741823 : Int32)) + (p4 &&& (1073741823 : Int32)))), .unset, .unset, .unset, .unset, .unset, .unset, .unset] [(.int (0 : Int32)), (.int (p3 &&& (1073741823 : Int32))), (.int (1 : Int32))])) t → Steps p.tables e below (s₁.setTop (mkF m 0 #[.val (.int p1), .val (.int p2), .val (.int p3), .val (.int p4), .unset, .unset, .unset, .unset, .unset, .unset, .unset, .unset, .unset, .unset] [])) t := by
    intro t k
    refine XS.iloadN X0.here hx rfl (hb hby at_0) rfl ?_
    show Steps p.tables e below (s₁.setTop (mkF m 1 #[.val (.int p1), .val (.int p2), .val (.int p3), .val (.int p4), .unset, .unset, .unset, .unset, .unset, .unset, .unset, .unset, .unset, .unset] [(.int p3)])) _
    refine X0.ldcInt hx hown (mvT hZ (hw _ (List.mem_of_getElem? (i := 0) rfl))) (g := (mkF m 1 #[.val (.int p1), .val (.int p2), .val (.int p3), .val (.int p4), .unset, .unset, .unset, .unset, .unset, .unset, .unset, .unset, .unset, .unset] [(.int p3)])) rfl (hb hby at_1) _ ?_
    show Steps p.tables e below (s₁.setTop (mkF m 3 #[.val (.int p1), .val (.int p2), .val (.int p3), .val (.int p4), .unset, .unset, .unset, .unset, .unset, .unset, .unset, .unset, .unset, .unset] [(.int (1073741823 : Int32)), (.int p3)])) _
    refine XS.iand X0.here hx rfl (hb hby at_3) rfl ?_
    show Steps p.tables e below (s₁.setTop (mkF m 4 #[.val (.int p1), .val (.int p2), .val (.int p3), .val (.int p4), .unset, .unset, .unset, .unset, .unset, .unset, .unset, .unset, .unset, .unset] [(.int (p3 &&& (1073741823 : Int32)))])) _
    refine XS.istore X0.here hx rfl (hb hby at_4) rfl (l' := #[.val (.int p1), .val (.int p2), .val (.int p3), .val (.int p4), .val (.int (p3 &&& (1073741823 : Int32))), .unset, .unset, .unset, .unset, .unset, .unset, .unset, .unset, .unset]) rfl ?_
    show Steps p.tables e below (s₁.setTop (mkF m 6 #[.val (.int p1), .val (.int p2), .val (.int p3), .val (.int p4), .val (.int (p3 &&& (1073741823 : Int32))), .unset, .unset, .unset, .unset, .unset, .unset, .unset, .unset, .unset] [])) _
    refine XS.iloadN X0.here hx rfl (hb hby at_6) rfl ?_
    show Steps p.tables e below (s₁.setTop (mkF m 7 #[.val (.int p1), .val (.int p2), .val (.int p3), .val (.int p4), .val (.int (p3 &&& (1073741823 : Int32))), .unset, .unset, .unset, .unset, .unset, .unset, .unset, .unset, .unset] [(.int p4)])) _
    refine X0.ldcInt hx hown (mvT hZ (hw _ (List.mem_of_getElem? (i := 0) rfl))) (g := (mkF m 7 #[.val (.int p1), .val (.int p2), .val (.int p3), .val (.int p4), .val (.int (p3 &&& (1073741823 : Int32))), .unset, .unset, .unset, .unset, .unset, .unset, .unset, .unset, .unset] [(.int p4)])) rfl (hb hby at_7) _ ?_
    show Steps p.tables e below (s₁.setTop (mkF m 9 #[.val (.int p1), .val (.int p2), .val (.int p3), .val (.int p4), .val (.int (p3 &&& (1073741823 : Int32))), .unset, .unset, .unset, .unset, .unset, .unset, .unset, .unset, .unset] [(.int (1073741823 : Int32)), (.int p4)])) _
    refine XS.iand X0.here hx rfl (hb hby at_9) rfl ?_
    show Steps p.tables e below (s₁.setTop (mkF m 10 #[.val (.int p1), .val (.int p2), .val (.int p3), .val (.int p4), .val (.int (p3 &&& (1073741823 : Int32))), .unset, .unset, .unset, .unset, .unset, .unset, .unset, .unset, .unset] [(.int (p4 &&& (1073741823 : Int32)))])) _
    refine XS.istore X0.here hx rfl (hb hby at_10) rfl (l' := #[.val (.int p1), .val (.int p2), .val (.int p3), .val (.int p4), .val (.int (p3 &&& (1073741823 : Int32))), .val (.int (p4 &&& (1073741823 : Int32))), .unset, .unset, .unset, .unset, .unset, .unset, .unset, .unset]) rfl ?_
    show Steps p.tables e below (s₁.setTop (mkF m 12 #[.val (.int p1), .val (.int p2), .val (.int p3), .val (.int p4), .val (.int (p3 &&& (1073741823 : Int32))), .val (.int (p4 &&& (1073741823 : Int32))), .unset, .unset, .unset, .unset, .unset, .unset, .unset, .unset] [])) _
    refine XS.iload X0.here hx rfl (hb hby at_12) rfl ?_
    show Steps p.tables e below (s₁.setTop (mkF m 14 #[.val (.int p1), .val (.int p2), .val (.int p3), .val (.int p4), .val (.int (p3 &&& (1073741823 : Int32))), .val (.int (p4 &&& (1073741823 : Int32))), .unset, .unset, .unset, .unset, .unset, .unset, .unset, .unset] [(.int (p3 &&& (1073741823 : Int32)))])) _
    refine XS.iload X0.here hx rfl (hb hby at_14) rfl ?_
    show Steps p.tables e below (s₁.setTop (mkF m 16 #[.val (.int p1), .val (.int p2), .val (.int p3), .val (.int p4), .val (.int (p3 &&& (1073741823 : Int32))), .val (.int (p4 &&& (1073741823 : Int32))), .unset, .unset, .unset, .unset, .unset, .unset, .unset, .unset] [(.int (p4 &&& (1073741823 : Int32))), (.int (p3 &&& (1073741823 : Int32)))])) _
    refine XS.iadd X0.here hx rfl (hb hby at_16) rfl ?_
    show Steps p.tables e below (s₁.setTop (mkF m 17 #[.val (.int p1), .val (.int p2), .val (.int p3), .val (.int p4), .val (.int (p3 &&& (1073741823 : Int32))), .val (.int (p4 &&& (1073741823 : Int32))), .unset, .unset, .unset, .unset, .unset, .unset, .unset, .unset] [(.int ((p3 &&& (1073741823 : Int32)) + (p4 &&& (1073741823 : Int32))))])) _
    refine XS.istore X0.here hx rfl (hb hby at_17) rfl (l' := #[.val (.int p1), .val (.int p2), .val (.int p3), .val (.int p4), .val (.int (p3 &&& (1073741823 : Int32))), .val (.int (p4 &&& (1073741823 : Int32))), .val (.int ((p3 &&& (1073741823 : Int32)) + (p4 &&& (1073741823 : Int32)))), .unset, .unset, .unset, .unset, .unset, .unset, .unset]) rfl ?_
    show Steps p.tables e below (s₁.setTop (mkF m 19 #[.val (.int p1), .val (.int p2), .val (.int p3), .val (.int p4), .val (.int (p3 &&& (1073741823 : Int32))), .val (.int (p4 &&& (1073741823 : Int32))), .val (.int ((p3 &&& (1073741823 : Int32)) + (p4 &&& (1073741823 : Int32)))), .unset, .unset, .unset, .unset, .unset, .unset, .unset] [])) _
    refine XS.iconst X0.here hx rfl (hb hby at_19) ?_
    show Steps p.tables e below (s₁.setTop (mkF m 20 #[.val (.int p1), .val (.int p2), .val (.int p3), .val (.int p4), .val (.int (p3 &&& (1073741823 : Int32))), .val (.int (p4 &&& (1073741823 : Int32))), .val (.int ((p3 &&& (1073741823 : Int32)) + (p4 &&& (1073741823 : Int32)))), .unset, .unset, .unset, .unset, .unset, .unset, .unset] [(.int (1 : Int32))])) _
    refine XS.iload X0.here hx rfl (hb hby at_20) rfl ?_
    show Steps p.tables e below (s₁.setTop (mkF m 22 #[.val (.int p1), .val (.int p2), .val (.int p3), .val (.int p4), .val (.int (p3 &&& (1073741823 : Int32))), .val (.int (p4 &&& (1073741823 : Int32))), .val (.int ((p3 &&& (1073741823 : Int32)) + (p4 &&& (1073741823 : Int32)))), .unset, .unset, .unset, .unset, .unset, .unset, .unset] [(.int (p3 &&& (1073741823 : Int32))), (.int (1 : Int32))])) _
    refine XS.iconst X0.here hx rfl (hb hby at_22) ?_
    show Steps p.tables e below (s₁.setTop (mkF m 23 #[.val (.int p1), .val (.int p2), .val (.int p3), .val (.int p4), .val (.int (p3 &&& (1073741823 : Int32))), .val (.int (p4 &&& (1073741823 : Int32))), .val (.int ((p3 &&& (1073741823 : Int32)) + (p4 &&& (1073741823 : Int32)))), .unset, .unset, .unset, .unset, .unset, .unset, .unset] [(.int (0 : Int32)), (.int (p3 &&& (1073741823 : Int32))), (.int (1 : Int32))])) _
    exact k
  refine OwnG.st sg1 ?_
  obtain ⟨_, _, ⟨T2, L2, k2, n2⟩, -, X2, ⟨Lc2, hQ2, l2, y2, z2⟩, st2⟩ := Jvm.LawKit.callS X0 hx (y := (⟨"com/example/emberwire/emberwire/Ids", "append", "(III)I"⟩ : MethodName)) hown (mvT hZ (hw _ (List.mem_of_getElem? (i := 1) rfl))) (mvT hZ (hw _ (List.mem_of_getElem? (i := 2) rfl))) (mvT hZ (hw _ (List.mem_of_getElem? (i := 3) rfl))) (mvT hZ (hw _ (List.mem_of_getElem? (i := 4) rfl))) (by decide) (backOf (W := 0) (rm1 l Z a0 hw [] (1 : Int32) (p3 &&& (1073741823 : Int32)) (0 : Int32)  h0 n0 Z0 ) hZ (hw _ (List.mem_of_getElem? (i := 4) rfl)) (hw _ (List.mem_of_getElem? (i := 3) rfl)) (by decide) (by decide)) (g := (mkF m 23 #[.val (.int p1), .val (.int p2), .val (.int p3), .val (.int p4), .val (.int (p3 &&& (1073741823 : Int32))), .val (.int (p4 &&& (1073741823 : Int32))), .val (.int ((p3 &&& (1073741823 : Int32)) + (p4 &&& (1073741823 : Int32)))), .unset, .unset, .unset, .unset, .unset, .unset, .unset] [(.int (0 : Int32)), (.int (p3 &&& (1073741823 : Int32))), (.int (1 : Int32))])) rfl (by rw [hml]; rfl) (argsL := [(.int (1 : Int32)), (.int (p3 &&& (1073741823 : Int32))), (.int (0 : Int32))]) (rest := []) (lenOf pd_0_0 rfl) rfl (by show 2 * 0 + _ ≤ _; exact Nat.le_of_eq rfl) (hb hby at_23) (fun _ _ => ⟨rfl, e0, (by decide : 0 + 0 ≤ _), (by decide : 0 + 0 ≤ _)⟩)
  dsimp only [Pt.U, Pt.locs, Pt.cells, Pt.slots] at X2 l2 y2 z2 st2 hQ2
  subst l2 y2 z2
  obtain ⟨rfl, N2q, e2⟩ := hQ2
  have N2 := Fr.app N0 N2q
  refine OwnG.st (fun t k => st2 t k) ?_
  show OwnG p e below s _ _ _ T2 (mkF m 26 #[.val (.int p1), .val (.int p2), .val (.int p3), .val (.int p4), .val (.int (p3 &&& (1073741823 : Int32))), .val (.int (p4 &&& (1073741823 : Int32))), .val (.int ((p3 &&& (1073741823 : Int32)) + (p4 &&& (1073741823 : Int32)))), .unset, .unset, .unset, .unset, .unset, .unset, .unset] [(.int (F1 (1 : Int32) (p3 &&& (1073741823 : Int32)) (0 : Int32)))])
  have sg3 : ∀ t, Steps p.tables e below (T2.setTop (mkF m 32 #[.val (.int p1), .val (.int p2), .val (.int p3), .val (.int p4), .val (.int (p3 &&& (1073741823 : Int32))), .val (.int (p4 &&& (1073741823 : Int32))), .val (.int ((p3 &&& (1073741823 : Int32)) + (p4 &&& (1073741823 : Int32)))), .val (.int (F1 (1 : Int32) (p3 &&& (1073741823 : Int32)) (0 : Int32))), .unset, .unset, .unset, .unset, .unset, .unset] [(.int (0 : Int32)), (.int (p4 &&& (1073741823 : Int32))), (.int (1 : Int32))])) t → Steps p.tables e below (T2.setTop (mkF m 26 #[.val (.int p1), .val (.int p2), .val (.int p3), .val (.int p4), .val (.int (p3 &&& (1073741823 : Int32))), .val (.int (p4 &&& (1073741823 : Int32))), .val (.int ((p3 &&& (1073741823 : Int32)) + (p4 &&& (1073741823 : Int32)))), .unset, .unset, .unset, .unset, .unset, .unset, .unset] [(.int (F1 (1 : Int32) (p3 &&& (1073741823 : Int32)) (0 : Int32)))])) t := by
    intro t k
    refine XS.istore X2.here hx rfl (hb hby at_26) rfl (l' := #[.val (.int p1), .val (.int p2), .val (.int p3), .val (.int p4), .val (.int (p3 &&& (1073741823 : Int32))), .val (.int (p4 &&& (1073741823 : Int32))), .val (.int ((p3 &&& (1073741823 : Int32)) + (p4 &&& (1073741823 : Int32)))), .val (.int (F1 (1 : Int32) (p3 &&& (1073741823 : Int32)) (0 : Int32))), .unset, .unset, .unset, .unset, .unset, .unset]) rfl ?_
    show Steps p.tables e below (T2.setTop (mkF m 28 #[.val (.int p1), .val (.int p2), .val (.int p3), .val (.int p4), .val (.int (p3 &&& (1073741823 : Int32))), .val (.int (p4 &&& (1073741823 : Int32))), .val (.int ((p3 &&& (1073741823 : Int32)) + (p4 &&& (1073741823 : Int32)))), .val (.int (F1 (1 : Int32) (p3 &&& (1073741823 : Int32)) (0 : Int32))), .unset, .unset, .unset, .unset, .unset, .unset] [])) _
    refine XS.iconst X2.here hx rfl (hb hby at_28) ?_
    show Steps p.tables e below (T2.setTop (mkF m 29 #[.val (.int p1), .val (.int p2), .val (.int p3), .val (.int p4), .val (.int (p3 &&& (1073741823 : Int32))), .val (.int (p4 &&& (1073741823 : Int32))), .val (.int ((p3 &&& (1073741823 : Int32)) + (p4 &&& (1073741823 : Int32)))), .val (.int (F1 (1 : Int32) (p3 &&& (1073741823 : Int32)) (0 : Int32))), .unset, .unset, .unset, .unset, .unset, .unset] [(.int (1 : Int32))])) _
    refine XS.iload X2.here hx rfl (hb hby at_29) rfl ?_
    show Steps p.tables e below (T2.setTop (mkF m 31 #[.val (.int p1), .val (.int p2), .val (.int p3), .val (.int p4), .val (.int (p3 &&& (1073741823 : Int32))), .val (.int (p4 &&& (1073741823 : Int32))), .val (.int ((p3 &&& (1073741823 : Int32)) + (p4 &&& (1073741823 : Int32)))), .val (.int (F1 (1 : Int32) (p3 &&& (1073741823 : Int32)) (0 : Int32))), .unset, .unset, .unset, .unset, .unset, .unset] [(.int (p4 &&& (1073741823 : Int32))), (.int (1 : Int32))])) _
    refine XS.iconst X2.here hx rfl (hb hby at_31) ?_
    show Steps p.tables e below (T2.setTop (mkF m 32 #[.val (.int p1), .val (.int p2), .val (.int p3), .val (.int p4), .val (.int (p3 &&& (1073741823 : Int32))), .val (.int (p4 &&& (1073741823 : Int32))), .val (.int ((p3 &&& (1073741823 : Int32)) + (p4 &&& (1073741823 : Int32)))), .val (.int (F1 (1 : Int32) (p3 &&& (1073741823 : Int32)) (0 : Int32))), .unset, .unset, .unset, .unset, .unset, .unset] [(.int (0 : Int32)), (.int (p4 &&& (1073741823 : Int32))), (.int (1 : Int32))])) _
    exact k
  refine OwnG.st sg3 ?_
  obtain ⟨_, _, ⟨T4, L4, k4, n4⟩, -, X4, ⟨Lc4, hQ4, l4, y4, z4⟩, st4⟩ := Jvm.LawKit.callS X2 hx (y := (⟨"com/example/emberwire/emberwire/Ids", "append", "(III)I"⟩ : MethodName)) hown (mvT hZ (hw _ (List.mem_of_getElem? (i := 1) rfl))) (mvT hZ (hw _ (List.mem_of_getElem? (i := 2) rfl))) (mvT hZ (hw _ (List.mem_of_getElem? (i := 3) rfl))) (mvT hZ (hw _ (List.mem_of_getElem? (i := 4) rfl))) (by decide) (backOf (W := 0) (rm1 l Z a0 hw [] (1 : Int32) (p4 &&& (1073741823 : Int32)) (0 : Int32)  h0 n0 Z0 ) hZ (hw _ (List.mem_of_getElem? (i := 4) rfl)) (hw _ (List.mem_of_getElem? (i := 3) rfl)) (by decide) (by decide)) (g := (mkF m 32 #[.val (.int p1), .val (.int p2), .val (.int p3), .val (.int p4), .val (.int (p3 &&& (1073741823 : Int32))), .val (.int (p4 &&& (1073741823 : Int32))), .val (.int ((p3 &&& (1073741823 : Int32)) + (p4 &&& (1073741823 : Int32)))), .val (.int (F1 (1 : Int32) (p3 &&& (1073741823 : Int32)) (0 : Int32))), .unset, .unset, .unset, .unset, .unset, .unset] [(.int (0 : Int32)), (.int (p4 &&& (1073741823 : Int32))), (.int (1 : Int32))])) rfl (by rw [hml]; rfl) (argsL := [(.int (1 : Int32)), (.int (p4 &&& (1073741823 : Int32))), (.int (0 : Int32))]) (rest := []) (lenOf pd_0_0 rfl) rfl (by show 2 * 0 + _ ≤ _; exact Nat.le_of_eq rfl) (hb hby at_32) (fun _ _ => ⟨rfl, e2, (by decide : 0 + 0 ≤ _), (by decide : 0 + 0 ≤ _)⟩)
  dsimp only [Pt.U, Pt.locs, Pt.cells, Pt.slots] at X4 l4 y4 z4 st4 hQ4
  subst l4 y4 z4
  obtain ⟨rfl, N4q, e4⟩ := hQ4
  have N4 := Fr.app N2 N4q
  refine OwnG.st (fun t k => st4 t k) ?_
  show OwnG p e below s _ _ _ T4 (mkF m 35 #[.val (.int p1), .val (.int p2), .val (.int p3), .val (.int p4), .val (.int (p3 &&& (1073741823 : Int32))), .val (.int (p4 &&& (1073741823 : Int32))), .val (.int ((p3 &&& (1073741823 : Int32)) + (p4 &&& (1073741823 : Int32)))), .val (.int (F1 (1 : Int32) (p3 &&& (1073741823 : Int32)) (0 : Int32))), .unset, .unset, .unset, .unset, .unset, .unset] [(.int (F1 (1 : Int32) (p4 &&& (1073741823 : Int32)) (0 : Int32)))])
  have sg5 : ∀ t, Steps p.tables e below (T4.setTop (mkF m 41 #[.val (.int p1), .val (.int p2), .val (.int p3), .val (.int p4), .val (.int (p3 &&& (1073741823 : Int32))), .val (.int (p4 &&& (1073741823 : Int32))), .val (.int ((p3 &&& (1073741823 : Int32)) + (p4 &&& (1073741823 : Int32)))), .val (.int (F1 (1 : Int32) (p3 &&& (1073741823 : Int32)) (0 : Int32))), .val (.int (F1 (1 : Int32) (p4 &&& (1073741823 : Int32)) (0 : Int32))), .unset, .unset, .unset, .unset, .unset] [(.int (0 : Int32)), (.int ((p3 &&& (1073741823 : Int32)) + (p4 &&& (1073741823 : Int32)))), (.int (1 : Int32))])) t → Steps p.tables e below (T4.setTop (mkF m 35 #[.val (.int p1), .val (.int p2), .val (.int p3), .val (.int p4), .val (.int (p3 &&& (1073741823 : Int32))), .val (.int (p4 &&& (1073741823 : Int32))), .val (.int ((p3 &&& (1073741823 : Int32)) + (p4 &&& (1073741823 : Int32)))), .val (.int (F1 (1 : Int32) (p3 &&& (1073741823 : Int32)) (0 : Int32))), .unset, .unset, .unset, .unset, .unset, .unset] [(.int (F1 (1 : Int32) (p4 &&& (1073741823 : Int32)) (0 : Int32)))])) t := by
    intro t k
    refine XS.istore X4.here hx rfl (hb hby at_35) rfl (l' := #[.val (.int p1), .val (.int p2), .val (.int p3), .val (.int p4), .val (.int (p3 &&& (1073741823 : Int32))), .val (.int (p4 &&& (1073741823 : Int32))), .val (.int ((p3 &&& (1073741823 : Int32)) + (p4 &&& (1073741823 : Int32)))), .val (.int (F1 (1 : Int32) (p3 &&& (1073741823 : Int32)) (0 : Int32))), .val (.int (F1 (1 : Int32) (p4 &&& (1073741823 : Int32)) (0 : Int32))), .unset, .unset, .unset, .unset, .unset]) rfl ?_
    show Steps p.tables e below (T4.setTop (mkF m 37 #[.val (.int p1), .val (.int p2), .val (.int p3), .val (.int p4), .val (.int (p3 &&& (1073741823 : Int32))), .val (.int (p4 &&& (1073741823 : Int32))), .val (.int ((p3 &&& (1073741823 : Int32)) + (p4 &&& (1073741823 : Int32)))), .val (.int (F1 (1 : Int32) (p3 &&& (1073741823 : Int32)) (0 : Int32))), .val (.int (F1 (1 : Int32) (p4 &&& (1073741823 : Int32)) (0 : Int32))), .unset, .unset, .unset, .unset, .unset] [])) _
    refine XS.iconst X4.here hx rfl (hb hby at_37) ?_
    show Steps p.tables e below (T4.setTop (mkF m 38 #[.val (.int p1), .val (.int p2), .val (.int p3), .val (.int p4), .val (.int (p3 &&& (1073741823 : Int32))), .val (.int (p4 &&& (1073741823 : Int32))), .val (.int ((p3 &&& (1073741823 : Int32)) + (p4 &&& (1073741823 : Int32)))), .val (.int (F1 (1 : Int32) (p3 &&& (1073741823 : Int32)) (0 : Int32))), .val (.int (F1 (1 : Int32) (p4 &&& (1073741823 : Int32)) (0 : Int32))), .unset, .unset, .unset, .unset, .unset] [(.int (1 : Int32))])) _
    refine XS.iload X4.here hx rfl (hb hby at_38) rfl ?_
    show Steps p.tables e below (T4.setTop (mkF m 40 #[.val (.int p1), .val (.int p2), .val (.int p3), .val (.int p4), .val (.int (p3 &&& (1073741823 : Int32))), .val (.int (p4 &&& (1073741823 : Int32))), .val (.int ((p3 &&& (1073741823 : Int32)) + (p4 &&& (1073741823 : Int32)))), .val (.int (F1 (1 : Int32) (p3 &&& (1073741823 : Int32)) (0 : Int32))), .val (.int (F1 (1 : Int32) (p4 &&& (1073741823 : Int32)) (0 : Int32))), .unset, .unset, .unset, .unset, .unset] [(.int ((p3 &&& (1073741823 : Int32)) + (p4 &&& (1073741823 : Int32)))), (.int (1 : Int32))])) _
    refine XS.iconst X4.here hx rfl (hb hby at_40) ?_
    show Steps p.tables e below (T4.setTop (mkF m 41 #[.val (.int p1), .val (.int p2), .val (.int p3), .val (.int p4), .val (.int (p3 &&& (1073741823 : Int32))), .val (.int (p4 &&& (1073741823 : Int32))), .val (.int ((p3 &&& (1073741823 : Int32)) + (p4 &&& (1073741823 : Int32)))), .val (.int (F1 (1 : Int32) (p3 &&& (1073741823 : Int32)) (0 : Int32))), .val (.int (F1 (1 : Int32) (p4 &&& (1073741823 : Int32)) (0 : Int32))), .unset, .unset, .unset, .unset, .unset] [(.int (0 : Int32)), (.int ((p3 &&& (1073741823 : Int32)) + (p4 &&& (1073741823 : Int32)))), (.int (1 : Int32))])) _
    exact k
  refine OwnG.st sg5 ?_
  obtain ⟨_, _, ⟨T6, L6, k6, n6⟩, -, X6, ⟨Lc6, hQ6, l6, y6, z6⟩, st6⟩ := Jvm.LawKit.callS X4 hx (y := (⟨"com/example/emberwire/emberwire/Ids", "append", "(III)I"⟩ : MethodName)) hown (mvT hZ (hw _ (List.mem_of_getElem? (i := 1) rfl))) (mvT hZ (hw _ (List.mem_of_getElem? (i := 2) rfl))) (mvT hZ (hw _ (List.mem_of_getElem? (i := 3) rfl))) (mvT hZ (hw _ (List.mem_of_getElem? (i := 4) rfl))) (by decide) (backOf (W := 0) (rm1 l Z a0 hw [] (1 : Int32) ((p3 &&& (1073741823 : Int32)) + (p4 &&& (1073741823 : Int32))) (0 : Int32)  h0 n0 Z0 ) hZ (hw _ (List.mem_of_getElem? (i := 4) rfl)) (hw _ (List.mem_of_getElem? (i := 3) rfl)) (by decide) (by decide)) (g := (mkF m 41 #[.val (.int p1), .val (.int p2), .val (.int p3), .val (.int p4), .val (.int (p3 &&& (1073741823 : Int32))), .val (.int (p4 &&& (1073741823 : Int32))), .val (.int ((p3 &&& (1073741823 : Int32)) + (p4 &&& (1073741823 : Int32)))), .val (.int (F1 (1 : Int32) (p3 &&& (1073741823 : Int32)) (0 : Int32))), .val (.int (F1 (1 : Int32) (p4 &&& (1073741823 : Int32)) (0 : Int32))), .unset, .unset, .unset, .unset, .unset] [(.int (0 : Int32)), (.int ((p3 &&& (1073741823 : Int32)) + (p4 &&& (1073741823 : Int32)))), (.int (1 : Int32))])) rfl (by rw [hml]; rfl) (argsL := [(.int (1 : Int32)), (.int ((p3 &&& (1073741823 : Int32)) + (p4 &&& (1073741823 : Int32)))), (.int (0 : Int32))]) (rest := []) (lenOf pd_0_0 rfl) rfl (by show 2 * 0 + _ ≤ _; exact Nat.le_of_eq rfl) (hb hby at_41) (fun _ _ => ⟨rfl, e4, (by decide : 0 + 0 ≤ _), (by decide : 0 + 0 ≤ _)⟩)
  dsimp only [Pt.U, Pt.locs, Pt.cells, Pt.slots] at X6 l6 y6 z6 st6 hQ6
  subst l6 y6 z6
  obtain ⟨rfl, N6q, e6⟩ := hQ6
  have N6 := Fr.app N4 N6q
  refine OwnG.st (fun t k => st6 t k) ?_
  show OwnG p e below s _ _ _ T6 (mkF m 44 #[.val (.int p1), .val (.int p2), .val (.int p3), .val (.int p4), .val (.int (p3 &&& (1073741823 : Int32))), .val (.int (p4 &&& (1073741823 : Int32))), .val (.int ((p3 &&& (1073741823 : Int32)) + (p4 &&& (1073741823 : Int32)))), .val (.int (F1 (1 : Int32) (p3 &&& (1073741823 : Int32)) (0 : Int32))), .val (.int (F1 (1 : Int32) (p4 &&& (1073741823 : Int32)) (0 : Int32))), .unset, .unset, .unset, .unset, .unset] [(.int (F1 (1 : Int32) ((p3 &&& (1073741823 : Int32)) + (p4 &&& (1073741823 : Int32))) (0 : Int32)))])
  have sg7 : ∀ t, Steps p.tables e below (T6.setTop (mkF m 49 #[.val (.int p1), .val (.int p2), .val (.int p3), .val (.int p4), .val (.int (p3 &&& (1073741823 : Int32))), .val (.int (p4 &&& (1073741823 : Int32))), .val (.int ((p3 &&& (1073741823 : Int32)) + (p4 &&& (1073741823 : Int32)))), .val (.int (F1 (1 : Int32) (p3 &&& (1073741823 : Int32)) (0 : Int32))), .val (.int (F1 (1 : Int32) (p4 &&& (1073741823 : Int32)) (0 : Int32))), .val (.int (F1 (1 : Int32) ((p3 &&& (1073741823 : Int32)) + (p4 &&& (1073741823 : Int32))) (0 : Int32))), .unset, .unset, .unset, .unset] [(.int (0 : Int32)), (.int (0 : Int32)), (.int (1 : Int32))])) t → Steps p.tables e below (T6.setTop (mkF m 44 #[.val (.int p1), .val (.int p2), .val (.int p3), .val (.int p4), .val (.int (p3 &&& (1073741823 : Int32))), .val (.int (p4 &&& (1073741823 : Int32))), .val (.int ((p3 &&& (1073741823 : Int32)) + (p4 &&& (1073741823 : Int32)))), .val (.int (F1 (1 : Int32) (p3 &&& (1073741823 : Int32)) (0 : Int32))), .val (.int (F1 (1 : Int32) (p4 &&& (1073741823 : Int32)) (0 : Int32))), .unset, .unset, .unset, .unset, .unset] [(.int (F1 (1 : Int32) ((p3 &&& (1073741823 : Int32)) + (p4 &&& (1073741823 : Int32))) (0 : Int32)))])) t := by
    intro t k
    refine XS.istore X6.here hx rfl (hb hby at_44) rfl (l' := #[.val (.int p1), .val (.int p2), .val (.int p3), .val (.int p4), .val (.int (p3 &&& (1073741823 : Int32))), .val (.int (p4 &&& (1073741823 : Int32))), .val (.int ((p3 &&& (1073741823 : Int32)) + (p4 &&& (1073741823 : Int32)))), .val (.int (F1 (1 : Int32) (p3 &&& (1073741823 : Int32)) (0 : Int32))), .val (.int (F1 (1 : Int32) (p4 &&& (1073741823 : Int32)) (0 : Int32))), .val (.int (F1 (1 : Int32) ((p3 &&& (1073741823 : Int32)) + (p4 &&& (1073741823 : Int32))) (0 : Int32))), .unset, .unset, .unset, .unset]) rfl ?_
    show Steps p.tables e below (T6.setTop (mkF m 46 #[.val (.int p1), .val (.int p2), .val (.int p3), .val (.int p4), .val (.int (p3 &&& (1073741823 : Int32))), .val (.int (p4 &&& (1073741823 : Int32))), .val (.int ((p3 &&& (1073741823 : Int32)) + (p4 &&& (1073741823 : Int32)))), .val (.int (F1 (1 : Int32) (p3 &&& (1073741823 : Int32)) (0 : Int32))), .val (.int (F1 (1 : Int32) (p4 &&& (1073741823 : Int32)) (0 : Int32))), .val (.int (F1 (1 : Int32) ((p3 &&& (1073741823 : Int32)) + (p4 &&& (1073741823 : Int32))) (0 : Int32))), .unset, .unset, .unset, .unset] [])) _
    refine XS.iconst X6.here hx rfl (hb hby at_46) ?_
    show Steps p.tables e below (T6.setTop (mkF m 47 #[.val (.int p1), .val (.int p2), .val (.int p3), .val (.int p4), .val (.int (p3 &&& (1073741823 : Int32))), .val (.int (p4 &&& (1073741823 : Int32))), .val (.int ((p3 &&& (1073741823 : Int32)) + (p4 &&& (1073741823 : Int32)))), .val (.int (F1 (1 : Int32) (p3 &&& (1073741823 : Int32)) (0 : Int32))), .val (.int (F1 (1 : Int32) (p4 &&& (1073741823 : Int32)) (0 : Int32))), .val (.int (F1 (1 : Int32) ((p3 &&& (1073741823 : Int32)) + (p4 &&& (1073741823 : Int32))) (0 : Int32))), .unset, .unset, .unset, .unset] [(.int (1 : Int32))])) _
    refine XS.iconst X6.here hx rfl (hb hby at_47) ?_
    show Steps p.tables e below (T6.setTop (mkF m 48 #[.val (.int p1), .val (.int p2), .val (.int p3), .val (.int p4), .val (.int (p3 &&& (1073741823 : Int32))), .val (.int (p4 &&& (1073741823 : Int32))), .val (.int ((p3 &&& (1073741823 : Int32)) + (p4 &&& (1073741823 : Int32)))), .val (.int (F1 (1 : Int32) (p3 &&& (1073741823 : Int32)) (0 : Int32))), .val (.int (F1 (1 : Int32) (p4 &&& (1073741823 : Int32)) (0 : Int32))), .val (.int (F1 (1 : Int32) ((p3 &&& (1073741823 : Int32)) + (p4 &&& (1073741823 : Int32))) (0 : Int32))), .unset, .unset, .unset, .unset] [(.int (0 : Int32)), (.int (1 : Int32))])) _
    refine XS.iconst X6.here hx rfl (hb hby at_48) ?_
    show Steps p.tables e below (T6.setTop (mkF m 49 #[.val (.int p1), .val (.int p2), .val (.int p3), .val (.int p4), .val (.int (p3 &&& (1073741823 : Int32))), .val (.int (p4 &&& (1073741823 : Int32))), .val (.int ((p3 &&& (1073741823 : Int32)) + (p4 &&& (1073741823 : Int32)))), .val (.int (F1 (1 : Int32) (p3 &&& (1073741823 : Int32)) (0 : Int32))), .val (.int (F1 (1 : Int32) (p4 &&& (1073741823 : Int32)) (0 : Int32))), .val (.int (F1 (1 : Int32) ((p3 &&& (1073741823 : Int32)) + (p4 &&& (1073741823 : Int32))) (0 : Int32))), .unset, .unset, .unset, .unset] [(.int (0 : Int32)), (.int (0 : Int32)), (.int (1 : Int32))])) _
    exact k
  refine OwnG.st sg7 ?_
  obtain ⟨_, _, ⟨T8, L8, k8, n8⟩, -, X8, ⟨Lc8, hQ8, l8, y8, z8⟩, st8⟩ := Jvm.LawKit.callS X6 hx (y := (⟨"com/example/emberwire/emberwire/Ids", "append", "(III)I"⟩ : MethodName)) hown (mvT hZ (hw _ (List.mem_of_getElem? (i := 1) rfl))) (mvT hZ (hw _ (List.mem_of_getElem? (i := 2) rfl))) (mvT hZ (hw _ (List.mem_of_getElem? (i := 3) rfl))) (mvT hZ (hw _ (List.mem_of_getElem? (i := 4) rfl))) (by decide) (backOf (W := 0) (rm1 l Z a0 hw [] (1 : Int32) (0 : Int32) (0 : Int32)  h0 n0 Z0 ) hZ (hw _ (List.mem_of_getElem? (i := 4) rfl)) (hw _ (List.mem_of_getElem? (i := 3) rfl)) (by decide) (by decide)) (g := (mkF m 49 #[.val (.int p1), .val (.int p2), .val (.int p3), .val (.int p4), .val (.int (p3 &&& (1073741823 : Int32))), .val (.int (p4 &&& (1073741823 : Int32))), .val (.int ((p3 &&& (1073741823 : Int32)) + (p4 &&& (1073741823 : Int32)))), .val (.int (F1 (1 : Int32) (p3 &&& (1073741823 : Int32)) (0 : Int32))), .val (.int (F1 (1 : Int32) (p4 &&& (1073741823 : Int32)) (0 : Int32))), .val (.int (F1 (1 : Int32) ((p3 &&& (1073741823 : Int32)) + (p4 &&& (1073741823 : Int32))) (0 : Int32))), .unset, .unset, .unset, .unset] [(.int (0 : Int32)), (.int (0 : Int32)), (.int (1 : Int32))])) rfl (by rw [hml]; rfl) (argsL := [(.int (1 : Int32)), (.int (0 : Int32)), (.int (0 : Int32))]) (rest := []) (lenOf pd_0_0 rfl) rfl (by show 2 * 0 + _ ≤ _; exact Nat.le_of_eq rfl) (hb hby at_49) (fun _ _ => ⟨rfl, e6, (by decide : 0 + 0 ≤ _), (by decide : 0 + 0 ≤ _)⟩)
  dsimp only [Pt.U, Pt.locs, Pt.cells, Pt.slots] at X8 l8 y8 z8 st8 hQ8
  subst l8 y8 z8
  obtain ⟨rfl, N8q, e8⟩ := hQ8
  have N8 := Fr.app N6 N8q
  refine OwnG.st (fun t k => st8 t k) ?_
  show OwnG p e below s _ _ _ T8 (mkF m 52 #[.val (.int p1), .val (.int p2), .val (.int p3), .val (.int p4), .val (.int (p3 &&& (1073741823 : Int32))), .val (.int (p4 &&& (1073741823 : Int32))), .val (.int ((p3 &&& (1073741823 : Int32)) + (p4 &&& (1073741823 : Int32)))), .val (.int (F1 (1 : Int32) (p3 &&& (1073741823 : Int32)) (0 : Int32))), .val (.int (F1 (1 : Int32) (p4 &&& (1073741823 : Int32)) (0 : Int32))), .val (.int (F1 (1 : Int32) ((p3 &&& (1073741823 : Int32)) + (p4 &&& (1073741823 : Int32))) (0 : Int32))), .unset, .unset, .unset, .unset] [(.int (F1 (1 : Int32) (0 : Int32) (0 : Int32)))])
  have hc53_9 : (F1 (1 : Int32) (0 : Int32) (0 : Int32)) = (1 : Int32) := by decide
  have sg10 : ∀ t, Steps p.tables e below (T8.setTop (mkF m 59 #[.val (.int p1), .val (.int p2), .val (.int p3), .val (.int p4), .val (.int (p3 &&& (1073741823 : Int32))), .val (.int (p4 &&& (1073741823 : Int32))), .val (.int ((p3 &&& (1073741823 : Int32)) + (p4 &&& (1073741823 : Int32)))), .val (.int (F1 (1 : Int32) (p3 &&& (1073741823 : Int32)) (0 : Int32))), .val (.int (F1 (1 : Int32) (p4 &&& (1073741823 : Int32)) (0 : Int32))), .val (.int (F1 (1 : Int32) ((p3 &&& (1073741823 : Int32)) + (p4 &&& (1073741823 : Int32))) (0 : Int32))), .unset, .unset, .unset, .unset] [(.int (0 : Int32)), (.int (1 : Int32)), (.int (1 : Int32))])) t → Steps p.tables e below (T8.setTop (mkF m 52 #[.val (.int p1), .val (.int p2), .val (.int p3), .val (.int p4), .val (.int (p3 &&& (1073741823 : Int32))), .val (.int (p4 &&& (1073741823 : Int32))), .val (.int ((p3 &&& (1073741823 : Int32)) + (p4 &&& (1073741823 : Int32)))), .val (.int (F1 (1 : Int32) (p3 &&& (1073741823 : Int32)) (0 : Int32))), .val (.int (F1 (1 : Int32) (p4 &&& (1073741823 : Int32)) (0 : Int32))), .val (.int (F1 (1 : Int32) ((p3 &&& (1073741823 : Int32)) + (p4 &&& (1073741823 : Int32))) (0 : Int32))), .unset, .unset, .unset, .unset] [(.int (F1 (1 : Int32) (0 : Int32) (0 : Int32)))])) t := by
    intro t k
    refine XS.iconst X8.here hx rfl (hb hby at_52) ?_
    show Steps p.tables e below (T8.setTop (mkF m 53 #[.val (.int p1), .val (.int p2), .val (.int p3), .val (.int p4), .val (.int (p3 &&& (1073741823 : Int32))), .val (.int (p4 &&& (1073741823 : Int32))), .val (.int ((p3 &&& (1073741823 : Int32)) + (p4 &&& (1073741823 : Int32)))), .val (.int (F1 (1 : Int32) (p3 &&& (1073741823 : Int32)) (0 : Int32))), .val (.int (F1 (1 : Int32) (p4 &&& (1073741823 : Int32)) (0 : Int32))), .val (.int (F1 (1 : Int32) ((p3 &&& (1073741823 : Int32)) + (p4 &&& (1073741823 : Int32))) (0 : Int32))), .unset, .unset, .unset, .unset] [(.int (1 : Int32)), (.int (F1 (1 : Int32) (0 : Int32) (0 : Int32)))])) _
    refine XS.icmpNo X8.here hx rfl (hb hby at_53) rfl (teq hc53_9).2 ?_
    show Steps p.tables e below (T8.setTop (mkF m 56 #[.val (.int p1), .val (.int p2), .val (.int p3), .val (.int p4), .val (.int (p3 &&& (1073741823 : Int32))), .val (.int (p4 &&& (1073741823 : Int32))), .val (.int ((p3 &&& (1073741823 : Int32)) + (p4 &&& (1073741823 : Int32)))), .val (.int (F1 (1 : Int32) (p3 &&& (1073741823 : Int32)) (0 : Int32))), .val (.int (F1 (1 : Int32) (p4 &&& (1073741823 : Int32)) (0 : Int32))), .val (.int (F1 (1 : Int32) ((p3 &&& (1073741823 : Int32)) + (p4 &&& (1073741823 : Int32))) (0 : Int32))), .unset, .unset, .unset, .unset] [])) _
    refine XS.iconst X8.here hx rfl (hb hby at_56) ?_
    show Steps p.tables e below (T8.setTop (mkF m 57 #[.val (.int p1), .val (.int p2), .val (.int p3), .val (.int p4), .val (.int (p3 &&& (1073741823 : Int32))), .val (.int (p4 &&& (1073741823 : Int32))), .val (.int ((p3 &&& (1073741823 : Int32)) + (p4 &&& (1073741823 : Int32)))), .val (.int (F1 (1 : Int32) (p3 &&& (1073741823 : Int32)) (0 : Int32))), .val (.int (F1 (1 : Int32) (p4 &&& (1073741823 : Int32)) (0 : Int32))), .val (.int (F1 (1 : Int32) ((p3 &&& (1073741823 : Int32)) + (p4 &&& (1073741823 : Int32))) (0 : Int32))), .unset, .unset, .unset, .unset] [(.int (1 : Int32))])) _
    refine XS.iconst X8.here hx rfl (hb hby at_57) ?_
    show Steps p.tables e below (T8.setTop (mkF m 58 #[.val (.int p1), .val (.int p2), .val (.int p3), .val (.int p4), .val (.int (p3 &&& (1073741823 : Int32))), .val (.int (p4 &&& (1073741823 : Int32))), .val (.int ((p3 &&& (1073741823 : Int32)) + (p4 &&& (1073741823 : Int32)))), .val (.int (F1 (1 : Int32) (p3 &&& (1073741823 : Int32)) (0 : Int32))), .val (.int (F1 (1 : Int32) (p4 &&& (1073741823 : Int32)) (0 : Int32))), .val (.int (F1 (1 : Int32) ((p3 &&& (1073741823 : Int32)) + (p4 &&& (1073741823 : Int32))) (0 : Int32))), .unset, .unset, .unset, .unset] [(.int (1 : Int32)), (.int (1 : Int32))])) _
    refine XS.iconst X8.here hx rfl (hb hby at_58) ?_
    show Steps p.tables e below (T8.setTop (mkF m 59 #[.val (.int p1), .val (.int p2), .val (.int p3), .val (.int p4), .val (.int (p3 &&& (1073741823 : Int32))), .val (.int (p4 &&& (1073741823 : Int32))), .val (.int ((p3 &&& (1073741823 : Int32)) + (p4 &&& (1073741823 : Int32)))), .val (.int (F1 (1 : Int32) (p3 &&& (1073741823 : Int32)) (0 : Int32))), .val (.int (F1 (1 : Int32) (p4 &&& (1073741823 : Int32)) (0 : Int32))), .val (.int (F1 (1 : Int32) ((p3 &&& (1073741823 : Int32)) + (p4 &&& (1073741823 : Int32))) (0 : Int32))), .unset, .unset, .unset, .unset] [(.int (0 : Int32)), (.int (1 : Int32)), (.int (1 : Int32))])) _
    exact k
  refine OwnG.st sg10 ?_
  obtain ⟨_, _, ⟨T11, L11, k11, n11⟩, -, X11, ⟨Lc11, hQ11, l11, y11, z11⟩, st11⟩ := Jvm.LawKit.callS X8 hx (y := (⟨"com/example/emberwire/emberwire/Ids", "append", "(III)I"⟩ : MethodName)) hown (mvT hZ (hw _ (List.mem_of_getElem? (i := 1) rfl))) (mvT hZ (hw _ (List.mem_of_getElem? (i := 2) rfl))) (mvT hZ (hw _ (List.mem_of_getElem? (i := 3) rfl))) (mvT hZ (hw _ (List.mem_of_getElem? (i := 4) rfl))) (by decide) (backOf (W := 0) (rm1 l Z a0 hw [] (1 : Int32) (1 : Int32) (0 : Int32)  h0 n0 Z0 ) hZ (hw _ (List.mem_of_getElem? (i := 4) rfl)) (hw _ (List.mem_of_getElem? (i := 3) rfl)) (by decide) (by decide)) (g := (mkF m 59 #[.val (.int p1), .val (.int p2), .val (.int p3), .val (.int p4), .val (.int (p3 &&& (1073741823 : Int32))), .val (.int (p4 &&& (1073741823 : Int32))), .val (.int ((p3 &&& (1073741823 : Int32)) + (p4 &&& (1073741823 : Int32)))), .val (.int (F1 (1 : Int32) (p3 &&& (1073741823 : Int32)) (0 : Int32))), .val (.int (F1 (1 : Int32) (p4 &&& (1073741823 : Int32)) (0 : Int32))), .val (.int (F1 (1 : Int32) ((p3 &&& (1073741823 : Int32)) + (p4 &&& (1073741823 : Int32))) (0 : Int32))), .unset, .unset, .unset, .unset] [(.int (0 : Int32)), (.int (1 : Int32)), (.int (1 : Int32))])) rfl (by rw [hml]; rfl) (argsL := [(.int (1 : Int32)), (.int (1 : Int32)), (.int (0 : Int32))]) (rest := []) (lenOf pd_0_0 rfl) rfl (by show 2 * 0 + _ ≤ _; exact Nat.le_of_eq rfl) (hb hby at_59) (fun _ _ => ⟨rfl, e8, (by decide : 0 + 0 ≤ _), (by decide : 0 + 0 ≤ _)⟩)
  dsimp only [Pt.U, Pt.locs, Pt.cells, Pt.slots] at X11 l11 y11 z11 st11 hQ11
  subst l11 y11 z11
  obtain ⟨rfl, N11q, e11⟩ := hQ11
  have N11 := Fr.app N8 N11q
  refine OwnG.st (fun t k => st11 t k) ?_
  show OwnG p e below s _ _ _ T11 (mkF m 62 #[.val (.int p1), .val (.int p2), .val (.int p3), .val (.int p4), .val (.int (p3 &&& (1073741823 : Int32))), .val (.int (p4 &&& (1073741823 : Int32))), .val (.int ((p3 &&& (1073741823 : Int32)) + (p4 &&& (1073741823 : Int32)))), .val (.int (F1 (1 : Int32) (p3 &&& (1073741823 : Int32)) (0 : Int32))), .val (.int (F1 (1 : Int32) (p4 &&& (1073741823 : Int32)) (0 : Int32))), .val (.int (F1 (1 : Int32) ((p3 &&& (1073741823 : Int32)) + (p4 &&& (1073741823 : Int32))) (0 : Int32))), .unset, .unset, .unset, .unset] [(.int (F1 (1 : Int32) (1 : Int32) (0 : Int32)))])
  have hc64_12 : (F1 (1 : Int32) (1 : Int32) (0 : Int32)) = (31 : Int32) := by decide
  have hc81_13 : (F1 (1 : Int32) ((p3 &&& (1073741823 : Int32)) + (p4 &&& (1073741823 : Int32))) (0 : Int32)) = ((F1 (1 : Int32) (p3 &&& (1073741823 : Int32)) (0 : Int32)) * (F1 (1 : Int32) (p4 &&& (1073741823 : Int32)) (0 : Int32))) := own_mult _ _ (own_m30 _) (own_m30 _)
  have sg14 : ∀ t, Steps p.tables e below (T11.setTop (mkF m 95 #[.val (.int p1), .val (.int p2), .val (.int p3), .val (.int p4), .val (.int (p3 &&& (1073741823 : Int32))), .val (.int (p4 &&& (1073741823 : Int32))), .val (.int ((p3 &&& (1073741823 : Int32)) + (p4 &&& (1073741823 : Int32)))), .val (.int (F1 (1 : Int32) (p3 &&& (1073741823 : Int32)) (0 : Int32))), .val (.int (F1 (1 : Int32) (p4 &&& (1073741823 : Int32)) (0 : Int32))), .val (.int (F1 (1 : Int32) ((p3 &&& (1073741823 : Int32)) + (p4 &&& (1073741823 : Int32))) (0 : Int32))), .val (.int (1 : Int32)), .val (.int (1 : Int32)), .unset, .unset] [(.int p2), (.int (p3 &&& (1073741823 : Int32))), (.int p1)])) t → Steps p.tables e below (T11.setTop (mkF m 62 #[.val (.int p1), .val (.int p2), .val (.int p3), .val (.int p4), .val (.int (p3 &&& (1073741823 : Int32))), .val (.int (p4 &&& (1073741823 : Int32))), .val (.int ((p3 &&& (1073741823 : Int32)) + (p4 &&& (1073741823 : Int32)))), .val (.int (F1 (1 : Int32) (p3 &&& (1073741823 : Int32)) (0 : Int32))), .val (.int (F1 (1 : Int32) (p4 &&& (1073741823 : Int32)) (0 : Int32))), .val (.int (F1 (1 : Int32) ((p3 &&& (1073741823 : Int32)) + (p4 &&& (1073741823 : Int32))) (0 : Int32))), .unset, .unset, .unset, .unset] [(.int (F1 (1 : Int32) (1 : Int32) (0 : Int32)))])) t := by
    intro t k
    refine XS.bipush X11.here hx rfl (hb hby at_62) ?_
    show Steps p.tables e below (T11.setTop (mkF m 64 #[.val (.int p1), .val (.int p2), .val (.int p3), .val (.int p4), .val (.int (p3 &&& (1073741823 : Int32))), .val (.int (p4 &&& (1073741823 : Int32))), .val (.int ((p3 &&& (1073741823 : Int32)) + (p4 &&& (1073741823 : Int32)))), .val (.int (F1 (1 : Int32) (p3 &&& (1073741823 : Int32)) (0 : Int32))), .val (.int (F1 (1 : Int32) (p4 &&& (1073741823 : Int32)) (0 : Int32))), .val (.int (F1 (1 : Int32) ((p3 &&& (1073741823 : Int32)) + (p4 &&& (1073741823 : Int32))) (0 : Int32))), .unset, .unset, .unset, .unset] [(.int (31 : Int32)), (.int (F1 (1 : Int32) (1 : Int32) (0 : Int32)))])) _
    refine XS.icmpNo X11.here hx rfl (hb hby at_64) rfl (teq hc64_12).2 ?_
    show Steps p.tables e below (T11.setTop (mkF m 67 #[.val (.int p1), .val (.int p2), .val (.int p3), .val (.int p4), .val (.int (p3 &&& (1073741823 : Int32))), .val (.int (p4 &&& (1073741823 : Int32))), .val (.int ((p3 &&& (1073741823 : Int32)) + (p4 &&& (1073741823 : Int32)))), .val (.int (F1 (1 : Int32) (p3 &&& (1073741823 : Int32)) (0 : Int32))), .val (.int (F1 (1 : Int32) (p4 &&& (1073741823 : Int32)) (0 : Int32))), .val (.int (F1 (1 : Int32) ((p3 &&& (1073741823 : Int32)) + (p4 &&& (1073741823 : Int32))) (0 : Int32))), .unset, .unset, .unset, .unset] [])) _
    refine XS.iconst X11.here hx rfl (hb hby at_67) ?_
    show Steps p.tables e below (T11.setTop (mkF m 68 #[.val (.int p1), .val (.int p2), .val (.int p3), .val (.int p4), .val (.int (p3 &&& (1073741823 : Int32))), .val (.int (p4 &&& (1073741823 : Int32))), .val (.int ((p3 &&& (1073741823 : Int32)) + (p4 &&& (1073741823 : Int32)))), .val (.int (F1 (1 : Int32) (p3 &&& (1073741823 : Int32)) (0 : Int32))), .val (.int (F1 (1 : Int32) (p4 &&& (1073741823 : Int32)) (0 : Int32))), .val (.int (F1 (1 : Int32) ((p3 &&& (1073741823 : Int32)) + (p4 &&& (1073741823 : Int32))) (0 : Int32))), .unset, .unset, .unset, .unset] [(.int (1 : Int32))])) _
    refine XS.goto X11.here hx rfl (pc0 := 68) (pc' := 72) rfl (hb hby at_68) (by decide) (by decide) ?_
    show Steps p.tables e below (T11.setTop (mkF m 72 #[.val (.int p1), .val (.int p2), .val (.int p3), .val (.int p4), .val (.int (p3 &&& (1073741823 : Int32))), .val (.int (p4 &&& (1073741823 : Int32))), .val (.int ((p3 &&& (1073741823 : Int32)) + (p4 &&& (1073741823 : Int32)))), .val (.int (F1 (1 : Int32) (p3 &&& (1073741823 : Int32)) (0 : Int32))), .val (.int (F1 (1 : Int32) (p4 &&& (1073741823 : Int32)) (0 : Int32))), .val (.int (F1 (1 : Int32) ((p3 &&& (1073741823 : Int32)) + (p4 &&& (1073741823 : Int32))) (0 : Int32))), .unset, .unset, .unset, .unset] [(.int (1 : Int32))])) _
    refine XS.istore X11.here hx rfl (hb hby at_72) rfl (l' := #[.val (.int p1), .val (.int p2), .val (.int p3), .val (.int p4), .val (.int (p3 &&& (1073741823 : Int32))), .val (.int (p4 &&& (1073741823 : Int32))), .val (.int ((p3 &&& (1073741823 : Int32)) + (p4 &&& (1073741823 : Int32)))), .val (.int (F1 (1 : Int32) (p3 &&& (1073741823 : Int32)) (0 : Int32))), .val (.int (F1 (1 : Int32) (p4 &&& (1073741823 : Int32)) (0 : Int32))), .val (.int (F1 (1 : Int32) ((p3 &&& (1073741823 : Int32)) + (p4 &&& (1073741823 : Int32))) (0 : Int32))), .val (.int (1 : Int32)), .unset, .unset, .unset]) rfl ?_
    show Steps p.tables e below (T11.setTop (mkF m 74 #[.val (.int p1), .val (.int p2), .val (.int p3), .val (.int p4), .val (.int (p3 &&& (1073741823 : Int32))), .val (.int (p4 &&& (1073741823 : Int32))), .val (.int ((p3 &&& (1073741823 : Int32)) + (p4 &&& (1073741823 : Int32)))), .val (.int (F1 (1 : Int32) (p3 &&& (1073741823 : Int32)) (0 : Int32))), .val (.int (F1 (1 : Int32) (p4 &&& (1073741823 : Int32)) (0 : Int32))), .val (.int (F1 (1 : Int32) ((p3 &&& (1073741823 : Int32)) + (p4 &&& (1073741823 : Int32))) (0 : Int32))), .val (.int (1 : Int32)), .unset, .unset, .unset] [])) _
    refine XS.iload X11.here hx rfl (hb hby at_74) rfl ?_
    show Steps p.tables e below (T11.setTop (mkF m 76 #[.val (.int p1), .val (.int p2), .val (.int p3), .val (.int p4), .val (.int (p3 &&& (1073741823 : Int32))), .val (.int (p4 &&& (1073741823 : Int32))), .val (.int ((p3 &&& (1073741823 : Int32)) + (p4 &&& (1073741823 : Int32)))), .val (.int (F1 (1 : Int32) (p3 &&& (1073741823 : Int32)) (0 : Int32))), .val (.int (F1 (1 : Int32) (p4 &&& (1073741823 : Int32)) (0 : Int32))), .val (.int (F1 (1 : Int32) ((p3 &&& (1073741823 : Int32)) + (p4 &&& (1073741823 : Int32))) (0 : Int32))), .val (.int (1 : Int32)), .unset, .unset, .unset] [(.int (F1 (1 : Int32) ((p3 &&& (1073741823 : Int32)) + (p4 &&& (1073741823 : Int32))) (0 : Int32)))])) _
    refine XS.iload X11.here hx rfl (hb hby at_76) rfl ?_
    show Steps p.tables e below (T11.setTop (mkF m 78 #[.val (.int p1), .val (.int p2), .val (.int p3), .val (.int p4), .val (.int (p3 &&& (1073741823 : Int32))), .val (.int (p4 &&& (1073741823 : Int32))), .val (.int ((p3 &&& (1073741823 : Int32)) + (p4 &&& (1073741823 : Int32)))), .val (.int (F1 (1 : Int32) (p3 &&& (1073741823 : Int32)) (0 : Int32))), .val (.int (F1 (1 : Int32) (p4 &&& (1073741823 : Int32)) (0 : Int32))), .val (.int (F1 (1 : Int32) ((p3 &&& (1073741823 : Int32)) + (p4 &&& (1073741823 : Int32))) (0 : Int32))), .val (.int (1 : Int32)), .unset, .unset, .unset] [(.int (F1 (1 : Int32) (p3 &&& (1073741823 : Int32)) (0 : Int32))), (.int (F1 (1 : Int32) ((p3 &&& (1073741823 : Int32)) + (p4 &&& (1073741823 : Int32))) (0 : Int32)))])) _
    refine XS.iload X11.here hx rfl (hb hby at_78) rfl ?_
    show Steps p.tables e below (T11.setTop (mkF m 80 #[.val (.int p1), .val (.int p2), .val (.int p3), .val (.int p4), .val (.int (p3 &&& (1073741823 : Int32))), .val (.int (p4 &&& (1073741823 : Int32))), .val (.int ((p3 &&& (1073741823 : Int32)) + (p4 &&& (1073741823 : Int32)))), .val (.int (F1 (1 : Int32) (p3 &&& (1073741823 : Int32)) (0 : Int32))), .val (.int (F1 (1 : Int32) (p4 &&& (1073741823 : Int32)) (0 : Int32))), .val (.int (F1 (1 : Int32) ((p3 &&& (1073741823 : Int32)) + (p4 &&& (1073741823 : Int32))) (0 : Int32))), .val (.int (1 : Int32)), .unset, .unset, .unset] [(.int (F1 (1 : Int32) (p4 &&& (1073741823 : Int32)) (0 : Int32))), (.int (F1 (1 : Int32) (p3 &&& (1073741823 : Int32)) (0 : Int32))), (.int (F1 (1 : Int32) ((p3 &&& (1073741823 : Int32)) + (p4 &&& (1073741823 : Int32))) (0 : Int32)))])) _
    refine XS.imul X11.here hx rfl (hb hby at_80) rfl ?_
    show Steps p.tables e below (T11.setTop (mkF m 81 #[.val (.int p1), .val (.int p2), .val (.int p3), .val (.int p4), .val (.int (p3 &&& (1073741823 : Int32))), .val (.int (p4 &&& (1073741823 : Int32))), .val (.int ((p3 &&& (1073741823 : Int32)) + (p4 &&& (1073741823 : Int32)))), .val (.int (F1 (1 : Int32) (p3 &&& (1073741823 : Int32)) (0 : Int32))), .val (.int (F1 (1 : Int32) (p4 &&& (1073741823 : Int32)) (0 : Int32))), .val (.int (F1 (1 : Int32) ((p3 &&& (1073741823 : Int32)) + (p4 &&& (1073741823 : Int32))) (0 : Int32))), .val (.int (1 : Int32)), .unset, .unset, .unset] [(.int ((F1 (1 : Int32) (p3 &&& (1073741823 : Int32)) (0 : Int32)) * (F1 (1 : Int32) (p4 &&& (1073741823 : Int32)) (0 : Int32)))), (.int (F1 (1 : Int32) ((p3 &&& (1073741823 : Int32)) + (p4 &&& (1073741823 : Int32))) (0 : Int32)))])) _
    refine XS.icmpNo X11.here hx rfl (hb hby at_81) rfl (teq hc81_13).2 ?_
    show Steps p.tables e below (T11.setTop (mkF m 84 #[.val (.int p1), .val (.int p2), .val (.int p3), .val (.int p4), .val (.int (p3 &&& (1073741823 : Int32))), .val (.int (p4 &&& (1073741823 : Int32))), .val (.int ((p3 &&& (1073741823 : Int32)) + (p4 &&& (1073741823 : Int32)))), .val (.int (F1 (1 : Int32) (p3 &&& (1073741823 : Int32)) (0 : Int32))), .val (.int (F1 (1 : Int32) (p4 &&& (1073741823 : Int32)) (0 : Int32))), .val (.int (F1 (1 : Int32) ((p3 &&& (1073741823 : Int32)) + (p4 &&& (1073741823 : Int32))) (0 : Int32))), .val (.int (1 : Int32)), .unset, .unset, .unset] [])) _
    refine XS.iconst X11.here hx rfl (hb hby at_84) ?_
    show Steps p.tables e below (T11.setTop (mkF m 85 #[.val (.int p1), .val (.int p2), .val (.int p3), .val (.int p4), .val (.int (p3 &&& (1073741823 : Int32))), .val (.int (p4 &&& (1073741823 : Int32))), .val (.int ((p3 &&& (1073741823 : Int32)) + (p4 &&& (1073741823 : Int32)))), .val (.int (F1 (1 : Int32) (p3 &&& (1073741823 : Int32)) (0 : Int32))), .val (.int (F1 (1 : Int32) (p4 &&& (1073741823 : Int32)) (0 : Int32))), .val (.int (F1 (1 : Int32) ((p3 &&& (1073741823 : Int32)) + (p4 &&& (1073741823 : Int32))) (0 : Int32))), .val (.int (1 : Int32)), .unset, .unset, .unset] [(.int (1 : Int32))])) _
    refine XS.goto X11.here hx rfl (pc0 := 85) (pc' := 89) rfl (hb hby at_85) (by decide) (by decide) ?_
    show Steps p.tables e below (T11.setTop (mkF m 89 #[.val (.int p1), .val (.int p2), .val (.int p3), .val (.int p4), .val (.int (p3 &&& (1073741823 : Int32))), .val (.int (p4 &&& (1073741823 : Int32))), .val (.int ((p3 &&& (1073741823 : Int32)) + (p4 &&& (1073741823 : Int32)))), .val (.int (F1 (1 : Int32) (p3 &&& (1073741823 : Int32)) (0 : Int32))), .val (.int (F1 (1 : Int32) (p4 &&& (1073741823 : Int32)) (0 : Int32))), .val (.int (F1 (1 : Int32) ((p3 &&& (1073741823 : Int32)) + (p4 &&& (1073741823 : Int32))) (0 : Int32))), .val (.int (1 : Int32)), .unset, .unset, .unset] [(.int (1 : Int32))])) _
    refine XS.istore X11.here hx rfl (hb hby at_89) rfl (l' := #[.val (.int p1), .val (.int p2), .val (.int p3), .val (.int p4), .val (.int (p3 &&& (1073741823 : Int32))), .val (.int (p4 &&& (1073741823 : Int32))), .val (.int ((p3 &&& (1073741823 : Int32)) + (p4 &&& (1073741823 : Int32)))), .val (.int (F1 (1 : Int32) (p3 &&& (1073741823 : Int32)) (0 : Int32))), .val (.int (F1 (1 : Int32) (p4 &&& (1073741823 : Int32)) (0 : Int32))), .val (.int (F1 (1 : Int32) ((p3 &&& (1073741823 : Int32)) + (p4 &&& (1073741823 : Int32))) (0 : Int32))), .val (.int (1 : Int32)), .val (.int (1 : Int32)), .unset, .unset]) rfl ?_
    show Steps p.tables e below (T11.setTop (mkF m 91 #[.val (.int p1), .val (.int p2), .val (.int p3), .val (.int p4), .val (.int (p3 &&& (1073741823 : Int32))), .val (.int (p4 &&& (1073741823 : Int32))), .val (.int ((p3 &&& (1073741823 : Int32)) + (p4 &&& (1073741823 : Int32)))), .val (.int (F1 (1 : Int32) (p3 &&& (1073741823 : Int32)) (0 : Int32))), .val (.int (F1 (1 : Int32) (p4 &&& (1073741823 : Int32)) (0 : Int32))), .val (.int (F1 (1 : Int32) ((p3 &&& (1073741823 : Int32)) + (p4 &&& (1073741823 : Int32))) (0 : Int32))), .val (.int (1 : Int32)), .val (.int (1 : Int32)), .unset, .unset] [])) _
    refine XS.iloadN X11.here hx rfl (hb hby at_91) rfl ?_
    show Steps p.tables e below (T11.setTop (mkF m 92 #[.val (.int p1), .val (.int p2), .val (.int p3), .val (.int p4), .val (.int (p3 &&& (1073741823 : Int32))), .val (.int (p4 &&& (1073741823 : Int32))), .val (.int ((p3 &&& (1073741823 : Int32)) + (p4 &&& (1073741823 : Int32)))), .val (.int (F1 (1 : Int32) (p3 &&& (1073741823 : Int32)) (0 : Int32))), .val (.int (F1 (1 : Int32) (p4 &&& (1073741823 : Int32)) (0 : Int32))), .val (.int (F1 (1 : Int32) ((p3 &&& (1073741823 : Int32)) + (p4 &&& (1073741823 : Int32))) (0 : Int32))), .val (.int (1 : Int32)), .val (.int (1 : Int32)), .unset, .unset] [(.int p1)])) _
    refine XS.iload X11.here hx rfl (hb hby at_92) rfl ?_
    show Steps p.tables e below (T11.setTop (mkF m 94 #[.val (.int p1), .val (.int p2), .val (.int p3), .val (.int p4), .val (.int (p3 &&& (1073741823 : Int32))), .val (.int (p4 &&& (1073741823 : Int32))), .val (.int ((p3 &&& (1073741823 : Int32)) + (p4 &&& (1073741823 : Int32)))), .val (.int (F1 (1 : Int32) (p3 &&& (1073741823 : Int32)) (0 : Int32))), .val (.int (F1 (1 : Int32) (p4 &&& (1073741823 : Int32)) (0 : Int32))), .val (.int (F1 (1 : Int32) ((p3 &&& (1073741823 : Int32)) + (p4 &&& (1073741823 : Int32))) (0 : Int32))), .val (.int (1 : Int32)), .val (.int (1 : Int32)), .unset, .unset] [(.int (p3 &&& (1073741823 : Int32))), (.int p1)])) _
    refine XS.iloadN X11.here hx rfl (hb hby at_94) rfl ?_
    show Steps p.tables e below (T11.setTop (mkF m 95 #[.val (.int p1), .val (.int p2), .val (.int p3), .val (.int p4), .val (.int (p3 &&& (1073741823 : Int32))), .val (.int (p4 &&& (1073741823 : Int32))), .val (.int ((p3 &&& (1073741823 : Int32)) + (p4 &&& (1073741823 : Int32)))), .val (.int (F1 (1 : Int32) (p3 &&& (1073741823 : Int32)) (0 : Int32))), .val (.int (F1 (1 : Int32) (p4 &&& (1073741823 : Int32)) (0 : Int32))), .val (.int (F1 (1 : Int32) ((p3 &&& (1073741823 : Int32)) + (p4 &&& (1073741823 : Int32))) (0 : Int32))), .val (.int (1 : Int32)), .val (.int (1 : Int32)), .unset, .unset] [(.int p2), (.int (p3 &&& (1073741823 : Int32))), (.int p1)])) _
    exact k
  refine OwnG.st sg14 ?_
  obtain ⟨_, _, ⟨T15, L15, k15, n15⟩, -, X15, ⟨Lc15, hQ15, l15, y15, z15⟩, st15⟩ := Jvm.LawKit.callS X11 hx (y := (⟨"com/example/emberwire/emberwire/Ids", "append", "(III)I"⟩ : MethodName)) hown (mvT hZ (hw _ (List.mem_of_getElem? (i := 1) rfl))) (mvT hZ (hw _ (List.mem_of_getElem? (i := 2) rfl))) (mvT hZ (hw _ (List.mem_of_getElem? (i := 3) rfl))) (mvT hZ (hw _ (List.mem_of_getElem? (i := 4) rfl))) (by decide) (backOf (W := 0) (rm1 l Z a0 hw [] p1 (p3 &&& (1073741823 : Int32)) p2  h0 n0 Z0 ) hZ (hw _ (List.mem_of_getElem? (i := 4) rfl)) (hw _ (List.mem_of_getElem? (i := 3) rfl)) (by decide) (by decide)) (g := (mkF m 95 #[.val (.int p1), .val (.int p2), .val (.int p3), .val (.int p4), .val (.int (p3 &&& (1073741823 : Int32))), .val (.int (p4 &&& (1073741823 : Int32))), .val (.int ((p3 &&& (1073741823 : Int32)) + (p4 &&& (1073741823 : Int32)))), .val (.int (F1 (1 : Int32) (p3 &&& (1073741823 : Int32)) (0 : Int32))), .val (.int (F1 (1 : Int32) (p4 &&& (1073741823 : Int32)) (0 : Int32))), .val (.int (F1 (1 : Int32) ((p3 &&& (1073741823 : Int32)) + (p4 &&& (1073741823 : Int32))) (0 : Int32))), .val (.int (1 : Int32)), .val (.int (1 : Int32)), .unset, .unset] [(.int p2), (.int (p3 &&& (1073741823 : Int32))), (.int p1)])) rfl (by rw [hml]; rfl) (argsL := [(.int p1), (.int (p3 &&& (1073741823 : Int32))), (.int p2)]) (rest := []) (lenOf pd_0_0 rfl) rfl (by show 2 * 0 + _ ≤ _; exact Nat.le_of_eq rfl) (hb hby at_95) (fun _ _ => ⟨rfl, e11, (by decide : 0 + 0 ≤ _), (by decide : 0 + 0 ≤ _)⟩)
  dsimp only [Pt.U, Pt.locs, Pt.cells, Pt.slots] at X15 l15 y15 z15 st15 hQ15
  subst l15 y15 z15
  obtain ⟨rfl, N15q, e15⟩ := hQ15
  have N15 := Fr.app N11 N15q
  refine OwnG.st (fun t k => st15 t k) ?_
  show OwnG p e below s _ _ _ T15 (mkF m 98 #[.val (.int p1), .val (.int p2), .val (.int p3), .val (.int p4), .val (.int (p3 &&& (1073741823 : Int32))), .val (.int (p4 &&& (1073741823 : Int32))), .val (.int ((p3 &&& (1073741823 : Int32)) + (p4 &&& (1073741823 : Int32)))), .val (.int (F1 (1 : Int32) (p3 &&& (1073741823 : Int32)) (0 : Int32))), .val (.int (F1 (1 : Int32) (p4 &&& (1073741823 : Int32)) (0 : Int32))), .val (.int (F1 (1 : Int32) ((p3 &&& (1073741823 : Int32)) + (p4 &&& (1073741823 : Int32))) (0 : Int32))), .val (.int (1 : Int32)), .val (.int (1 : Int32)), .unset, .unset] [(.int (F1 p1 (p3 &&& (1073741823 : Int32)) p2))])
  have hc104_16 : (F1 p1 (p3 &&& (1073741823 : Int32)) p2) = ((p1 * (F1 (1 : Int32) (p3 &&& (1073741823 : Int32)) (0 : Int32))) + p2) := own_form _ _ _
  have sg17 : ∀ t, Steps p.tables e below (T15.setTop (mkF m 118 #[.val (.int p1), .val (.int p2), .val (.int p3), .val (.int p4), .val (.int (p3 &&& (1073741823 : Int32))), .val (.int (p4 &&& (1073741823 : Int32))), .val (.int ((p3 &&& (1073741823 : Int32)) + (p4 &&& (1073741823 : Int32)))), .val (.int (F1 (1 : Int32) (p3 &&& (1073741823 : Int32)) (0 : Int32))), .val (.int (F1 (1 : Int32) (p4 &&& (1073741823 : Int32)) (0 : Int32))), .val (.int (F1 (1 : Int32) ((p3 &&& (1073741823 : Int32)) + (p4 &&& (1073741823 : Int32))) (0 : Int32))), .val (.int (1 : Int32)), .val (.int (1 : Int32)), .val (.int (1 : Int32)), .unset] [(.int p2), (.int ((p3 &&& (1073741823 : Int32)) + (p4 &&& (1073741823 : Int32)))), (.int p1)])) t → Steps p.tables e below (T15.setTop (mkF m 98 #[.val (.int p1), .val (.int p2), .val (.int p3), .val (.int p4), .val (.int (p3 &&& (1073741823 : Int32))), .val (.int (p4 &&& (1073741823 : Int32))), .val (.int ((p3 &&& (1073741823 : Int32)) + (p4 &&& (1073741823 : Int32)))), .val (.int (F1 (1 : Int32) (p3 &&& (1073741823 : Int32)) (0 : Int32))), .val (.int (F1 (1 : Int32) (p4 &&& (1073741823 : Int32)) (0 : Int32))), .val (.int (F1 (1 : Int32) ((p3 &&& (1073741823 : Int32)) + (p4 &&& (1073741823 : Int32))) (0 : Int32))), .val (.int (1 : Int32)), .val (.int (1 : Int32)), .unset, .unset] [(.int (F1 p1 (p3 &&& (1073741823 : Int32)) p2))])) t := by
    intro t k
    refine XS.iloadN X15.here hx rfl (hb hby at_98) rfl ?_
    show Steps p.tables e below (T15.setTop (mkF m 99 #[.val (.int p1), .val (.int p2), .val (.int p3), .val (.int p4), .val (.int (p3 &&& (1073741823 : Int32))), .val (.int (p4 &&& (1073741823 : Int32))), .val (.int ((p3 &&& (1073741823 : Int32)) + (p4 &&& (1073741823 : Int32)))), .val (.int (F1 (1 : Int32) (p3 &&& (1073741823 : Int32)) (0 : Int32))), .val (.int (F1 (1 : Int32) (p4 &&& (1073741823 : Int32)) (0 : Int32))), .val (.int (F1 (1 : Int32) ((p3 &&& (1073741823 : Int32)) + (p4 &&& (1073741823 : Int32))) (0 : Int32))), .val (.int (1 : Int32)), .val (.int (1 : Int32)), .unset, .unset] [(.int p1), (.int (F1 p1 (p3 &&& (1073741823 : Int32)) p2))])) _
    refine XS.iload X15.here hx rfl (hb hby at_99) rfl ?_
    show Steps p.tables e below (T15.setTop (mkF m 101 #[.val (.int p1), .val (.int p2), .val (.int p3), .val (.int p4), .val (.int (p3 &&& (1073741823 : Int32))), .val (.int (p4 &&& (1073741823 : Int32))), .val (.int ((p3 &&& (1073741823 : Int32)) + (p4 &&& (1073741823 : Int32)))), .val (.int (F1 (1 : Int32) (p3 &&& (1073741823 : Int32)) (0 : Int32))), .val (.int (F1 (1 : Int32) (p4 &&& (1073741823 : Int32)) (0 : Int32))), .val (.int (F1 (1 : Int32) ((p3 &&& (1073741823 : Int32)) + (p4 &&& (1073741823 : Int32))) (0 : Int32))), .val (.int (1 : Int32)), .val (.int (1 : Int32)), .unset, .unset] [(.int (F1 (1 : Int32) (p3 &&& (1073741823 : Int32)) (0 : Int32))), (.int p1), (.int (F1 p1 (p3 &&& (1073741823 : Int32)) p2))])) _
    refine XS.imul X15.here hx rfl (hb hby at_101) rfl ?_
    show Steps p.tables e below (T15.setTop (mkF m 102 #[.val (.int p1), .val (.int p2), .val (.int p3), .val (.int p4), .val (.int (p3 &&& (1073741823 : Int32))), .val (.int (p4 &&& (1073741823 : Int32))), .val (.int ((p3 &&& (1073741823 : Int32)) + (p4 &&& (1073741823 : Int32)))), .val (.int (F1 (1 : Int32) (p3 &&& (1073741823 : Int32)) (0 : Int32))), .val (.int (F1 (1 : Int32) (p4 &&& (1073741823 : Int32)) (0 : Int32))), .val (.int (F1 (1 : Int32) ((p3 &&& (1073741823 : Int32)) + (p4 &&& (1073741823 : Int32))) (0 : Int32))), .val (.int (1 : Int32)), .val (.int (1 : Int32)), .unset, .unset] [(.int (p1 * (F1 (1 : Int32) (p3 &&& (1073741823 : Int32)) (0 : Int32)))), (.int (F1 p1 (p3 &&& (1073741823 : Int32)) p2))])) _
    refine XS.iloadN X15.here hx rfl (hb hby at_102) rfl ?_
    show Steps p.tables e below (T15.setTop (mkF m 103 #[.val (.int p1), .val (.int p2), .val (.int p3), .val (.int p4), .val (.int (p3 &&& (1073741823 : Int32))), .val (.int (p4 &&& (1073741823 : Int32))), .val (.int ((p3 &&& (1073741823 : Int32)) + (p4 &&& (1073741823 : Int32)))), .val (.int (F1 (1 : Int32) (p3 &&& (1073741823 : Int32)) (0 : Int32))), .val (.int (F1 (1 : Int32) (p4 &&& (1073741823 : Int32)) (0 : Int32))), .val (.int (F1 (1 : Int32) ((p3 &&& (1073741823 : Int32)) + (p4 &&& (1073741823 : Int32))) (0 : Int32))), .val (.int (1 : Int32)), .val (.int (1 : Int32)), .unset, .unset] [(.int p2), (.int (p1 * (F1 (1 : Int32) (p3 &&& (1073741823 : Int32)) (0 : Int32)))), (.int (F1 p1 (p3 &&& (1073741823 : Int32)) p2))])) _
    refine XS.iadd X15.here hx rfl (hb hby at_103) rfl ?_
    show Steps p.tables e below (T15.setTop (mkF m 104 #[.val (.int p1), .val (.int p2), .val (.int p3), .val (.int p4), .val (.int (p3 &&& (1073741823 : Int32))), .val (.int (p4 &&& (1073741823 : Int32))), .val (.int ((p3 &&& (1073741823 : Int32)) + (p4 &&& (1073741823 : Int32)))), .val (.int (F1 (1 : Int32) (p3 &&& (1073741823 : Int32)) (0 : Int32))), .val (.int (F1 (1 : Int32) (p4 &&& (1073741823 : Int32)) (0 : Int32))), .val (.int (F1 (1 : Int32) ((p3 &&& (1073741823 : Int32)) + (p4 &&& (1073741823 : Int32))) (0 : Int32))), .val (.int (1 : Int32)), .val (.int (1 : Int32)), .unset, .unset] [(.int ((p1 * (F1 (1 : Int32) (p3 &&& (1073741823 : Int32)) (0 : Int32))) + p2)), (.int (F1 p1 (p3 &&& (1073741823 : Int32)) p2))])) _
    refine XS.icmpNo X15.here hx rfl (hb hby at_104) rfl (teq hc104_16).2 ?_
    show Steps p.tables e below (T15.setTop (mkF m 107 #[.val (.int p1), .val (.int p2), .val (.int p3), .val (.int p4), .val (.int (p3 &&& (1073741823 : Int32))), .val (.int (p4 &&& (1073741823 : Int32))), .val (.int ((p3 &&& (1073741823 : Int32)) + (p4 &&& (1073741823 : Int32)))), .val (.int (F1 (1 : Int32) (p3 &&& (1073741823 : Int32)) (0 : Int32))), .val (.int (F1 (1 : Int32) (p4 &&& (1073741823 : Int32)) (0 : Int32))), .val (.int (F1 (1 : Int32) ((p3 &&& (1073741823 : Int32)) + (p4 &&& (1073741823 : Int32))) (0 : Int32))), .val (.int (1 : Int32)), .val (.int (1 : Int32)), .unset, .unset] [])) _
    refine XS.iconst X15.here hx rfl (hb hby at_107) ?_
    show Steps p.tables e below (T15.setTop (mkF m 108 #[.val (.int p1), .val (.int p2), .val (.int p3), .val (.int p4), .val (.int (p3 &&& (1073741823 : Int32))), .val (.int (p4 &&& (1073741823 : Int32))), .val (.int ((p3 &&& (1073741823 : Int32)) + (p4 &&& (1073741823 : Int32)))), .val (.int (F1 (1 : Int32) (p3 &&& (1073741823 : Int32)) (0 : Int32))), .val (.int (F1 (1 : Int32) (p4 &&& (1073741823 : Int32)) (0 : Int32))), .val (.int (F1 (1 : Int32) ((p3 &&& (1073741823 : Int32)) + (p4 &&& (1073741823 : Int32))) (0 : Int32))), .val (.int (1 : Int32)), .val (.int (1 : Int32)), .unset, .unset] [(.int (1 : Int32))])) _
    refine XS.goto X15.here hx rfl (pc0 := 108) (pc' := 112) rfl (hb hby at_108) (by decide) (by decide) ?_
    show Steps p.tables e below (T15.setTop (mkF m 112 #[.val (.int p1), .val (.int p2), .val (.int p3), .val (.int p4), .val (.int (p3 &&& (1073741823 : Int32))), .val (.int (p4 &&& (1073741823 : Int32))), .val (.int ((p3 &&& (1073741823 : Int32)) + (p4 &&& (1073741823 : Int32)))), .val (.int (F1 (1 : Int32) (p3 &&& (1073741823 : Int32)) (0 : Int32))), .val (.int (F1 (1 : Int32) (p4 &&& (1073741823 : Int32)) (0 : Int32))), .val (.int (F1 (1 : Int32) ((p3 &&& (1073741823 : Int32)) + (p4 &&& (1073741823 : Int32))) (0 : Int32))), .val (.int (1 : Int32)), .val (.int (1 : Int32)), .unset, .unset] [(.int (1 : Int32))])) _
    refine XS.istore X15.here hx rfl (hb hby at_112) rfl (l' := #[.val (.int p1), .val (.int p2), .val (.int p3), .val (.int p4), .val (.int (p3 &&& (1073741823 : Int32))), .val (.int (p4 &&& (1073741823 : Int32))), .val (.int ((p3 &&& (1073741823 : Int32)) + (p4 &&& (1073741823 : Int32)))), .val (.int (F1 (1 : Int32) (p3 &&& (1073741823 : Int32)) (0 : Int32))), .val (.int (F1 (1 : Int32) (p4 &&& (1073741823 : Int32)) (0 : Int32))), .val (.int (F1 (1 : Int32) ((p3 &&& (1073741823 : Int32)) + (p4 &&& (1073741823 : Int32))) (0 : Int32))), .val (.int (1 : Int32)), .val (.int (1 : Int32)), .val (.int (1 : Int32)), .unset]) rfl ?_
    show Steps p.tables e below (T15.setTop (mkF m 114 #[.val (.int p1), .val (.int p2), .val (.int p3), .val (.int p4), .val (.int (p3 &&& (1073741823 : Int32))), .val (.int (p4 &&& (1073741823 : Int32))), .val (.int ((p3 &&& (1073741823 : Int32)) + (p4 &&& (1073741823 : Int32)))), .val (.int (F1 (1 : Int32) (p3 &&& (1073741823 : Int32)) (0 : Int32))), .val (.int (F1 (1 : Int32) (p4 &&& (1073741823 : Int32)) (0 : Int32))), .val (.int (F1 (1 : Int32) ((p3 &&& (1073741823 : Int32)) + (p4 &&& (1073741823 : Int32))) (0 : Int32))), .val (.int (1 : Int32)), .val (.int (1 : Int32)), .val (.int (1 : Int32)), .unset] [])) _
    refine XS.iloadN X15.here hx rfl (hb hby at_114) rfl ?_
    show Steps p.tables e below (T15.setTop (mkF m 115 #[.val (.int p1), .val (.int p2), .val (.int p3), .val (.int p4), .val (.int (p3 &&& (1073741823 : Int32))), .val (.int (p4 &&& (1073741823 : Int32))), .val (.int ((p3 &&& (1073741823 : Int32)) + (p4 &&& (1073741823 : Int32)))), .val (.int (F1 (1 : Int32) (p3 &&& (1073741823 : Int32)) (0 : Int32))), .val (.int (F1 (1 : Int32) (p4 &&& (1073741823 : Int32)) (0 : Int32))), .val (.int (F1 (1 : Int32) ((p3 &&& (1073741823 : Int32)) + (p4 &&& (1073741823 : Int32))) (0 : Int32))), .val (.int (1 : Int32)), .val (.int (1 : Int32)), .val (.int (1 : Int32)), .unset] [(.int p1)])) _
    refine XS.iload X15.here hx rfl (hb hby at_115) rfl ?_
    show Steps p.tables e below (T15.setTop (mkF m 117 #[.val (.int p1), .val (.int p2), .val (.int p3), .val (.int p4), .val (.int (p3 &&& (1073741823 : Int32))), .val (.int (p4 &&& (1073741823 : Int32))), .val (.int ((p3 &&& (1073741823 : Int32)) + (p4 &&& (1073741823 : Int32)))), .val (.int (F1 (1 : Int32) (p3 &&& (1073741823 : Int32)) (0 : Int32))), .val (.int (F1 (1 : Int32) (p4 &&& (1073741823 : Int32)) (0 : Int32))), .val (.int (F1 (1 : Int32) ((p3 &&& (1073741823 : Int32)) + (p4 &&& (1073741823 : Int32))) (0 : Int32))), .val (.int (1 : Int32)), .val (.int (1 : Int32)), .val (.int (1 : Int32)), .unset] [(.int ((p3 &&& (1073741823 : Int32)) + (p4 &&& (1073741823 : Int32)))), (.int p1)])) _
    refine XS.iloadN X15.here hx rfl (hb hby at_117) rfl ?_
    show Steps p.tables e below (T15.setTop (mkF m 118 #[.val (.int p1), .val (.int p2), .val (.int p3), .val (.int p4), .val (.int (p3 &&& (1073741823 : Int32))), .val (.int (p4 &&& (1073741823 : Int32))), .val (.int ((p3 &&& (1073741823 : Int32)) + (p4 &&& (1073741823 : Int32)))), .val (.int (F1 (1 : Int32) (p3 &&& (1073741823 : Int32)) (0 : Int32))), .val (.int (F1 (1 : Int32) (p4 &&& (1073741823 : Int32)) (0 : Int32))), .val (.int (F1 (1 : Int32) ((p3 &&& (1073741823 : Int32)) + (p4 &&& (1073741823 : Int32))) (0 : Int32))), .val (.int (1 : Int32)), .val (.int (1 : Int32)), .val (.int (1 : Int32)), .unset] [(.int p2), (.int ((p3 &&& (1073741823 : Int32)) + (p4 &&& (1073741823 : Int32)))), (.int p1)])) _
    exact k
  refine OwnG.st sg17 ?_
  obtain ⟨_, _, ⟨T18, L18, k18, n18⟩, -, X18, ⟨Lc18, hQ18, l18, y18, z18⟩, st18⟩ := Jvm.LawKit.callS X15 hx (y := (⟨"com/example/emberwire/emberwire/Ids", "append", "(III)I"⟩ : MethodName)) hown (mvT hZ (hw _ (List.mem_of_getElem? (i := 1) rfl))) (mvT hZ (hw _ (List.mem_of_getElem? (i := 2) rfl))) (mvT hZ (hw _ (List.mem_of_getElem? (i := 3) rfl))) (mvT hZ (hw _ (List.mem_of_getElem? (i := 4) rfl))) (by decide) (backOf (W := 0) (rm1 l Z a0 hw [] p1 ((p3 &&& (1073741823 : Int32)) + (p4 &&& (1073741823 : Int32))) p2  h0 n0 Z0 ) hZ (hw _ (List.mem_of_getElem? (i := 4) rfl)) (hw _ (List.mem_of_getElem? (i := 3) rfl)) (by decide) (by decide)) (g := (mkF m 118 #[.val (.int p1), .val (.int p2), .val (.int p3), .val (.int p4), .val (.int (p3 &&& (1073741823 : Int32))), .val (.int (p4 &&& (1073741823 : Int32))), .val (.int ((p3 &&& (1073741823 : Int32)) + (p4 &&& (1073741823 : Int32)))), .val (.int (F1 (1 : Int32) (p3 &&& (1073741823 : Int32)) (0 : Int32))), .val (.int (F1 (1 : Int32) (p4 &&& (1073741823 : Int32)) (0 : Int32))), .val (.int (F1 (1 : Int32) ((p3 &&& (1073741823 : Int32)) + (p4 &&& (1073741823 : Int32))) (0 : Int32))), .val (.int (1 : Int32)), .val (.int (1 : Int32)), .val (.int (1 : Int32)), .unset] [(.int p2), (.int ((p3 &&& (1073741823 : Int32)) + (p4 &&& (1073741823 : Int32)))), (.int p1)])) rfl (by rw [hml]; rfl) (argsL := [(.int p1), (.int ((p3 &&& (1073741823 : Int32)) + (p4 &&& (1073741823 : Int32)))), (.int p2)]) (rest := []) (lenOf pd_0_0 rfl) rfl (by show 2 * 0 + _ ≤ _; exact Nat.le_of_eq rfl) (hb hby at_118) (fun _ _ => ⟨rfl, e15, (by decide : 0 + 0 ≤ _), (by decide : 0 + 0 ≤ _)⟩)
  dsimp only [Pt.U, Pt.locs, Pt.cells, Pt.slots] at X18 l18 y18 z18 st18 hQ18
  subst l18 y18 z18
  obtain ⟨rfl, N18q, e18⟩ := hQ18
  have N18 := Fr.app N15 N18q
  refine OwnG.st (fun t k => st18 t k) ?_
  show OwnG p e below s _ _ _ T18 (mkF m 121 #[.val (.int p1), .val (.int p2), .val (.int p3), .val (.int p4), .val (.int (p3 &&& (1073741823 : Int32))), .val (.int (p4 &&& (1073741823 : Int32))), .val (.int ((p3 &&& (1073741823 : Int32)) + (p4 &&& (1073741823 : Int32)))), .val (.int (F1 (1 : Int32) (p3 &&& (1073741823 : Int32)) (0 : Int32))), .val (.int (F1 (1 : Int32) (p4 &&& (1073741823 : Int32)) (0 : Int32))), .val (.int (F1 (1 : Int32) ((p3 &&& (1073741823 : Int32)) + (p4 &&& (1073741823 : Int32))) (0 : Int32))), .val (.int (1 : Int32)), .val (.int (1 : Int32)), .val (.int (1 : Int32)), .unset] [(.int (F1 p1 ((p3 &&& (1073741823 : Int32)) + (p4 &&& (1073741823 : Int32))) p2))])
  have hc127_19 : (F1 p1 ((p3 &&& (1073741823 : Int32)) + (p4 &&& (1073741823 : Int32))) p2) = ((p1 * (F1 (1 : Int32) ((p3 &&& (1073741823 : Int32)) + (p4 &&& (1073741823 : Int32))) (0 : Int32))) + p2) := own_form _ _ _
  have hc139_20 : ¬ ((1 : Int32) = (0 : Int32)) := by decide
  have hc144_21 : ¬ ((1 : Int32) = (0 : Int32)) := by decide
  have hc149_22 : ¬ ((1 : Int32) = (0 : Int32)) := by decide
  have hc154_23 : ¬ ((1 : Int32) = (0 : Int32)) := by decide
  have sg24 : ∀ t, Steps p.tables e below (T18.setTop (mkF m 162 #[.val (.int p1), .val (.int p2), .val (.int p3), .val (.int p4), .val (.int (p3 &&& (1073741823 : Int32))), .val (.int (p4 &&& (1073741823 : Int32))), .val (.int ((p3 &&& (1073741823 : Int32)) + (p4 &&& (1073741823 : Int32)))), .val (.int (F1 (1 : Int32) (p3 &&& (1073741823 : Int32)) (0 : Int32))), .val (.int (F1 (1 : Int32) (p4 &&& (1073741823 : Int32)) (0 : Int32))), .val (.int (F1 (1 : Int32) ((p3 &&& (1073741823 : Int32)) + (p4 &&& (1073741823 : Int32))) (0 : Int32))), .val (.int (1 : Int32)), .val (.int (1 : Int32)), .val (.int (1 : Int32)), .val (.int (1 : Int32))] [(.int (1 : Int32))])) t → Steps p.tables e below (T18.setTop (mkF m 121 #[.val (.int p1), .val (.int p2), .val (.int p3), .val (.int p4), .val (.int (p3 &&& (1073741823 : Int32))), .val (.int (p4 &&& (1073741823 : Int32))), .val (.int ((p3 &&& (1073741823 : Int32)) + (p4 &&& (1073741823 : Int32)))), .val (.int (F1 (1 : Int32) (p3 &&& (1073741823 : Int32)) (0 : Int32))), .val (.int (F1 (1 : Int32) (p4 &&& (1073741823 : Int32)) (0 : Int32))), .val (.int (F1 (1 : Int32) ((p3 &&& (1073741823 : Int32)) + (p4 &&& (1073741823 : Int32))) (0 : Int32))), .val (.int (1 : Int32)), .val (.int (1 : Int32)), .val (.int (1 : Int32)), .unset] [(.int (F1 p1 ((p3 &&& (1073741823 : Int32)) + (p4 &&& (1073741823 : Int32))) p2))])) t := by
    intro t k
    refine XS.iloadN X18.here hx rfl (hb hby at_121) rfl ?_
    show Steps p.tables e below (T18.setTop (mkF m 122 #[.val (.int p1), .val (.int p2), .val (.int p3), .val (.int p4), .val (.int (p3 &&& (1073741823 : Int32))), .val (.int (p4 &&& (1073741823 : Int32))), .val (.int ((p3 &&& (1073741823 : Int32)) + (p4 &&& (1073741823 : Int32)))), .val (.int (F1 (1 : Int32) (p3 &&& (1073741823 : Int32)) (0 : Int32))), .val (.int (F1 (1 : Int32) (p4 &&& (1073741823 : Int32)) (0 : Int32))), .val (.int (F1 (1 : Int32) ((p3 &&& (1073741823 : Int32)) + (p4 &&& (1073741823 : Int32))) (0 : Int32))), .val (.int (1 : Int32)), .val (.int (1 : Int32)), .val (.int (1 : Int32)), .unset] [(.int p1), (.int (F1 p1 ((p3 &&& (1073741823 : Int32)) + (p4 &&& (1073741823 : Int32))) p2))])) _
    refine XS.iload X18.here hx rfl (hb hby at_122) rfl ?_
    show Steps p.tables e below (T18.setTop (mkF m 124 #[.val (.int p1), .val (.int p2), .val (.int p3), .val (.int p4), .val (.int (p3 &&& (1073741823 : Int32))), .val (.int (p4 &&& (1073741823 : Int32))), .val (.int ((p3 &&& (1073741823 : Int32)) + (p4 &&& (1073741823 : Int32)))), .val (.int (F1 (1 : Int32) (p3 &&& (1073741823 : Int32)) (0 : Int32))), .val (.int (F1 (1 : Int32) (p4 &&& (1073741823 : Int32)) (0 : Int32))), .val (.int (F1 (1 : Int32) ((p3 &&& (1073741823 : Int32)) + (p4 &&& (1073741823 : Int32))) (0 : Int32))), .val (.int (1 : Int32)), .val (.int (1 : Int32)), .val (.int (1 : Int32)), .unset] [(.int (F1 (1 : Int32) ((p3 &&& (1073741823 : Int32)) + (p4 &&& (1073741823 : Int32))) (0 : Int32))), (.int p1), (.int (F1 p1 ((p3 &&& (1073741823 : Int32)) + (p4 &&& (1073741823 : Int32))) p2))])) _
    refine XS.imul X18.here hx rfl (hb hby at_124) rfl ?_
    show Steps p.tables e below (T18.setTop (mkF m 125 #[.val (.int p1), .val (.int p2), .val (.int p3), .val (.int p4), .val (.int (p3 &&& (1073741823 : Int32))), .val (.int (p4 &&& (1073741823 : Int32))), .val (.int ((p3 &&& (1073741823 : Int32)) + (p4 &&& (1073741823 : Int32)))), .val (.int (F1 (1 : Int32) (p3 &&& (1073741823 : Int32)) (0 : Int32))), .val (.int (F1 (1 : Int32) (p4 &&& (1073741823 : Int32)) (0 : Int32))), .val (.int (F1 (1 : Int32) ((p3 &&& (1073741823 : Int32)) + (p4 &&& (1073741823 : Int32))) (0 : Int32))), .val (.int (1 : Int32)), .val (.int (1 : Int32)), .val (.int (1 : Int32)), .unset] [(.int (p1 * (F1 (1 : Int32) ((p3 &&& (1073741823 : Int32)) + (p4 &&& (1073741823 : Int32))) (0 : Int32)))), (.int (F1 p1 ((p3 &&& (1073741823 : Int32)) + (p4 &&& (1073741823 : Int32))) p2))])) _
    refine XS.iloadN X18.here hx rfl (hb hby at_125) rfl ?_
    show Steps p.tables e below (T18.setTop (mkF m 126 #[.val (.int p1), .val (.int p2), .val (.int p3), .val (.int p4), .val (.int (p3 &&& (1073741823 : Int32))), .val (.int (p4 &&& (1073741823 : Int32))), .val (.int ((p3 &&& (1073741823 : Int32)) + (p4 &&& (1073741823 : Int32)))), .val (.int (F1 (1 : Int32) (p3 &&& (1073741823 : Int32)) (0 : Int32))), .val (.int (F1 (1 : Int32) (p4 &&& (1073741823 : Int32)) (0 : Int32))), .val (.int (F1 (1 : Int32) ((p3 &&& (1073741823 : Int32)) + (p4 &&& (1073741823 : Int32))) (0 : Int32))), .val (.int (1 : Int32)), .val (.int (1 : Int32)), .val (.int (1 : Int32)), .unset] [(.int p2), (.int (p1 * (F1 (1 : Int32) ((p3 &&& (1073741823 : Int32)) + (p4 &&& (1073741823 : Int32))) (0 : Int32)))), (.int (F1 p1 ((p3 &&& (1073741823 : Int32)) + (p4 &&& (1073741823 : Int32))) p2))])) _
    refine XS.iadd X18.here hx rfl (hb hby at_126) rfl ?_
    show Steps p.tables e below (T18.setTop (mkF m 127 #[.val (.int p1), .val (.int p2), .val (.int p3), .val (.int p4), .val (.int (p3 &&& (1073741823 : Int32))), .val (.int (p4 &&& (1073741823 : Int32))), .val (.int ((p3 &&& (1073741823 : Int32)) + (p4 &&& (1073741823 : Int32)))), .val (.int (F1 (1 : Int32) (p3 &&& (1073741823 : Int32)) (0 : Int32))), .val (.int (F1 (1 : Int32) (p4 &&& (1073741823 : Int32)) (0 : Int32))), .val (.int (F1 (1 : Int32) ((p3 &&& (1073741823 : Int32)) + (p4 &&& (1073741823 : Int32))) (0 : Int32))), .val (.int (1 : Int32)), .val (.int (1 : Int32)), .val (.int (1 : Int32)), .unset] [(.int ((p1 * (F1 (1 : Int32) ((p3 &&& (1073741823 : Int32)) + (p4 &&& (1073741823 : Int32))) (0 : Int32))) + p2)), (.int (F1 p1 ((p3 &&& (1073741823 : Int32)) + (p4 &&& (1073741823 : Int32))) p2))])) _
    refine XS.icmpNo X18.here hx rfl (hb hby at_127) rfl (teq hc127_19).2 ?_
    show Steps p.tables e below (T18.setTop (mkF m 130 #[.val (.int p1), .val (.int p2), .val (.int p3), .val (.int p4), .val (.int (p3 &&& (1073741823 : Int32))), .val (.int (p4 &&& (1073741823 : Int32))), .val (.int ((p3 &&& (1073741823 : Int32)) + (p4 &&& (1073741823 : Int32)))), .val (.int (F1 (1 : Int32) (p3 &&& (1073741823 : Int32)) (0 : Int32))), .val (.int (F1 (1 : Int32) (p4 &&& (1073741823 : Int32)) (0 : Int32))), .val (.int (F1 (1 : Int32) ((p3 &&& (1073741823 : Int32)) + (p4 &&& (1073741823 : Int32))) (0 : Int32))), .val (.int (1 : Int32)), .val (.int (1 : Int32)), .val (.int (1 : Int32)), .unset] [])) _
    refine XS.iconst X18.here hx rfl (hb hby at_130) ?_
    show Steps p.tables e below (T18.setTop (mkF m 131 #[.val (.int p1), .val (.int p2), .val (.int p3), .val (.int p4), .val (.int (p3 &&& (1073741823 : Int32))), .val (.int (p4 &&& (1073741823 : Int32))), .val (.int ((p3 &&& (1073741823 : Int32)) + (p4 &&& (1073741823 : Int32)))), .val (.int (F1 (1 : Int32) (p3 &&& (1073741823 : Int32)) (0 : Int32))), .val (.int (F1 (1 : Int32) (p4 &&& (1073741823 : Int32)) (0 : Int32))), .val (.int (F1 (1 : Int32) ((p3 &&& (1073741823 : Int32)) + (p4 &&& (1073741823 : Int32))) (0 : Int32))), .val (.int (1 : Int32)), .val (.int (1 : Int32)), .val (.int (1 : Int32)), .unset] [(.int (1 : Int32))])) _
    refine XS.goto X18.here hx rfl (pc0 := 131) (pc' := 135) rfl (hb hby at_131) (by decide) (by decide) ?_
    show Steps p.tables e below (T18.setTop (mkF m 135 #[.val (.int p1), .val (.int p2), .val (.int p3), .val (.int p4), .val (.int (p3 &&& (1073741823 : Int32))), .val (.int (p4 &&& (1073741823 : Int32))), .val (.int ((p3 &&& (1073741823 : Int32)) + (p4 &&& (1073741823 : Int32)))), .val (.int (F1 (1 : Int32) (p3 &&& (1073741823 : Int32)) (0 : Int32))), .val (.int (F1 (1 : Int32) (p4 &&& (1073741823 : Int32)) (0 : Int32))), .val (.int (F1 (1 : Int32) ((p3 &&& (1073741823 : Int32)) + (p4 &&& (1073741823 : Int32))) (0 : Int32))), .val (.int (1 : Int32)), .val (.int (1 : Int32)), .val (.int (1 : Int32)), .unset] [(.int (1 : Int32))])) _
    refine XS.istore X18.here hx rfl (hb hby at_135) rfl (l' := #[.val (.int p1), .val (.int p2), .val (.int p3), .val (.int p4), .val (.int (p3 &&& (1073741823 : Int32))), .val (.int (p4 &&& (1073741823 : Int32))), .val (.int ((p3 &&& (1073741823 : Int32)) + (p4 &&& (1073741823 : Int32)))), .val (.int (F1 (1 : Int32) (p3 &&& (1073741823 : Int32)) (0 : Int32))), .val (.int (F1 (1 : Int32) (p4 &&& (1073741823 : Int32)) (0 : Int32))), .val (.int (F1 (1 : Int32) ((p3 &&& (1073741823 : Int32)) + (p4 &&& (1073741823 : Int32))) (0 : Int32))), .val (.int (1 : Int32)), .val (.int (1 : Int32)), .val (.int (1 : Int32)), .val (.int (1 : Int32))]) rfl ?_
    show Steps p.tables e below (T18.setTop (mkF m 137 #[.val (.int p1), .val (.int p2), .val (.int p3), .val (.int p4), .val (.int (p3 &&& (1073741823 : Int32))), .val (.int (p4 &&& (1073741823 : Int32))), .val (.int ((p3 &&& (1073741823 : Int32)) + (p4 &&& (1073741823 : Int32)))), .val (.int (F1 (1 : Int32) (p3 &&& (1073741823 : Int32)) (0 : Int32))), .val (.int (F1 (1 : Int32) (p4 &&& (1073741823 : Int32)) (0 : Int32))), .val (.int (F1 (1 : Int32) ((p3 &&& (1073741823 : Int32)) + (p4 &&& (1073741823 : Int32))) (0 : Int32))), .val (.int (1 : Int32)), .val (.int (1 : Int32)), .val (.int (1 : Int32)), .val (.int (1 : Int32))] [])) _
    refine XS.iload X18.here hx rfl (hb hby at_137) rfl ?_
    show Steps p.tables e below (T18.setTop (mkF m 139 #[.val (.int p1), .val (.int p2), .val (.int p3), .val (.int p4), .val (.int (p3 &&& (1073741823 : Int32))), .val (.int (p4 &&& (1073741823 : Int32))), .val (.int ((p3 &&& (1073741823 : Int32)) + (p4 &&& (1073741823 : Int32)))), .val (.int (F1 (1 : Int32) (p3 &&& (1073741823 : Int32)) (0 : Int32))), .val (.int (F1 (1 : Int32) (p4 &&& (1073741823 : Int32)) (0 : Int32))), .val (.int (F1 (1 : Int32) ((p3 &&& (1073741823 : Int32)) + (p4 &&& (1073741823 : Int32))) (0 : Int32))), .val (.int (1 : Int32)), .val (.int (1 : Int32)), .val (.int (1 : Int32)), .val (.int (1 : Int32))] [(.int (1 : Int32))])) _
    refine XS.ifNo X18.here hx rfl (hb hby at_139) rfl ((if0 _ _).trans (feq hc139_20).1) ?_
    show Steps p.tables e below (T18.setTop (mkF m 142 #[.val (.int p1), .val (.int p2), .val (.int p3), .val (.int p4), .val (.int (p3 &&& (1073741823 : Int32))), .val (.int (p4 &&& (1073741823 : Int32))), .val (.int ((p3 &&& (1073741823 : Int32)) + (p4 &&& (1073741823 : Int32)))), .val (.int (F1 (1 : Int32) (p3 &&& (1073741823 : Int32)) (0 : Int32))), .val (.int (F1 (1 : Int32) (p4 &&& (1073741823 : Int32)) (0 : Int32))), .val (.int (F1 (1 : Int32) ((p3 &&& (1073741823 : Int32)) + (p4 &&& (1073741823 : Int32))) (0 : Int32))), .val (.int (1 : Int32)), .val (.int (1 : Int32)), .val (.int (1 : Int32)), .val (.int (1 : Int32))] [])) _
    refine XS.iload X18.here hx rfl (hb hby at_142) rfl ?_
    show Steps p.tables e below (T18.setTop (mkF m 144 #[.val (.int p1), .val (.int p2), .val (.int p3), .val (.int p4), .val (.int (p3 &&& (1073741823 : Int32))), .val (.int (p4 &&& (1073741823 : Int32))), .val (.int ((p3 &&& (1073741823 : Int32)) + (p4 &&& (1073741823 : Int32)))), .val (.int (F1 (1 : Int32) (p3 &&& (1073741823 : Int32)) (0 : Int32))), .val (.int (F1 (1 : Int32) (p4 &&& (1073741823 : Int32)) (0 : Int32))), .val (.int (F1 (1 : Int32) ((p3 &&& (1073741823 : Int32)) + (p4 &&& (1073741823 : Int32))) (0 : Int32))), .val (.int (1 : Int32)), .val (.int (1 : Int32)), .val (.int (1 : Int32)), .val (.int (1 : Int32))] [(.int (1 : Int32))])) _
    refine XS.ifNo X18.here hx rfl (hb hby at_144) rfl ((if0 _ _).trans (feq hc144_21).1) ?_
    show Steps p.tables e below (T18.setTop (mkF m 147 #[.val (.int p1), .val (.int p2), .val (.int p3), .val (.int p4), .val (.int (p3 &&& (1073741823 : Int32))), .val (.int (p4 &&& (1073741823 : Int32))), .val (.int ((p3 &&& (1073741823 : Int32)) + (p4 &&& (1073741823 : Int32)))), .val (.int (F1 (1 : Int32) (p3 &&& (1073741823 : Int32)) (0 : Int32))), .val (.int (F1 (1 : Int32) (p4 &&& (1073741823 : Int32)) (0 : Int32))), .val (.int (F1 (1 : Int32) ((p3 &&& (1073741823 : Int32)) + (p4 &&& (1073741823 : Int32))) (0 : Int32))), .val (.int (1 : Int32)), .val (.int (1 : Int32)), .val (.int (1 : Int32)), .val (.int (1 : Int32))] [])) _
    refine XS.iload X18.here hx rfl (hb hby at_147) rfl ?_
    show Steps p.tables e below (T18.setTop (mkF m 149 #[.val (.int p1), .val (.int p2), .val (.int p3), .val (.int p4), .val (.int (p3 &&& (1073741823 : Int32))), .val (.int (p4 &&& (1073741823 : Int32))), .val (.int ((p3 &&& (1073741823 : Int32)) + (p4 &&& (1073741823 : Int32)))), .val (.int (F1 (1 : Int32) (p3 &&& (1073741823 : Int32)) (0 : Int32))), .val (.int (F1 (1 : Int32) (p4 &&& (1073741823 : Int32)) (0 : Int32))), .val (.int (F1 (1 : Int32) ((p3 &&& (1073741823 : Int32)) + (p4 &&& (1073741823 : Int32))) (0 : Int32))), .val (.int (1 : Int32)), .val (.int (1 : Int32)), .val (.int (1 : Int32)), .val (.int (1 : Int32))] [(.int (1 : Int32))])) _
    refine XS.ifNo X18.here hx rfl (hb hby at_149) rfl ((if0 _ _).trans (feq hc149_22).1) ?_
    show Steps p.tables e below (T18.setTop (mkF m 152 #[.val (.int p1), .val (.int p2), .val (.int p3), .val (.int p4), .val (.int (p3 &&& (1073741823 : Int32))), .val (.int (p4 &&& (1073741823 : Int32))), .val (.int ((p3 &&& (1073741823 : Int32)) + (p4 &&& (1073741823 : Int32)))), .val (.int (F1 (1 : Int32) (p3 &&& (1073741823 : Int32)) (0 : Int32))), .val (.int (F1 (1 : Int32) (p4 &&& (1073741823 : Int32)) (0 : Int32))), .val (.int (F1 (1 : Int32) ((p3 &&& (1073741823 : Int32)) + (p4 &&& (1073741823 : Int32))) (0 : Int32))), .val (.int (1 : Int32)), .val (.int (1 : Int32)), .val (.int (1 : Int32)), .val (.int (1 : Int32))] [])) _
    refine XS.iload X18.here hx rfl (hb hby at_152) rfl ?_
    show Steps p.tables e below (T18.setTop (mkF m 154 #[.val (.int p1), .val (.int p2), .val (.int p3), .val (.int p4), .val (.int (p3 &&& (1073741823 : Int32))), .val (.int (p4 &&& (1073741823 : Int32))), .val (.int ((p3 &&& (1073741823 : Int32)) + (p4 &&& (1073741823 : Int32)))), .val (.int (F1 (1 : Int32) (p3 &&& (1073741823 : Int32)) (0 : Int32))), .val (.int (F1 (1 : Int32) (p4 &&& (1073741823 : Int32)) (0 : Int32))), .val (.int (F1 (1 : Int32) ((p3 &&& (1073741823 : Int32)) + (p4 &&& (1073741823 : Int32))) (0 : Int32))), .val (.int (1 : Int32)), .val (.int (1 : Int32)), .val (.int (1 : Int32)), .val (.int (1 : Int32))] [(.int (1 : Int32))])) _
    refine XS.ifNo X18.here hx rfl (hb hby at_154) rfl ((if0 _ _).trans (feq hc154_23).1) ?_
    show Steps p.tables e below (T18.setTop (mkF m 157 #[.val (.int p1), .val (.int p2), .val (.int p3), .val (.int p4), .val (.int (p3 &&& (1073741823 : Int32))), .val (.int (p4 &&& (1073741823 : Int32))), .val (.int ((p3 &&& (1073741823 : Int32)) + (p4 &&& (1073741823 : Int32)))), .val (.int (F1 (1 : Int32) (p3 &&& (1073741823 : Int32)) (0 : Int32))), .val (.int (F1 (1 : Int32) (p4 &&& (1073741823 : Int32)) (0 : Int32))), .val (.int (F1 (1 : Int32) ((p3 &&& (1073741823 : Int32)) + (p4 &&& (1073741823 : Int32))) (0 : Int32))), .val (.int (1 : Int32)), .val (.int (1 : Int32)), .val (.int (1 : Int32)), .val (.int (1 : Int32))] [])) _
    refine XS.iconst X18.here hx rfl (hb hby at_157) ?_
    show Steps p.tables e below (T18.setTop (mkF m 158 #[.val (.int p1), .val (.int p2), .val (.int p3), .val (.int p4), .val (.int (p3 &&& (1073741823 : Int32))), .val (.int (p4 &&& (1073741823 : Int32))), .val (.int ((p3 &&& (1073741823 : Int32)) + (p4 &&& (1073741823 : Int32)))), .val (.int (F1 (1 : Int32) (p3 &&& (1073741823 : Int32)) (0 : Int32))), .val (.int (F1 (1 : Int32) (p4 &&& (1073741823 : Int32)) (0 : Int32))), .val (.int (F1 (1 : Int32) ((p3 &&& (1073741823 : Int32)) + (p4 &&& (1073741823 : Int32))) (0 : Int32))), .val (.int (1 : Int32)), .val (.int (1 : Int32)), .val (.int (1 : Int32)), .val (.int (1 : Int32))] [(.int (1 : Int32))])) _
    refine XS.goto X18.here hx rfl (pc0 := 158) (pc' := 162) rfl (hb hby at_158) (by decide) (by decide) ?_
    show Steps p.tables e below (T18.setTop (mkF m 162 #[.val (.int p1), .val (.int p2), .val (.int p3), .val (.int p4), .val (.int (p3 &&& (1073741823 : Int32))), .val (.int (p4 &&& (1073741823 : Int32))), .val (.int ((p3 &&& (1073741823 : Int32)) + (p4 &&& (1073741823 : Int32)))), .val (.int (F1 (1 : Int32) (p3 &&& (1073741823 : Int32)) (0 : Int32))), .val (.int (F1 (1 : Int32) (p4 &&& (1073741823 : Int32)) (0 : Int32))), .val (.int (F1 (1 : Int32) ((p3 &&& (1073741823 : Int32)) + (p4 &&& (1073741823 : Int32))) (0 : Int32))), .val (.int (1 : Int32)), .val (.int (1 : Int32)), .val (.int (1 : Int32)), .val (.int (1 : Int32))] [(.int (1 : Int32))])) _
    exact k
  refine OwnG.st sg24 ?_
  have hv : (1 : Int32) = 1 := rfl
  exact OwnG.retN X18 hx (t := .boolean) (by simp) Bd.returns (BodyLoose.notSynchronized Bd) (hb hby at_162) ⟨congrArg (fun w => some (Value.int (nar .boolean w))) hv, N18⟩ (by decide) (by decide)
set_option maxRecDepth 65536 in
set_option maxHeartbeats 40000000 in
theorem comes_1 {Post : Tables → Env → Array Value → State → Outcome → State → Prop} (hpost : ∀ tb e args s v u, (limb_1_1.after args s (.returned v) u = true ∧ limb_1_2.after args s (.returned v) u = true ∧ True) → FrameEnd s (.returned v) u (Jvm.fieldLocs frame_1_writes args s ++ Jvm.arrayLocs frame_1_arrays args s ++ Jvm.staticLocs frame_1_statics s) 0 0 → Post tb e args s (.returned v) u) :
    ArmFor flags0 classFile x code maxLocals ret World_1 tables_1 room_1 Calls_1 rest_1 Pre_1 Post := by
  intro l hfl _ _ p e ha hc hk s m args below hf hA hF happ hP
  obtain ⟨hcalls, hrest, hpre⟩ := hP
  obtain ⟨-, -, -, hnamed, -, -, -, hat⟩ := (Spec.applies_iff hf).mp happ
  obtain ⟨hg, hn⟩ := and_e (Cond.before_iff.mp (show (Jvm.Cond.and given_1 narrow_1).before args s = true from hpre))
  obtain ⟨g1, g2⟩ := and_e hg
  obtain ⟨g3, g4⟩ := and_e g2
  obtain ⟨g5, g6⟩ := and_e g4
  obtain ⟨g7, g8⟩ := and_e g6
  obtain ⟨w0, w1, w2, w3, rfl⟩ : ∃ w0 w1 w2 w3 : Value, args = #[w0, w1, w2, w3] := by
    have hs : args.size = 4 := by simpa [Cond.value, given_1] using g1
    obtain ⟨L⟩ := args
    match L, hs with
    | [w0, w1, w2, w3], _ => exact ⟨w0, w1, w2, w3, rfl⟩
  have hw := fun d (hd : d ∈ tables_1) => atoms_spec (ws := Jvm.Cond.code x code maxLocals ret :: tables_1) hat d (List.mem_cons_of_mem _ hd)
  obtain ⟨i0, ei0⟩ := is_v g3
  obtain rfl : w0 = (.int i0) := Option.some.inj ei0
  obtain ⟨i1, ei1⟩ := is_v g5
  obtain rfl : w1 = (.int i1) := Option.some.inj ei1
  obtain ⟨i2, ei2⟩ := is_v g7
  obtain rfl : w2 = (.int i2) := Option.some.inj ei2
  obtain ⟨i3, ei3⟩ := is_v g8
  obtain rfl : w3 = (.int i3) := Option.some.inj ei3
  obtain ⟨n, o, h1, h2, h3, _, L, rfl, ⟨rfl, N⟩, hq⟩ := rm0 l s _ hw tables_1 i0 i1 i2 i3  s.heap s.heap.size (Nat.le_refl _)  p e ha hc hk s m _ below hf ((Spec.applies_iff_loose hf).mp happ).1 ⟨rfl, State.Warmed39.refl s, rfl⟩ trivial
  refine ⟨n, _, h1, h2, h3, hpost _ _ _ _ _ _ ⟨Cond.after_iff.mpr rfl, Cond.after_iff.mpr (eq_i res_at (Term.int_eval (1)) rfl), trivial⟩ ⟨hq.1, hq.2.1, (hq.2.2.sift fun y hy => Or.inr (N y hy)).mono (by decide) (by decide)⟩⟩
theorem main_1_1 : Claimed_1_1 := comes_1 fun _ _ _ _ _ _ h hF => ⟨h.1, hF⟩
theorem main_1_2 : Claimed_1_2 := comes_1 fun _ _ _ _ _ _ h hF => ⟨h.2.1, hF⟩
end Jvm.Pilot.@@N@@
namespace Jvm.Pilot.@@N@@
open Jvm Jvm.ClassFile Sem Op Lib Jvm.Free Jvm.Stand Jvm.Pilot.@@N@@.Jvm.D
/-! MADE BY PROGRAM (witnessworld.py) out of the Statement's table words and the real class files: 9 classes; the members and pool entries that the words name. The judged class is class 1, her method 1. -/
namespace start1
open Jvm.ClassFile
def u (s : String) : CpInfo := .utf8 (stringToUtf16 s)
/-- a pool by its gaps: so many unusable entries, then the entry; so many at the end -/
def gap : Nat → List CpInfo → List CpInfo
  | 0, r => r
  | n + 1, r => .unusable :: gap n r
def poolList (es : List (Nat × CpInfo)) (last : Nat) : List CpInfo := es.foldr (fun e r => gap e.1 (e.2 :: r)) (gap last [])
def pool (es : List (Nat × CpInfo)) (last : Nat) : Array CpInfo := ⟨poolList es last⟩
def fileOf (pool : Array CpInfo) (this : Nat) (attrs : Array Attribute := #[]) (ms : Array MethodInfo := #[]) (fl : Nat := 33) (sup : Nat := 0) (ifs : Array Nat := #[]) (fds : Array FieldInfo := #[]) : ClassFile where
  minorVersion := 0
  majorVersion := 65
  constantPool := pool
  accessFlags := fl
  thisClass := this
  superClass := sup
  interfaces := ifs
  fields := fds
  methods := ms
  attributes := attrs
def plain (name : String) (sup : Option ClassId) : Class where
  name := name
  kind := .ordinary
  loader := none
  accessFlags := 33
  super := sup
  interfaces := #[]
  cf := none
  fields := #[]
  methods := #[]
  instanceTypes := #[]
  staticTypes := #[]
  resolved := #[]
  callSites := []
  init := .initialized
  statics := none
  mirror := none

def pool0 : Array CpInfo := pool [(5, u "<init>"), (0, u "()V"), (1, .class_ 10), (1, u "java/lang/Object")] 113

def k0m0 : Method := { name := "<init>", desc := "()V", sig := { parameters := [], returnType := none }, accessFlags := 1, code := none }
/-- java/lang/Object -/
def k0 : Class := { plain "java/lang/Object" none with
  accessFlags := 33
  interfaces := #[]
  cf := some (fileOf pool0 8 #[] #[{ accessFlags := 1, nameIndex := 5, descriptorIndex := 6, attributes := #[] }] 33 0 #[] #[])
  fields := #[]
  methods := #[k0m0]
  instanceTypes := #[]
  staticTypes := #[]
  resolved := Array.replicate 124 none
  statics := none }

def pool1 : Array CpInfo := pool [(2, .class_ 4), (1, u "java/lang/Object"), (0, u "<init>"), (0, u "()V"), (0, .integer 1073741823), (0, .methodref 9 10), (0, .class_ 11), (0, .nameAndType 12 13), (0, u "com/example/emberwire/emberwire/Ids"), (0, u "append"), (0, u "(III)I"), (0, .class_ 15), (0, u "com/example/emberwire/emberwire/IdsAppendPinLaw"), (2, u "law"), (0, u "(IIII)Z")] 3

def k1m0 : Method := { name := "<init>", desc := "()V", sig := { parameters := [], returnType := none }, accessFlags := 2, code := none }
def k1c1 : Code := { maxStack := 3, maxLocals := 14, code := code, exceptionTable := #[], attributes := #[] }
def k1m1 : Method := { name := "law", desc := "(IIII)Z", sig := { parameters := [.int, .int, .int, .int], returnType := some .boolean }, accessFlags := 9, code := some k1c1 }
/-- com/example/emberwire/emberwire/IdsAppendPinLaw -/
def k1 : Class := { plain "com/example/emberwire/emberwire/IdsAppendPinLaw" (some 0) with
  accessFlags := 49
  interfaces := #[]
  cf := some (fileOf pool1 14 #[] #[{ accessFlags := 2, nameIndex := 5, descriptorIndex := 6, attributes := #[] }, { accessFlags := 9, nameIndex := 18, descriptorIndex := 19, attributes := #[] }] 49 2 #[] #[])
  fields := #[]
  methods := #[k1m0, k1m1]
  instanceTypes := #[]
  staticTypes := #[]
  resolved := Array.replicate 23 none
  statics := none }

def pool2 : Array CpInfo := pool [(2, .class_ 4), (1, u "java/lang/Object"), (0, u "<init>"), (0, u "()V"), (17, .class_ 26), (1, u "com/example/emberwire/emberwire/Ids"), (7, u "SCHEMA_SEED"), (0, u "I"), (1, u "SCHEMA_PRIME"), (8, u "append"), (0, u "(III)I")] 2

def k2m0 : Method := { name := "<init>", desc := "()V", sig := { parameters := [], returnType := none }, accessFlags := 2, code := none }
def k2c1 : Code := { maxStack := 2, maxLocals := 6, code := prog_23_method_6_code, exceptionTable := #[], attributes := #[] }
def k2m1 : Method := { name := "append", desc := "(III)I", sig := { parameters := [.int, .int, .int], returnType := some .int }, accessFlags := 8, code := some k2c1 }
/-- com/example/emberwire/emberwire/Ids -/
def k2 : Class := { plain "com/example/emberwire/emberwire/Ids" (some 0) with
  accessFlags := 49
  interfaces := #[]
  cf := some (fileOf pool2 24 #[] #[{ accessFlags := 2, nameIndex := 5, descriptorIndex := 6, attributes := #[] }, { accessFlags := 8, nameIndex := 46, descriptorIndex := 47, attributes := #[] }] 49 2 #[] #[{ accessFlags := 26, nameIndex := 34, descriptorIndex := 35, attributes := #[] }, { accessFlags := 26, nameIndex := 37, descriptorIndex := 35, attributes := #[] }])
  fields := #[{ name := "SCHEMA_SEED", type := .int, accessFlags := 26, slot := 0, constantValue := 0 }, { name := "SCHEMA_PRIME", type := .int, accessFlags := 26, slot := 1, constantValue := 0 }]
  methods := #[k2m0, k2m1]
  instanceTypes := #[]
  staticTypes := #[.int, .int]
  resolved := Array.replicate 50 none
  statics := none }

def pool3 : Array CpInfo := pool [(1, u "java/lang/Cloneable"), (0, .class_ 1), (0, u "java/lang/Object"), (0, .class_ 3)] 3

/-- java/lang/Cloneable -/
def k3 : Class := { plain "java/lang/Cloneable" (some 0) with
  accessFlags := 1537
  interfaces := #[]
  cf := some (fileOf pool3 2 #[] #[] 1537 4 #[] #[])
  fields := #[]
  methods := #[]
  instanceTypes := #[]
  staticTypes := #[]
  resolved := Array.replicate 8 none
  statics := none }

def pool4 : Array CpInfo := pool [(1, u "java/io/Serializable"), (0, .class_ 1), (0, u "java/lang/Object"), (0, .class_ 3)] 3

/-- java/io/Serializable -/
def k4 : Class := { plain "java/io/Serializable" (some 0) with
  accessFlags := 1537
  interfaces := #[]
  cf := some (fileOf pool4 2 #[] #[] 1537 4 #[] #[])
  fields := #[]
  methods := #[]
  instanceTypes := #[]
  staticTypes := #[]
  resolved := Array.replicate 8 none
  statics := none }

/-- the primitive byte -/
def k5 : Class := { plain "byte" none with kind := .primitive 'B', accessFlags := 0x411 }
/-- [B -/
def k6 : Class := { plain "[B" (some 0) with kind := .array 5 .byte, interfaces := #[3, 4], accessFlags := 1041 }

/-- the primitive int -/
def k7 : Class := { plain "int" none with kind := .primitive 'I', accessFlags := 0x411 }
/-- [I -/
def k8 : Class := { plain "[I" (some 0) with kind := .array 7 .int, interfaces := #[3, 4], accessFlags := 1041 }

def heap : Heap := #[]
def classes : Array Class := #[k0, k1, k2, k3, k4, k5, k6, k7, k8]
def interned : List (Array UInt16 × Addr) := []
def slotsUsed : Nat := 0
def theMethod : MethodId := ⟨1, 1⟩
def args0 : Array Value := #[.int 5, .int 5, .int 5, .int 5]
def aboutOver (below : List Frame) : State where
  vm := { classes := classes, interned := interned.toArray }
  heap := heap
  slotsUsed := slotsUsed
  threads := #[{ frames := .invoking theMethod args0 :: below }]
def below0 : List Frame := [.native { method := ⟨0, 0⟩, args := #[] }]
def about1 : State := aboutOver below0
def p0 : Program := .bare "" "" ""
def e0 : Env := launch0.env 0 0 0
theorem w_frames : about1.frames = Frame.invoking theMethod args0 :: below0 := rfl
set_option maxRecDepth 65536 in
theorem w_args : argsFit about1.vm theMethod args0 = true := by decide +kernel
set_option maxRecDepth 65536 in
theorem w_heap : heapFits about1 = true := by decide +kernel
set_option maxRecDepth 65536 in
theorem w_runnable : about1.curStatus? = some .runnable := by decide +kernel
set_option maxRecDepth 65536 in
theorem w_alone : about1.alone = true := by decide +kernel
set_option maxRecDepth 65536 in
theorem w_named : about1.methodNamed? x = some theMethod := by decide +kernel
set_option maxRecDepth 65536 in
theorem w_hears : about1.hears theMethod below0 = true := by decide +kernel
set_option maxRecDepth 65536 in
theorem w_ripe : about1.ripe theMethod args0 below0 = true := by decide +kernel
theorem w_running : about1.status = .running := rfl
set_option maxRecDepth 65536 in
theorem w_room : about1.hasRoom e0.platform room_1 = true :=
  launch0.hasRoom_least _ room_1 (by decide +kernel) (by decide +kernel) (by decide +kernel) (by decide +kernel) (by decide +kernel) (by decide +kernel)
theorem allAtoms_all (ts : List Jvm.Cond) (a : Array Jvm.Value) (st : Jvm.State) : (allAtoms ts).before a st = ts.all (fun c => c.before a st) := by
  induction ts with
  | nil => rfl
  | cons c t ih =>
    show (Jvm.Cond.and c (allAtoms t)).before a st = _
    rw [Jvm.Cond.before_and, ih, List.all_cons]
def words1 : List Jvm.Cond := Jvm.Cond.code x code maxLocals ret :: tables_1
/-- a 'code' word, met by the world's own term for the bytes: nothing is compared byte by byte -/
theorem code_word {y : MethodName} {bytes : ByteArray} {mx : Nat} {rt : Option FieldType} {a : Array Value} {s : State} {m : MethodId} {meth : Method} {c : Code} (h1 : s.methodNamed? y = some m) (h2 : s.vm.method? m = some meth) (h3 : meth.code = some c) (h4 : c.code = bytes)
    (h5 : (c.maxLocals == mx && c.exceptionTable.isEmpty && decide (c.maxStack ≤ mostOperands) && decide (meth.sig.returnType = rt) && !meth.locks && decide (parseMethodDescriptor y.desc = some meth.sig)) = true) : (Jvm.Cond.code y bytes mx rt).before a s = true := by
  simp only [Bool.and_eq_true, beq_iff_eq, Bool.not_eq_true', decide_eq_true_eq] at h5
  obtain ⟨⟨⟨⟨⟨g1, g2⟩, g3⟩, g4⟩, g5⟩, g6⟩ := h5
  simp [Cond.before, Cond.holds, Cond.value, h1, h2, h3, h4, g1, g2, g3, g4, g5, g6]
def isCode : Jvm.Cond → Bool
  | .code _ _ _ _ => true
  | _ => false
theorem all_split {L : List Jvm.Cond} {P : Jvm.Cond → Bool} (h1 : L.all (fun c => isCode c || P c) = true) (h2 : ∀ c ∈ L.filter isCode, P c = true) : L.all P = true := by
  refine List.all_eq_true.mpr fun c hc => ?_
  have h := List.all_eq_true.mp h1 c hc
  rcases Bool.eq_false_or_eq_true (isCode c) with hi | hi
  · exact h2 c (List.mem_filter.mpr ⟨hc, hi⟩)
  · simpa [hi] using h
set_option maxRecDepth 65536 in
theorem w_c0 : (Jvm.Cond.code x code maxLocals ret).before args0 about1 = true := code_word (m := ⟨1, 1⟩) (meth := k1m1) (c := k1c1) (by decide +kernel) rfl rfl rfl (by decide +kernel)
set_option maxRecDepth 65536 in
theorem w_c1 : (Jvm.Cond.code ({ cls := "com/example/emberwire/emberwire/Ids", name := "append", desc := "(III)I" } : Jvm.MethodName) prog_23_method_6_code (6 : Nat) (Option.some Jvm.ClassFile.FieldType.int)).before args0 about1 = true := code_word (m := ⟨2, 1⟩) (meth := k2m1) (c := k2c1) (by decide +kernel) rfl rfl rfl (by decide +kernel)
def codes1 : List Jvm.Cond := [Jvm.Cond.code x code maxLocals ret, Jvm.Cond.code ({ cls := "com/example/emberwire/emberwire/Ids", name := "append", desc := "(III)I" } : Jvm.MethodName) prog_23_method_6_code (6 : Nat) (Option.some Jvm.ClassFile.FieldType.int)]
set_option maxRecDepth 65536 in
theorem codes_eq : words1.filter isCode = codes1 := rfl
theorem w_codes : ∀ c ∈ words1.filter isCode, c.before args0 about1 = true := by
  rw [codes_eq]
  intro c hc
  simp only [codes1, List.mem_cons, List.not_mem_nil, or_false] at hc
  rcases hc with rfl | rfl
  · exact w_c0
  · exact w_c1
set_option maxRecDepth 65536 in
theorem w_t1 : words1.all (fun c => isCode c || c.before args0 about1) = true := by decide +kernel
theorem w_tables : (allAtoms (Jvm.Cond.code x code maxLocals ret :: tables_1)).before args0 about1 = true := by
  rw [allAtoms_all]
  show words1.all (fun c => c.before args0 about1) = true
  refine all_split ?_ w_codes
  rw [w_t1]
set_option maxRecDepth 65536 in
theorem w_case : (Jvm.Cond.and given_1 narrow_1).before args0 about1 = true := by decide +kernel
theorem w_applies : (headSpec (Jvm.Cond.code x code maxLocals ret :: tables_1) room_1).applies x e0.platform about1 = true :=
  (Spec.applies_iff w_frames).mpr ⟨w_running, w_runnable, w_alone, w_named, w_hears, w_ripe, w_room, w_tables⟩
theorem atStart : AtStart classFile x code maxLocals ret World_1 tables_1 room_1 Calls_1 rest_1 Pre_1 launch0 p0 e0 about1 theMethod args0 below0 :=
  ⟨lists_1, trivial, launch0.admits_env _ _ _, launch0.least_env, fairChoices_fair.cas, fairChoices_fair.clock, w_frames, w_args, w_heap, w_applies, trivial, trivial, w_case⟩
end start1
theorem witness_1 : WitnessClaimed_1 := ⟨start1.p0, start1.e0, start1.about1, start1.theMethod, start1.args0, start1.below0, start1.atStart⟩
end Jvm.Pilot.@@N@@
