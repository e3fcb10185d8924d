import JvmDerived
import JvmDerived.Pilot.@@N@@Statement
import JvmDerived.Pilot.@@N@@Code
set_option linter.unusedVariables false
set_option linter.unusedSimpArgs false
namespace Jvm.OwnKit
open Sem ClassFile Op Lib Jvm.Stand Jvm.Free Jvm.LawKit Jvm.RoadKit
section Own
variable {p : Program} {l : Launch} {e : Env} {R : Room} {s : State} {m : MethodId} {args : Array Value} {below : List Frame} {meth : Method} {c : Code} {T T' : State} {locs : List Loc} {cells slots : Nat}
/-- from the state T with the frame F on top the run comes to the method's end, and what Q says holds there -/
def OwnG (p : Program) (e : Env) (below : List Frame) (s : State) (Q : Option Value → Heap → List Loc → Prop) (k n : Nat) (T : State) (F : JFrame) : Prop :=
  ∃ s₂ o, Steps p.tables e below (T.setTop F) s₂ ∧ s₂.status = .running ∧ Ended s₂ below o ∧ ∃ v L, o = .returned v ∧ Q v s₂.heap L ∧ FrameEnd s o s₂ L k n
theorem OwnG.st {Q : Option Value → Heap → List Loc → Prop} {k n : Nat} {F F' : JFrame} (h : ∀ t, Steps p.tables e below (T'.setTop F') t → Steps p.tables e below (T.setTop F) t) (g : OwnG p e below s Q k n T' F') : OwnG p e below s Q k n T F := by
  obtain ⟨s2, o, h1, r⟩ := g
  exact ⟨s2, o, h _ h1, r⟩
theorem OwnG.leave (X : Stand p l e R s m args below meth c T locs cells slots) {Q : Option Value → Heap → List Loc → Prop} {k n : Nat} {F : JFrame} {v : Option Value} (hv : meth.sig.returnType = none → v = none) (hlk : meth.locks = false)
    (hs : ∀ fs, (∀ (f : JFrame) (acts : List Action), f.method = m → f.locked = none → f.entered = [] → (doReturn e (T.setTop f) acts v).1 = T.setFrames fs) → Steps p.tables e below (T.setTop F) (T.setFrames fs)) (hq : Q v T.heap locs) (hk : cells ≤ k) (hn : slots ≤ n) : OwnG p e below s Q k n T F := by
  obtain ⟨fs, hr, hrun, hended, hW, hsame⟩ := X.leave hv hlk
  exact ⟨_, _, hs fs hr, hrun, hended, _, _, rfl, hq, ⟨_, rfl⟩, hW, hsame.mono hk hn⟩
theorem OwnG.retI (X : Stand p l e R s m args below meth c T locs cells slots) (hx : p.tables.exec = Jvm.exec) {Q : Option Value → Heap → List Loc → Prop} {k n pc : Nat} {Ls : Array Slot} {z : Int32} {rest : List Value} (hret : meth.sig.returnType = some .int) (hlk : meth.locks = false) (hd : decode c.code pc = .ok (.ireturn, 1)) (hq : Q (some (.int z)) T.heap locs) (hk : cells ≤ k) (hn : slots ≤ n) : OwnG p e below s Q k n T (mkF m pc Ls (.int z :: rest)) :=
  OwnG.leave X (fun h => by rw [hret] at h; cases h) hlk (fun fs hr => retOut X hx hret rfl (Or.inl ⟨rfl, Or.inl rfl, z, rfl⟩) hd hr) hq hk hn
theorem OwnG.retJ (X : Stand p l e R s m args below meth c T locs cells slots) (hx : p.tables.exec = Jvm.exec) {Q : Option Value → Heap → List Loc → Prop} {k n pc : Nat} {Ls : Array Slot} {z : Int64} {rest : List Value} (hret : meth.sig.returnType = some .long) (hlk : meth.locks = false) (hd : decode c.code pc = .ok (.lreturn, 1)) (hq : Q (some (.long z)) T.heap locs) (hk : cells ≤ k) (hn : slots ≤ n) : OwnG p e below s Q k n T (mkF m pc Ls (.long z :: rest)) :=
  OwnG.leave X (fun h => by rw [hret] at h; cases h) hlk (fun fs hr => retOut X hx hret rfl (Or.inr (Or.inl ⟨rfl, rfl, z, rfl⟩)) hd hr) hq hk hn
theorem OwnG.retR (X : Stand p l e R s m args below meth c T locs cells slots) (hx : p.tables.exec = Jvm.exec) {Q : Option Value → Heap → List Loc → Prop} {k n pc : Nat} {Ls : Array Slot} {a : Addr} {rest : List Value} {t : FieldType} (hret : meth.sig.returnType = some t) (ht : t.isReference = true) (hnn : narrow t (.ref a) = .ref a) (hlk : meth.locks = false) (hd : decode c.code pc = .ok (.areturn, 1)) (hq : Q (some (.ref a)) T.heap locs) (hk : cells ≤ k) (hn : slots ≤ n) : OwnG p e below s Q k n T (mkF m pc Ls (.ref a :: rest)) :=
  OwnG.leave X (fun h => by rw [hret] at h; cases h) hlk (fun fs hr => retOut X hx hret hnn (Or.inr (Or.inr (Or.inr (Or.inr ⟨rfl, ht, rfl⟩)))) hd hr) hq hk hn
theorem OwnG.retN (X : Stand p l e R s m args below meth c T locs cells slots) (hx : p.tables.exec = Jvm.exec) {Q : Option Value → Heap → List Loc → Prop} {k n pc : Nat} {Ls : Array Slot} {z : Int32} {rest : List Value} {t : FieldType} (ht : t = .boolean ∨ t = .byte ∨ t = .char ∨ t = .short) (hret : meth.sig.returnType = some t) (hlk : meth.locks = false) (hd : decode c.code pc = .ok (.ireturn, 1)) (hq : Q (some (.int (nar t z))) T.heap locs) (hk : cells ≤ k) (hn : slots ≤ n) : OwnG p e below s Q k n T (mkF m pc Ls (.int z :: rest)) :=
  OwnG.leave X (fun h => by rw [hret] at h; cases h) hlk (fun fs hr => Jvm.RoadKit.retN X hx hret ht hd hr) hq hk hn
theorem OwnG.retV (X : Stand p l e R s m args below meth c T locs cells slots) (hx : p.tables.exec = Jvm.exec) {Q : Option Value → Heap → List Loc → Prop} {k n pc : Nat} {Ls : Array Slot} (hret : meth.sig.returnType = none) (hlk : meth.locks = false) (hd : decode c.code pc = .ok (.return_, 1)) (hq : Q none T.heap locs) (hk : cells ≤ k) (hn : slots ≤ n) : OwnG p e below s Q k n T (mkF m pc Ls []) :=
  OwnG.leave X (fun _ => rfl) hlk (fun fs hr => X.returnOut hx hret hd hr) hq hk hn
end Own
end Jvm.OwnKit
namespace Jvm.Pilot.@@N@@
open Jvm Jvm.ClassFile Sem Op Lib Jvm.Free Jvm.Stand Jvm.LawKit Jvm.RoadKit Bundle Jvm.Pilot.@@N@@.Jvm.D Jvm.OwnKit
def F1 (q1 : Int64) (q2 : Int64) : Int64 := (if ((9223372036854775807 : Int64) - q2) < q1 then (9223372036854775807 : Int64) else (q1 + q2))
theorem d1_0 : decode prog_20_method_16_code 0 = .ok (.lload_n 0, 1) := by decide +kernel
theorem d1_1 : decode prog_20_method_16_code 1 = .ok (.ldc2_w 312, 3) := by decide +kernel
theorem d1_4 : decode prog_20_method_16_code 4 = .ok (.lload_n 2, 1) := by decide +kernel
theorem d1_5 : decode prog_20_method_16_code 5 = .ok (.lsub, 1) := by decide +kernel
theorem d1_6 : decode prog_20_method_16_code 6 = .ok (.lcmp, 1) := by decide +kernel
theorem d1_7 : decode prog_20_method_16_code 7 = .ok (.ifCond .le 9, 3) := by decide +kernel
theorem d1_10 : decode prog_20_method_16_code 10 = .ok (.ldc2_w 312, 3) := by decide +kernel
theorem d1_13 : decode prog_20_method_16_code 13 = .ok (.goto 6, 3) := by decide +kernel
theorem d1_16 : decode prog_20_method_16_code 16 = .ok (.lload_n 0, 1) := by decide +kernel
theorem d1_17 : decode prog_20_method_16_code 17 = .ok (.lload_n 2, 1) := by decide +kernel
theorem d1_18 : decode prog_20_method_16_code 18 = .ok (.ladd, 1) := by decide +kernel
theorem d1_19 : decode prog_20_method_16_code 19 = .ok (.lreturn, 1) := by decide +kernel
theorem pn_1 : plainName "com/example/guessd/guessd/SuggestionIndex" = true := by first | (simp [plainName, overriddenIn]; done) | decide +kernel
theorem ef_1 (m : MethodId) (q1 : Int64) (q2 : Int64) : entryFrame m #[(.long q1), (.long q2)] 4 = mkF m 0 #[.val (.long q1), .second, .val (.long q2), .second] [] := by first | (simp [entryFrame, mkF, argsToLocals, Value.category]; done) | rfl
def Q1 (Z : State) (q1 : Int64) (q2 : Int64) (h0 : Heap) (n0 : Nat) (v : Option Value) (h : Heap) (L : List Loc) : Prop := v = some (.long (F1 q1 q2)) ∧ Fr n0 L ∧ h = h0
set_option maxRecDepth 65536 in
set_option maxHeartbeats 40000000 in
theorem rm1 (l : Launch) (Z : State) (a0 : Array Value) (hw : ∀ d ∈ tables_1, d.before a0 Z = true) (ws : List Jvm.Cond) (q1 : Int64) (q2 : Int64)  (h0 : Heap) (n0 : Nat) (Z0 : n0 ≤ h0.size)  :
    MetFree l (⟨"com/example/guessd/guessd/SuggestionIndex", "saturatedSum", "(JJ)J"⟩ : MethodName) (head1 (Jvm.Cond.code (⟨"com/example/guessd/guessd/SuggestionIndex", "saturatedSum", "(JJ)J"⟩ : MethodName) prog_20_method_16_code 4 (some .long) :: ws) ({ frames := 0, cells := 0, slots := 0, locals := 0 } : Room)) (fun a U => a = #[(.long q1), (.long q2)] ∧ Z.Warmed39 U.vm ∧ U.heap = h0) (fun _ _ _ _ _ => True) (fun _ U o U' => ∃ v L, o = .returned v ∧ Q1 Z q1 q2 h0 n0 v U'.heap L ∧ FrameEnd U o U' L ({ frames := 0, cells := 0, slots := 0, locals := 0 } : Room).cells ({ frames := 0, cells := 0, slots := 0, locals := 0 } : Room).slots) := by
  refine MetFree.of_bodySF (plainFor_of_name pn_1) hisR ?_
  intro p e s m args below meth c s₁ Bd hml0 hP hK
  obtain ⟨rfl, hZ, hh⟩ := hP
  have hx := Bd.exec
  have hby := Bd.bytes
  have hml : c.maxLocals = 4 := hml0
  have hown : s.vm.findClass "com/example/guessd/guessd/SuggestionIndex" = some m.cls := findClass_of_methodNamed Bd.named
  have hnm := (name_of_methodNamed Bd.named Bd.method).1
  have X0 : Stand p l e ({ frames := 0, cells := 0, slots := 0, locals := 0 } : Room) s m #[(.long q1), (.long q2)] below meth c s₁ [] 0 0 := Stand.of_body Bd
  have e0 : s₁.heap = h0 := by rw [← hh, Bd.state]; rfl
  have N0 := Fr.nil n0
  suffices hG : OwnG p e below s (Q1 Z q1 q2 h0 n0) ({ frames := 0, cells := 0, slots := 0, locals := 0 } : Room).cells ({ frames := 0, cells := 0, slots := 0, locals := 0 } : Room).slots s₁ (mkF m 0 #[.val (.long q1), .second, .val (.long q2), .second] []) by
    obtain ⟨s2, o2, g1, g2⟩ := hG
    exact ⟨s2, o2, castTop (ef_1 m q1 q2) g1, g2⟩
  have sg1 : ∀ t, Steps p.tables e below (s₁.setTop (mkF m 7 #[.val (.long q1), .second, .val (.long q2), .second] [(.int (lcmpW q1 ((9223372036854775807 : Int64) - q2)))])) t → Steps p.tables e below (s₁.setTop (mkF m 0 #[.val (.long q1), .second, .val (.long q2), .second] [])) t := by
    intro t k
    refine XS.lloadN X0.here hx rfl (hb hby d1_0) rfl ?_
    show Steps p.tables e below (s₁.setTop (mkF m 1 #[.val (.long q1), .second, .val (.long q2), .second] [(.long q1)])) _
    refine X0.ldc2Long hx hown (mvT hZ (hw _ (List.mem_of_getElem? (i := 5) rfl))) (g := (mkF m 1 #[.val (.long q1), .second, .val (.long q2), .second] [(.long q1)])) rfl (hb hby d1_1) _ ?_
    show Steps p.tables e below (s₁.setTop (mkF m 4 #[.val (.long q1), .second, .val (.long q2), .second] [(.long (9223372036854775807 : Int64)), (.long q1)])) _
    refine XS.lloadN X0.here hx rfl (hb hby d1_4) rfl ?_
    show Steps p.tables e below (s₁.setTop (mkF m 5 #[.val (.long q1), .second, .val (.long q2), .second] [(.long q2), (.long (9223372036854775807 : Int64)), (.long q1)])) _
    refine XS.lsub X0.here hx rfl (hb hby d1_5) rfl ?_
    show Steps p.tables e below (s₁.setTop (mkF m 6 #[.val (.long q1), .second, .val (.long q2), .second] [(.long ((9223372036854775807 : Int64) - q2)), (.long q1)])) _
    refine XS.lcmp X0.here hx rfl (hb hby d1_6) rfl ?_
    show Steps p.tables e below (s₁.setTop (mkF m 7 #[.val (.long q1), .second, .val (.long q2), .second] [(.int (lcmpW q1 ((9223372036854775807 : Int64) - q2)))])) _
    exact k
  refine OwnG.st sg1 ?_
  by_cases hc7_2 : ((9223372036854775807 : Int64) - q2) < q1
  · have sg3 : ∀ t, Steps p.tables e below (s₁.setTop (mkF m 19 #[.val (.long q1), .second, .val (.long q2), .second] [(.long (9223372036854775807 : Int64))])) t → Steps p.tables e below (s₁.setTop (mkF m 7 #[.val (.long q1), .second, .val (.long q2), .second] [(.int (lcmpW q1 ((9223372036854775807 : Int64) - q2)))])) t := by
      intro t k
      refine XS.ifNo X0.here hx rfl (hb hby d1_7) rfl ((if0 _ _).trans (tlt ((lw_gt q1 ((9223372036854775807 : Int64) - q2)).mpr hc7_2)).2.2.2) ?_
      show Steps p.tables e below (s₁.setTop (mkF m 10 #[.val (.long q1), .second, .val (.long q2), .second] [])) _
      refine X0.ldc2Long hx hown (mvT hZ (hw _ (List.mem_of_getElem? (i := 5) rfl))) (g := (mkF m 10 #[.val (.long q1), .second, .val (.long q2), .second] [])) rfl (hb hby d1_10) _ ?_
      show Steps p.tables e below (s₁.setTop (mkF m 13 #[.val (.long q1), .second, .val (.long q2), .second] [(.long (9223372036854775807 : Int64))])) _
      refine XS.goto X0.here hx rfl (pc0 := 13) (pc' := 19) rfl (hb hby d1_13) (by decide) (by decide) ?_
      show Steps p.tables e below (s₁.setTop (mkF m 19 #[.val (.long q1), .second, .val (.long q2), .second] [(.long (9223372036854775807 : Int64))])) _
      exact k
    refine OwnG.st sg3 ?_
    have hv : (9223372036854775807 : Int64) = F1 q1 q2 := by simp only [F1, if_pos hc7_2]
    exact OwnG.retJ X0 hx Bd.returns (BodyLoose.notSynchronized Bd) (hb hby d1_19) ⟨congrArg (fun w => some (Value.long w)) hv, N0, e0⟩ (by decide) (by decide)
  · have sg4 : ∀ t, Steps p.tables e below (s₁.setTop (mkF m 19 #[.val (.long q1), .second, .val (.long q2), .second] [(.long (q1 + q2))])) t → Steps p.tables e below (s₁.setTop (mkF m 7 #[.val (.long q1), .second, .val (.long q2), .second] [(.int (lcmpW q1 ((9223372036854775807 : Int64) - q2)))])) t := by
      intro t k
      refine XS.ifYes X0.here hx rfl (pc0 := 7) (pc' := 16) rfl (hb hby d1_7) rfl ((if0 _ _).trans (flt (mt (lw_gt q1 ((9223372036854775807 : Int64) - q2)).mp hc7_2)).2.2.2) (by decide) (by decide) ?_
      show Steps p.tables e below (s₁.setTop (mkF m 16 #[.val (.long q1), .second, .val (.long q2), .second] [])) _
      refine XS.lloadN X0.here hx rfl (hb hby d1_16) rfl ?_
      show Steps p.tables e below (s₁.setTop (mkF m 17 #[.val (.long q1), .second, .val (.long q2), .second] [(.long q1)])) _
      refine XS.lloadN X0.here hx rfl (hb hby d1_17) rfl ?_
      show Steps p.tables e below (s₁.setTop (mkF m 18 #[.val (.long q1), .second, .val (.long q2), .second] [(.long q2), (.long q1)])) _
      refine XS.ladd X0.here hx rfl (hb hby d1_18) rfl ?_
      show Steps p.tables e below (s₁.setTop (mkF m 19 #[.val (.long q1), .second, .val (.long q2), .second] [(.long (q1 + q2))])) _
      exact k
    refine OwnG.st sg4 ?_
    have hv : (q1 + q2) = F1 q1 q2 := by simp only [F1, if_neg hc7_2]
    exact OwnG.retJ X0 hx Bd.returns (BodyLoose.notSynchronized Bd) (hb hby d1_19) ⟨congrArg (fun w => some (Value.long w)) hv, N0, e0⟩ (by decide) (by decide)
theorem own_max (q : Int64) : 0 ≤ (q &&& (9223372036854775807 : Int64)).toInt := by
  have h1 := c_maskL q 9223372036854775807 63 (by decide) (by decide)
  rw [h1]; omega
theorem own_sat (a b : Int64) (ha : 0 ≤ a.toInt) (hb : 0 ≤ b.toInt) : F1 a b = (if (a + b) < (0 : Int64) then (9223372036854775807 : Int64) else (a + b)) := by
  have h1 := c_ladd a b
  have h2 := c_lsub 9223372036854775807 b
  have e0 : (0 : Int64).toInt = 0 := rfl
  have e1 : (9223372036854775807 : Int64).toInt = 9223372036854775807 := rfl
  have r1 := rng64 a
  have r2 := rng64 b
  have r3 := rng64 (a + b)
  have r4 := rng64 (9223372036854775807 - b)
  unfold F1
  by_cases c : (9223372036854775807 - b) < a <;> by_cases d : a + b < 0
  all_goals simp only [c, d, if_true, if_false]
  all_goals (exfalso; rw [Int64.lt_iff_toInt_lt] at c d; omega)
theorem own_b (a y z : Int64) (ha : 0 ≤ a.toInt) (hz : z = (if (((9223372036854775807 : Int64) - a) + ((y &&& (3 : Int64)) - (1 : Int64))) < (0 : Int64) then ((9223372036854775807 : Int64) - a) else (((9223372036854775807 : Int64) - a) + ((y &&& (3 : Int64)) - (1 : Int64))))) : 0 ≤ z.toInt := by
  have h2 := c_lsub 9223372036854775807 a
  have e0 : (0 : Int64).toInt = 0 := rfl
  have e1 : (9223372036854775807 : Int64).toInt = 9223372036854775807 := rfl
  have r1 := rng64 a
  have r4 := rng64 (9223372036854775807 - a)
  by_cases c : (((9223372036854775807 : Int64) - a) + ((y &&& (3 : Int64)) - (1 : Int64))) < (0 : Int64)
  · rw [hz, if_pos c]; omega
  · rw [hz, if_neg c]; rw [Int64.lt_iff_toInt_lt] at c; omega
theorem pn_0 : plainName "com/example/guessd/guessd/SuggestionIndexSaturatedSumPinLaw" = true := by first | (simp [plainName, overriddenIn]; done) | decide +kernel
theorem pd_0_0 : parseMethodDescriptor "(JJ)J" = some ⟨[.long, .long], some .long⟩ := by decide +kernel
theorem ef_0 (m : MethodId) (q1 : Int64) (q2 : Int64) (p3 : Int32) : entryFrame m #[(.long q1), (.long q2), (.int p3)] maxLocals = mkF m 0 #[.val (.long q1), .second, .val (.long q2), .second, .val (.int p3), .unset, .unset, .unset, .unset, .unset, .unset, .unset, .unset] [] := by first | (simp [entryFrame, mkF, argsToLocals, Value.category, maxLocals]; done) | rfl
def Q0 (Z : State) (q1 : Int64) (q2 : Int64) (p3 : Int32) (h0 : Heap) (n0 : Nat) (v : Option Value) (h : Heap) (L : List Loc) : Prop := v = some (.int 1) ∧ Fr n0 L
set_option maxRecDepth 65536 in
set_option maxHeartbeats 40000000 in
theorem rm0 (l : Launch) (Z : State) (a0 : Array Value) (hw : ∀ d ∈ tables_1, d.before a0 Z = true) (ws : List Jvm.Cond) (q1 : Int64) (q2 : Int64) (p3 : Int32)  (h0 : Heap) (n0 : Nat) (Z0 : n0 ≤ h0.size)  :
    MetFree l x (head1 (Jvm.Cond.code x code maxLocals ret :: ws) room_1) (fun a U => a = #[(.long q1), (.long q2), (.int p3)] ∧ Z.Warmed39 U.vm ∧ U.heap = h0) (fun _ _ _ _ _ => True) (fun _ U o U' => ∃ v L, o = .returned v ∧ Q0 Z q1 q2 p3 h0 n0 v U'.heap L ∧ FrameEnd U o U' L room_1.cells room_1.slots) := by
  refine MetFree.of_bodySF (plainFor_of_name pn_0) hisR ?_
  intro p e s m args below meth c s₁ Bd hml0 hP hK
  obtain ⟨rfl, hZ, hh⟩ := hP
  have hx := Bd.exec
  have hby := Bd.bytes
  have hml : c.maxLocals = 13 := hml0
  have hown : s.vm.findClass "com/example/guessd/guessd/SuggestionIndexSaturatedSumPinLaw" = some m.cls := findClass_of_methodNamed Bd.named
  have hnm := (name_of_methodNamed Bd.named Bd.method).1
  have X0 : Stand p l e room_1 s m #[(.long q1), (.long q2), (.int p3)] below meth c s₁ [] 0 0 := Stand.of_body Bd
  have e0 : s₁.heap = h0 := by rw [← hh, Bd.state]; rfl
  have N0 := Fr.nil n0
  suffices hG : OwnG p e below s (Q0 Z q1 q2 p3 h0 n0) room_1.cells room_1.slots s₁ (mkF m 0 #[.val (.long q1), .second, .val (.long q2), .second, .val (.int p3), .unset, .unset, .unset, .unset, .unset, .unset, .unset, .unset] []) by
    obtain ⟨s2, o2, g1, g2⟩ := hG
    exact ⟨s2, o2, castTop (ef_0 m q1 q2 p3) g1, g2⟩
  have sg1 : ∀ t, Steps p.tables e below (s₁.setTop (mkF m 11 #[.val (.long q1), .second, .val (.long q2), .second, .val (.int p3), .val (.long (q1 &&& (9223372036854775807 : Int64))), .second, .unset, .unset, .unset, .unset, .unset, .unset] [(.int (p3 &&& (1 : Int32)))])) t → Steps p.tables e below (s₁.setTop (mkF m 0 #[.val (.long q1), .second, .val (.long q2), .second, .val (.int p3), .unset, .unset, .unset, .unset, .unset, .unset, .unset, .unset] [])) t := by
    intro t k
    refine XS.lloadN X0.here hx rfl (hb hby at_0) rfl ?_
    show Steps p.tables e below (s₁.setTop (mkF m 1 #[.val (.long q1), .second, .val (.long q2), .second, .val (.int p3), .unset, .unset, .unset, .unset, .unset, .unset, .unset, .unset] [(.long q1)])) _
    refine X0.ldc2Long hx hown (mvT hZ (hw _ (List.mem_of_getElem? (i := 0) rfl))) (g := (mkF m 1 #[.val (.long q1), .second, .val (.long q2), .second, .val (.int p3), .unset, .unset, .unset, .unset, .unset, .unset, .unset, .unset] [(.long q1)])) rfl (hb hby at_1) _ ?_
    show Steps p.tables e below (s₁.setTop (mkF m 4 #[.val (.long q1), .second, .val (.long q2), .second, .val (.int p3), .unset, .unset, .unset, .unset, .unset, .unset, .unset, .unset] [(.long (9223372036854775807 : Int64)), (.long q1)])) _
    refine XS.land X0.here hx rfl (hb hby at_4) rfl ?_
    show Steps p.tables e below (s₁.setTop (mkF m 5 #[.val (.long q1), .second, .val (.long q2), .second, .val (.int p3), .unset, .unset, .unset, .unset, .unset, .unset, .unset, .unset] [(.long (q1 &&& (9223372036854775807 : Int64)))])) _
    refine XS.lstore X0.here hx rfl (hb hby at_5) rfl (l' := #[.val (.long q1), .second, .val (.long q2), .second, .val (.int p3), .val (.long (q1 &&& (9223372036854775807 : Int64))), .second, .unset, .unset, .unset, .unset, .unset, .unset]) rfl ?_
    show Steps p.tables e below (s₁.setTop (mkF m 7 #[.val (.long q1), .second, .val (.long q2), .second, .val (.int p3), .val (.long (q1 &&& (9223372036854775807 : Int64))), .second, .unset, .unset, .unset, .unset, .unset, .unset] [])) _
    refine XS.iload X0.here hx rfl (hb hby at_7) rfl ?_
    show Steps p.tables e below (s₁.setTop (mkF m 9 #[.val (.long q1), .second, .val (.long q2), .second, .val (.int p3), .val (.long (q1 &&& (9223372036854775807 : Int64))), .second, .unset, .unset, .unset, .unset, .unset, .unset] [(.int p3)])) _
    refine XS.iconst X0.here hx rfl (hb hby at_9) ?_
    show Steps p.tables e below (s₁.setTop (mkF m 10 #[.val (.long q1), .second, .val (.long q2), .second, .val (.int p3), .val (.long (q1 &&& (9223372036854775807 : Int64))), .second, .unset, .unset, .unset, .unset, .unset, .unset] [(.int (1 : Int32)), (.int p3)])) _
    refine XS.iand X0.here hx rfl (hb hby at_10) rfl ?_
    show Steps p.tables e below (s₁.setTop (mkF m 11 #[.val (.long q1), .second, .val (.long q2), .second, .val (.int p3), .val (.long (q1 &&& (9223372036854775807 : Int64))), .second, .unset, .unset, .unset, .unset, .unset, .unset] [(.int (p3 &&& (1 : Int32)))])) _
    exact k
  refine OwnG.st sg1 ?_
  by_cases hc11_5 : (p3 &&& (1 : Int32)) = (0 : Int32)
  · have sg6 : ∀ t, Steps p.tables e below (s₁.setTop (mkF m 70 #[.val (.long q1), .second, .val (.long q2), .second, .val (.int p3), .val (.long (q1 &&& (9223372036854775807 : Int64))), .second, .val (.long (q2 &&& (9223372036854775807 : Int64))), .second, .val (.long ((q1 &&& (9223372036854775807 : Int64)) + (q2 &&& (9223372036854775807 : Int64)))), .second, .unset, .unset] [(.int (lcmpW ((q1 &&& (9223372036854775807 : Int64)) + (q2 &&& (9223372036854775807 : Int64))) (0 : Int64)))])) t → Steps p.tables e below (s₁.setTop (mkF m 11 #[.val (.long q1), .second, .val (.long q2), .second, .val (.int p3), .val (.long (q1 &&& (9223372036854775807 : Int64))), .second, .unset, .unset, .unset, .unset, .unset, .unset] [(.int (p3 &&& (1 : Int32)))])) t := by
      intro t k
      refine XS.ifYes X0.here hx rfl (pc0 := 11) (pc' := 52) rfl (hb hby at_11) rfl ((if0 _ _).trans (teq hc11_5).1) (by decide) (by decide) ?_
      show Steps p.tables e below (s₁.setTop (mkF m 52 #[.val (.long q1), .second, .val (.long q2), .second, .val (.int p3), .val (.long (q1 &&& (9223372036854775807 : Int64))), .second, .unset, .unset, .unset, .unset, .unset, .unset] [])) _
      refine XS.lloadN X0.here hx rfl (hb hby at_52) rfl ?_
      show Steps p.tables e below (s₁.setTop (mkF m 53 #[.val (.long q1), .second, .val (.long q2), .second, .val (.int p3), .val (.long (q1 &&& (9223372036854775807 : Int64))), .second, .unset, .unset, .unset, .unset, .unset, .unset] [(.long q2)])) _
      refine X0.ldc2Long hx hown (mvT hZ (hw _ (List.mem_of_getElem? (i := 0) rfl))) (g := (mkF m 53 #[.val (.long q1), .second, .val (.long q2), .second, .val (.int p3), .val (.long (q1 &&& (9223372036854775807 : Int64))), .second, .unset, .unset, .unset, .unset, .unset, .unset] [(.long q2)])) rfl (hb hby at_53) _ ?_
      show Steps p.tables e below (s₁.setTop (mkF m 56 #[.val (.long q1), .second, .val (.long q2), .second, .val (.int p3), .val (.long (q1 &&& (9223372036854775807 : Int64))), .second, .unset, .unset, .unset, .unset, .unset, .unset] [(.long (9223372036854775807 : Int64)), (.long q2)])) _
      refine XS.land X0.here hx rfl (hb hby at_56) rfl ?_
      show Steps p.tables e below (s₁.setTop (mkF m 57 #[.val (.long q1), .second, .val (.long q2), .second, .val (.int p3), .val (.long (q1 &&& (9223372036854775807 : Int64))), .second, .unset, .unset, .unset, .unset, .unset, .unset] [(.long (q2 &&& (9223372036854775807 : Int64)))])) _
      refine XS.lstore X0.here hx rfl (hb hby at_57) rfl (l' := #[.val (.long q1), .second, .val (.long q2), .second, .val (.int p3), .val (.long (q1 &&& (9223372036854775807 : Int64))), .second, .val (.long (q2 &&& (9223372036854775807 : Int64))), .second, .unset, .unset, .unset, .unset]) rfl ?_
      show Steps p.tables e below (s₁.setTop (mkF m 59 #[.val (.long q1), .second, .val (.long q2), .second, .val (.int p3), .val (.long (q1 &&& (9223372036854775807 : Int64))), .second, .val (.long (q2 &&& (9223372036854775807 : Int64))), .second, .unset, .unset, .unset, .unset] [])) _
      refine XS.lload X0.here hx rfl (hb hby at_59) rfl ?_
      show Steps p.tables e below (s₁.setTop (mkF m 61 #[.val (.long q1), .second, .val (.long q2), .second, .val (.int p3), .val (.long (q1 &&& (9223372036854775807 : Int64))), .second, .val (.long (q2 &&& (9223372036854775807 : Int64))), .second, .unset, .unset, .unset, .unset] [(.long (q1 &&& (9223372036854775807 : Int64)))])) _
      refine XS.lload X0.here hx rfl (hb hby at_61) rfl ?_
      show Steps p.tables e below (s₁.setTop (mkF m 63 #[.val (.long q1), .second, .val (.long q2), .second, .val (.int p3), .val (.long (q1 &&& (9223372036854775807 : Int64))), .second, .val (.long (q2 &&& (9223372036854775807 : Int64))), .second, .unset, .unset, .unset, .unset] [(.long (q2 &&& (9223372036854775807 : Int64))), (.long (q1 &&& (9223372036854775807 : Int64)))])) _
      refine XS.ladd X0.here hx rfl (hb hby at_63) rfl ?_
      show Steps p.tables e below (s₁.setTop (mkF m 64 #[.val (.long q1), .second, .val (.long q2), .second, .val (.int p3), .val (.long (q1 &&& (9223372036854775807 : Int64))), .second, .val (.long (q2 &&& (9223372036854775807 : Int64))), .second, .unset, .unset, .unset, .unset] [(.long ((q1 &&& (9223372036854775807 : Int64)) + (q2 &&& (9223372036854775807 : Int64))))])) _
      refine XS.lstore X0.here hx rfl (hb hby at_64) rfl (l' := #[.val (.long q1), .second, .val (.long q2), .second, .val (.int p3), .val (.long (q1 &&& (9223372036854775807 : Int64))), .second, .val (.long (q2 &&& (9223372036854775807 : Int64))), .second, .val (.long ((q1 &&& (9223372036854775807 : Int64)) + (q2 &&& (9223372036854775807 : Int64)))), .second, .unset, .unset]) rfl ?_
      show Steps p.tables e below (s₁.setTop (mkF m 66 #[.val (.long q1), .second, .val (.long q2), .second, .val (.int p3), .val (.long (q1 &&& (9223372036854775807 : Int64))), .second, .val (.long (q2 &&& (9223372036854775807 : Int64))), .second, .val (.long ((q1 &&& (9223372036854775807 : Int64)) + (q2 &&& (9223372036854775807 : Int64)))), .second, .unset, .unset] [])) _
      refine XS.lload X0.here hx rfl (hb hby at_66) rfl ?_
      show Steps p.tables e below (s₁.setTop (mkF m 68 #[.val (.long q1), .second, .val (.long q2), .second, .val (.int p3), .val (.long (q1 &&& (9223372036854775807 : Int64))), .second, .val (.long (q2 &&& (9223372036854775807 : Int64))), .second, .val (.long ((q1 &&& (9223372036854775807 : Int64)) + (q2 &&& (9223372036854775807 : Int64)))), .second, .unset, .unset] [(.long ((q1 &&& (9223372036854775807 : Int64)) + (q2 &&& (9223372036854775807 : Int64))))])) _
      refine XS.lconst X0.here hx rfl (hb hby at_68) ?_
      show Steps p.tables e below (s₁.setTop (mkF m 69 #[.val (.long q1), .second, .val (.long q2), .second, .val (.int p3), .val (.long (q1 &&& (9223372036854775807 : Int64))), .second, .val (.long (q2 &&& (9223372036854775807 : Int64))), .second, .val (.long ((q1 &&& (9223372036854775807 : Int64)) + (q2 &&& (9223372036854775807 : Int64)))), .second, .unset, .unset] [(.long (0 : Int64)), (.long ((q1 &&& (9223372036854775807 : Int64)) + (q2 &&& (9223372036854775807 : Int64))))])) _
      refine XS.lcmp X0.here hx rfl (hb hby at_69) rfl ?_
      show Steps p.tables e below (s₁.setTop (mkF m 70 #[.val (.long q1), .second, .val (.long q2), .second, .val (.int p3), .val (.long (q1 &&& (9223372036854775807 : Int64))), .second, .val (.long (q2 &&& (9223372036854775807 : Int64))), .second, .val (.long ((q1 &&& (9223372036854775807 : Int64)) + (q2 &&& (9223372036854775807 : Int64)))), .second, .unset, .unset] [(.int (lcmpW ((q1 &&& (9223372036854775807 : Int64)) + (q2 &&& (9223372036854775807 : Int64))) (0 : Int64)))])) _
      exact k
    refine OwnG.st sg6 ?_
    obtain ⟨z81_8, hz81_8⟩ : ∃ w : Int64, w = (if ((q1 &&& (9223372036854775807 : Int64)) + (q2 &&& (9223372036854775807 : Int64))) < (0 : Int64) then (9223372036854775807 : Int64) else ((q1 &&& (9223372036854775807 : Int64)) + (q2 &&& (9223372036854775807 : Int64)))) := ⟨_, rfl⟩
    have dj9 : ∀ t, Steps p.tables e below (s₁.setTop (mkF m 81 #[.val (.long q1), .second, .val (.long q2), .second, .val (.int p3), .val (.long (q1 &&& (9223372036854775807 : Int64))), .second, .val (.long (q2 &&& (9223372036854775807 : Int64))), .second, .val (.long ((q1 &&& (9223372036854775807 : Int64)) + (q2 &&& (9223372036854775807 : Int64)))), .second, .unset, .unset] [(.long z81_8)])) t → Steps p.tables e below (s₁.setTop (mkF m 70 #[.val (.long q1), .second, .val (.long q2), .second, .val (.int p3), .val (.long (q1 &&& (9223372036854775807 : Int64))), .second, .val (.long (q2 &&& (9223372036854775807 : Int64))), .second, .val (.long ((q1 &&& (9223372036854775807 : Int64)) + (q2 &&& (9223372036854775807 : Int64)))), .second, .unset, .unset] [(.int (lcmpW ((q1 &&& (9223372036854775807 : Int64)) + (q2 &&& (9223372036854775807 : Int64))) (0 : Int64)))])) t := by
      intro t k
      by_cases hc70_7 : ((q1 &&& (9223372036854775807 : Int64)) + (q2 &&& (9223372036854775807 : Int64))) < (0 : Int64)
      · have qz81_8 : z81_8 = (9223372036854775807 : Int64) := by rw [hz81_8, if_pos hc70_7]
        rw [qz81_8] at k
        refine XS.ifNo X0.here hx rfl (hb hby at_70) rfl ((if0 _ _).trans (tlt ((lw_lt ((q1 &&& (9223372036854775807 : Int64)) + (q2 &&& (9223372036854775807 : Int64))) (0 : Int64)).mpr hc70_7)).2.1) ?_
        show Steps p.tables e below (s₁.setTop (mkF m 73 #[.val (.long q1), .second, .val (.long q2), .second, .val (.int p3), .val (.long (q1 &&& (9223372036854775807 : Int64))), .second, .val (.long (q2 &&& (9223372036854775807 : Int64))), .second, .val (.long ((q1 &&& (9223372036854775807 : Int64)) + (q2 &&& (9223372036854775807 : Int64)))), .second, .unset, .unset] [])) _
        refine X0.ldc2Long hx hown (mvT hZ (hw _ (List.mem_of_getElem? (i := 0) rfl))) (g := (mkF m 73 #[.val (.long q1), .second, .val (.long q2), .second, .val (.int p3), .val (.long (q1 &&& (9223372036854775807 : Int64))), .second, .val (.long (q2 &&& (9223372036854775807 : Int64))), .second, .val (.long ((q1 &&& (9223372036854775807 : Int64)) + (q2 &&& (9223372036854775807 : Int64)))), .second, .unset, .unset] [])) rfl (hb hby at_73) _ ?_
        show Steps p.tables e below (s₁.setTop (mkF m 76 #[.val (.long q1), .second, .val (.long q2), .second, .val (.int p3), .val (.long (q1 &&& (9223372036854775807 : Int64))), .second, .val (.long (q2 &&& (9223372036854775807 : Int64))), .second, .val (.long ((q1 &&& (9223372036854775807 : Int64)) + (q2 &&& (9223372036854775807 : Int64)))), .second, .unset, .unset] [(.long (9223372036854775807 : Int64))])) _
        refine XS.goto X0.here hx rfl (pc0 := 76) (pc' := 81) rfl (hb hby at_76) (by decide) (by decide) ?_
        show Steps p.tables e below (s₁.setTop (mkF m 81 #[.val (.long q1), .second, .val (.long q2), .second, .val (.int p3), .val (.long (q1 &&& (9223372036854775807 : Int64))), .second, .val (.long (q2 &&& (9223372036854775807 : Int64))), .second, .val (.long ((q1 &&& (9223372036854775807 : Int64)) + (q2 &&& (9223372036854775807 : Int64)))), .second, .unset, .unset] [(.long (9223372036854775807 : Int64))])) _
        exact k
      · have qz81_8 : z81_8 = ((q1 &&& (9223372036854775807 : Int64)) + (q2 &&& (9223372036854775807 : Int64))) := by rw [hz81_8, if_neg hc70_7]
        rw [qz81_8] at k
        refine XS.ifYes X0.here hx rfl (pc0 := 70) (pc' := 79) rfl (hb hby at_70) rfl ((if0 _ _).trans (flt (mt (lw_lt ((q1 &&& (9223372036854775807 : Int64)) + (q2 &&& (9223372036854775807 : Int64))) (0 : Int64)).mp hc70_7)).2.1) (by decide) (by decide) ?_
        show Steps p.tables e below (s₁.setTop (mkF m 79 #[.val (.long q1), .second, .val (.long q2), .second, .val (.int p3), .val (.long (q1 &&& (9223372036854775807 : Int64))), .second, .val (.long (q2 &&& (9223372036854775807 : Int64))), .second, .val (.long ((q1 &&& (9223372036854775807 : Int64)) + (q2 &&& (9223372036854775807 : Int64)))), .second, .unset, .unset] [])) _
        refine XS.lload X0.here hx rfl (hb hby at_79) rfl ?_
        show Steps p.tables e below (s₁.setTop (mkF m 81 #[.val (.long q1), .second, .val (.long q2), .second, .val (.int p3), .val (.long (q1 &&& (9223372036854775807 : Int64))), .second, .val (.long (q2 &&& (9223372036854775807 : Int64))), .second, .val (.long ((q1 &&& (9223372036854775807 : Int64)) + (q2 &&& (9223372036854775807 : Int64)))), .second, .unset, .unset] [(.long ((q1 &&& (9223372036854775807 : Int64)) + (q2 &&& (9223372036854775807 : Int64))))])) _
        exact k
    refine OwnG.st dj9 ?_
    have sg10 : ∀ t, Steps p.tables e below (s₁.setTop (mkF m 87 #[.val (.long q1), .second, .val (.long q2), .second, .val (.int p3), .val (.long (q1 &&& (9223372036854775807 : Int64))), .second, .val (.long (q2 &&& (9223372036854775807 : Int64))), .second, .val (.long ((q1 &&& (9223372036854775807 : Int64)) + (q2 &&& (9223372036854775807 : Int64)))), .second, .val (.long z81_8), .second] [(.long (q2 &&& (9223372036854775807 : Int64))), (.long (q1 &&& (9223372036854775807 : Int64)))])) t → Steps p.tables e below (s₁.setTop (mkF m 81 #[.val (.long q1), .second, .val (.long q2), .second, .val (.int p3), .val (.long (q1 &&& (9223372036854775807 : Int64))), .second, .val (.long (q2 &&& (9223372036854775807 : Int64))), .second, .val (.long ((q1 &&& (9223372036854775807 : Int64)) + (q2 &&& (9223372036854775807 : Int64)))), .second, .unset, .unset] [(.long z81_8)])) t := by
      intro t k
      refine XS.lstore X0.here hx rfl (hb hby at_81) rfl (l' := #[.val (.long q1), .second, .val (.long q2), .second, .val (.int p3), .val (.long (q1 &&& (9223372036854775807 : Int64))), .second, .val (.long (q2 &&& (9223372036854775807 : Int64))), .second, .val (.long ((q1 &&& (9223372036854775807 : Int64)) + (q2 &&& (9223372036854775807 : Int64)))), .second, .val (.long z81_8), .second]) rfl ?_
      show Steps p.tables e below (s₁.setTop (mkF m 83 #[.val (.long q1), .second, .val (.long q2), .second, .val (.int p3), .val (.long (q1 &&& (9223372036854775807 : Int64))), .second, .val (.long (q2 &&& (9223372036854775807 : Int64))), .second, .val (.long ((q1 &&& (9223372036854775807 : Int64)) + (q2 &&& (9223372036854775807 : Int64)))), .second, .val (.long z81_8), .second] [])) _
      refine XS.lload X0.here hx rfl (hb hby at_83) rfl ?_
      show Steps p.tables e below (s₁.setTop (mkF m 85 #[.val (.long q1), .second, .val (.long q2), .second, .val (.int p3), .val (.long (q1 &&& (9223372036854775807 : Int64))), .second, .val (.long (q2 &&& (9223372036854775807 : Int64))), .second, .val (.long ((q1 &&& (9223372036854775807 : Int64)) + (q2 &&& (9223372036854775807 : Int64)))), .second, .val (.long z81_8), .second] [(.long (q1 &&& (9223372036854775807 : Int64)))])) _
      refine XS.lload X0.here hx rfl (hb hby at_85) rfl ?_
      show Steps p.tables e below (s₁.setTop (mkF m 87 #[.val (.long q1), .second, .val (.long q2), .second, .val (.int p3), .val (.long (q1 &&& (9223372036854775807 : Int64))), .second, .val (.long (q2 &&& (9223372036854775807 : Int64))), .second, .val (.long ((q1 &&& (9223372036854775807 : Int64)) + (q2 &&& (9223372036854775807 : Int64)))), .second, .val (.long z81_8), .second] [(.long (q2 &&& (9223372036854775807 : Int64))), (.long (q1 &&& (9223372036854775807 : Int64)))])) _
      exact k
    refine OwnG.st sg10 ?_
    obtain ⟨_, _, ⟨T11, L11, k11, n11⟩, -, X11, ⟨Lc11, hQ11, l11, y11, z11⟩, st11⟩ := Jvm.LawKit.callS X0 hx (y := (⟨"com/example/guessd/guessd/SuggestionIndex", "saturatedSum", "(JJ)J"⟩ : MethodName)) hown (mvT hZ (hw _ (List.mem_of_getElem? (i := 1) rfl))) (mvT hZ (hw _ (List.mem_of_getElem? (i := 2) rfl))) (mvT hZ (hw _ (List.mem_of_getElem? (i := 3) rfl))) (mvT hZ (hw _ (List.mem_of_getElem? (i := 4) rfl))) (by decide) (backOf (W := 0) (rm1 l Z a0 hw [] (q1 &&& (9223372036854775807 : Int64)) (q2 &&& (9223372036854775807 : Int64))  h0 n0 Z0 ) hZ (hw _ (List.mem_of_getElem? (i := 4) rfl)) (hw _ (List.mem_of_getElem? (i := 3) rfl)) (by decide) (by decide)) (g := (mkF m 87 #[.val (.long q1), .second, .val (.long q2), .second, .val (.int p3), .val (.long (q1 &&& (9223372036854775807 : Int64))), .second, .val (.long (q2 &&& (9223372036854775807 : Int64))), .second, .val (.long ((q1 &&& (9223372036854775807 : Int64)) + (q2 &&& (9223372036854775807 : Int64)))), .second, .val (.long z81_8), .second] [(.long (q2 &&& (9223372036854775807 : Int64))), (.long (q1 &&& (9223372036854775807 : Int64)))])) rfl (by rw [hml]; rfl) (argsL := [(.long (q1 &&& (9223372036854775807 : Int64))), (.long (q2 &&& (9223372036854775807 : Int64)))]) (rest := []) (lenOf pd_0_0 rfl) rfl (by show 2 * 0 + _ ≤ _; exact Nat.le_of_eq rfl) (hb hby at_87) (fun _ _ => ⟨rfl, e0, (by decide : 0 + 0 ≤ _), (by decide : 0 + 0 ≤ _)⟩)
    dsimp only [Pt.U, Pt.locs, Pt.cells, Pt.slots] at X11 l11 y11 z11 st11 hQ11
    subst l11 y11 z11
    obtain ⟨rfl, N11q, e11⟩ := hQ11
    have N11 := Fr.app N0 N11q
    refine OwnG.st (fun t k => st11 t k) ?_
    show OwnG p e below s _ _ _ T11 (mkF m 90 #[.val (.long q1), .second, .val (.long q2), .second, .val (.int p3), .val (.long (q1 &&& (9223372036854775807 : Int64))), .second, .val (.long (q2 &&& (9223372036854775807 : Int64))), .second, .val (.long ((q1 &&& (9223372036854775807 : Int64)) + (q2 &&& (9223372036854775807 : Int64)))), .second, .val (.long z81_8), .second] [(.long (F1 (q1 &&& (9223372036854775807 : Int64)) (q2 &&& (9223372036854775807 : Int64))))])
    have hc93_12 : (F1 (q1 &&& (9223372036854775807 : Int64)) (q2 &&& (9223372036854775807 : Int64))) = z81_8 := by rw [hz81_8]; exact own_sat _ _ (own_max _) (own_max _)
    have sg13 : ∀ t, Steps p.tables e below (T11.setTop (mkF m 101 #[.val (.long q1), .second, .val (.long q2), .second, .val (.int p3), .val (.long (q1 &&& (9223372036854775807 : Int64))), .second, .val (.long (q2 &&& (9223372036854775807 : Int64))), .second, .val (.long ((q1 &&& (9223372036854775807 : Int64)) + (q2 &&& (9223372036854775807 : Int64)))), .second, .val (.long z81_8), .second] [(.int (1 : Int32))])) t → Steps p.tables e below (T11.setTop (mkF m 90 #[.val (.long q1), .second, .val (.long q2), .second, .val (.int p3), .val (.long (q1 &&& (9223372036854775807 : Int64))), .second, .val (.long (q2 &&& (9223372036854775807 : Int64))), .second, .val (.long ((q1 &&& (9223372036854775807 : Int64)) + (q2 &&& (9223372036854775807 : Int64)))), .second, .val (.long z81_8), .second] [(.long (F1 (q1 &&& (9223372036854775807 : Int64)) (q2 &&& (9223372036854775807 : Int64))))])) t := by
      intro t k
      refine XS.lload X11.here hx rfl (hb hby at_90) rfl ?_
      show Steps p.tables e below (T11.setTop (mkF m 92 #[.val (.long q1), .second, .val (.long q2), .second, .val (.int p3), .val (.long (q1 &&& (9223372036854775807 : Int64))), .second, .val (.long (q2 &&& (9223372036854775807 : Int64))), .second, .val (.long ((q1 &&& (9223372036854775807 : Int64)) + (q2 &&& (9223372036854775807 : Int64)))), .second, .val (.long z81_8), .second] [(.long z81_8), (.long (F1 (q1 &&& (9223372036854775807 : Int64)) (q2 &&& (9223372036854775807 : Int64))))])) _
      refine XS.lcmp X11.here hx rfl (hb hby at_92) rfl ?_
      show Steps p.tables e below (T11.setTop (mkF m 93 #[.val (.long q1), .second, .val (.long q2), .second, .val (.int p3), .val (.long (q1 &&& (9223372036854775807 : Int64))), .second, .val (.long (q2 &&& (9223372036854775807 : Int64))), .second, .val (.long ((q1 &&& (9223372036854775807 : Int64)) + (q2 &&& (9223372036854775807 : Int64)))), .second, .val (.long z81_8), .second] [(.int (lcmpW (F1 (q1 &&& (9223372036854775807 : Int64)) (q2 &&& (9223372036854775807 : Int64))) z81_8))])) _
      refine XS.ifNo X11.here hx rfl (hb hby at_93) rfl ((if0 _ _).trans (teq ((lw_eq (F1 (q1 &&& (9223372036854775807 : Int64)) (q2 &&& (9223372036854775807 : Int64))) z81_8).mpr hc93_12)).2) ?_
      show Steps p.tables e below (T11.setTop (mkF m 96 #[.val (.long q1), .second, .val (.long q2), .second, .val (.int p3), .val (.long (q1 &&& (9223372036854775807 : Int64))), .second, .val (.long (q2 &&& (9223372036854775807 : Int64))), .second, .val (.long ((q1 &&& (9223372036854775807 : Int64)) + (q2 &&& (9223372036854775807 : Int64)))), .second, .val (.long z81_8), .second] [])) _
      refine XS.iconst X11.here hx rfl (hb hby at_96) ?_
      show Steps p.tables e below (T11.setTop (mkF m 97 #[.val (.long q1), .second, .val (.long q2), .second, .val (.int p3), .val (.long (q1 &&& (9223372036854775807 : Int64))), .second, .val (.long (q2 &&& (9223372036854775807 : Int64))), .second, .val (.long ((q1 &&& (9223372036854775807 : Int64)) + (q2 &&& (9223372036854775807 : Int64)))), .second, .val (.long z81_8), .second] [(.int (1 : Int32))])) _
      refine XS.goto X11.here hx rfl (pc0 := 97) (pc' := 101) rfl (hb hby at_97) (by decide) (by decide) ?_
      show Steps p.tables e below (T11.setTop (mkF m 101 #[.val (.long q1), .second, .val (.long q2), .second, .val (.int p3), .val (.long (q1 &&& (9223372036854775807 : Int64))), .second, .val (.long (q2 &&& (9223372036854775807 : Int64))), .second, .val (.long ((q1 &&& (9223372036854775807 : Int64)) + (q2 &&& (9223372036854775807 : Int64)))), .second, .val (.long z81_8), .second] [(.int (1 : Int32))])) _
      exact k
    refine OwnG.st sg13 ?_
    have hv : (1 : Int32) = 1 := rfl
    exact OwnG.retN X11 hx (t := .boolean) (by simp) Bd.returns (BodyLoose.notSynchronized Bd) (hb hby at_101) ⟨congrArg (fun w => some (Value.int (nar .boolean w))) hv, N11⟩ (by decide) (by decide)
  · have sg14 : ∀ t, Steps p.tables e below (s₁.setTop (mkF m 42 #[.val (.long q1), .second, .val (.long q2), .second, .val (.int p3), .val (.long (q1 &&& (9223372036854775807 : Int64))), .second, .val (.long (((9223372036854775807 : Int64) - (q1 &&& (9223372036854775807 : Int64))) + ((q2 &&& (3 : Int64)) - (1 : Int64)))), .second, .val (.long ((9223372036854775807 : Int64) - (q1 &&& (9223372036854775807 : Int64)))), .second, .val (.long ((q2 &&& (3 : Int64)) - (1 : Int64))), .second] [(.int (lcmpW (((9223372036854775807 : Int64) - (q1 &&& (9223372036854775807 : Int64))) + ((q2 &&& (3 : Int64)) - (1 : Int64))) (0 : Int64)))])) t → Steps p.tables e below (s₁.setTop (mkF m 11 #[.val (.long q1), .second, .val (.long q2), .second, .val (.int p3), .val (.long (q1 &&& (9223372036854775807 : Int64))), .second, .unset, .unset, .unset, .unset, .unset, .unset] [(.int (p3 &&& (1 : Int32)))])) t := by
      intro t k
      refine XS.ifNo X0.here hx rfl (hb hby at_11) rfl ((if0 _ _).trans (feq hc11_5).1) ?_
      show Steps p.tables e below (s₁.setTop (mkF m 14 #[.val (.long q1), .second, .val (.long q2), .second, .val (.int p3), .val (.long (q1 &&& (9223372036854775807 : Int64))), .second, .unset, .unset, .unset, .unset, .unset, .unset] [])) _
      refine X0.ldc2Long hx hown (mvT hZ (hw _ (List.mem_of_getElem? (i := 0) rfl))) (g := (mkF m 14 #[.val (.long q1), .second, .val (.long q2), .second, .val (.int p3), .val (.long (q1 &&& (9223372036854775807 : Int64))), .second, .unset, .unset, .unset, .unset, .unset, .unset] [])) rfl (hb hby at_14) _ ?_
      show Steps p.tables e below (s₁.setTop (mkF m 17 #[.val (.long q1), .second, .val (.long q2), .second, .val (.int p3), .val (.long (q1 &&& (9223372036854775807 : Int64))), .second, .unset, .unset, .unset, .unset, .unset, .unset] [(.long (9223372036854775807 : Int64))])) _
      refine XS.lload X0.here hx rfl (hb hby at_17) rfl ?_
      show Steps p.tables e below (s₁.setTop (mkF m 19 #[.val (.long q1), .second, .val (.long q2), .second, .val (.int p3), .val (.long (q1 &&& (9223372036854775807 : Int64))), .second, .unset, .unset, .unset, .unset, .unset, .unset] [(.long (q1 &&& (9223372036854775807 : Int64))), (.long (9223372036854775807 : Int64))])) _
      refine XS.lsub X0.here hx rfl (hb hby at_19) rfl ?_
      show Steps p.tables e below (s₁.setTop (mkF m 20 #[.val (.long q1), .second, .val (.long q2), .second, .val (.int p3), .val (.long (q1 &&& (9223372036854775807 : Int64))), .second, .unset, .unset, .unset, .unset, .unset, .unset] [(.long ((9223372036854775807 : Int64) - (q1 &&& (9223372036854775807 : Int64))))])) _
      refine XS.lstore X0.here hx rfl (hb hby at_20) rfl (l' := #[.val (.long q1), .second, .val (.long q2), .second, .val (.int p3), .val (.long (q1 &&& (9223372036854775807 : Int64))), .second, .unset, .unset, .val (.long ((9223372036854775807 : Int64) - (q1 &&& (9223372036854775807 : Int64)))), .second, .unset, .unset]) rfl ?_
      show Steps p.tables e below (s₁.setTop (mkF m 22 #[.val (.long q1), .second, .val (.long q2), .second, .val (.int p3), .val (.long (q1 &&& (9223372036854775807 : Int64))), .second, .unset, .unset, .val (.long ((9223372036854775807 : Int64) - (q1 &&& (9223372036854775807 : Int64)))), .second, .unset, .unset] [])) _
      refine XS.lloadN X0.here hx rfl (hb hby at_22) rfl ?_
      show Steps p.tables e below (s₁.setTop (mkF m 23 #[.val (.long q1), .second, .val (.long q2), .second, .val (.int p3), .val (.long (q1 &&& (9223372036854775807 : Int64))), .second, .unset, .unset, .val (.long ((9223372036854775807 : Int64) - (q1 &&& (9223372036854775807 : Int64)))), .second, .unset, .unset] [(.long q2)])) _
      refine X0.ldc2Long hx hown (mvT hZ (hw _ (List.mem_of_getElem? (i := 6) rfl))) (g := (mkF m 23 #[.val (.long q1), .second, .val (.long q2), .second, .val (.int p3), .val (.long (q1 &&& (9223372036854775807 : Int64))), .second, .unset, .unset, .val (.long ((9223372036854775807 : Int64) - (q1 &&& (9223372036854775807 : Int64)))), .second, .unset, .unset] [(.long q2)])) rfl (hb hby at_23) _ ?_
      show Steps p.tables e below (s₁.setTop (mkF m 26 #[.val (.long q1), .second, .val (.long q2), .second, .val (.int p3), .val (.long (q1 &&& (9223372036854775807 : Int64))), .second, .unset, .unset, .val (.long ((9223372036854775807 : Int64) - (q1 &&& (9223372036854775807 : Int64)))), .second, .unset, .unset] [(.long (3 : Int64)), (.long q2)])) _
      refine XS.land X0.here hx rfl (hb hby at_26) rfl ?_
      show Steps p.tables e below (s₁.setTop (mkF m 27 #[.val (.long q1), .second, .val (.long q2), .second, .val (.int p3), .val (.long (q1 &&& (9223372036854775807 : Int64))), .second, .unset, .unset, .val (.long ((9223372036854775807 : Int64) - (q1 &&& (9223372036854775807 : Int64)))), .second, .unset, .unset] [(.long (q2 &&& (3 : Int64)))])) _
      refine XS.lconst X0.here hx rfl (hb hby at_27) ?_
      show Steps p.tables e below (s₁.setTop (mkF m 28 #[.val (.long q1), .second, .val (.long q2), .second, .val (.int p3), .val (.long (q1 &&& (9223372036854775807 : Int64))), .second, .unset, .unset, .val (.long ((9223372036854775807 : Int64) - (q1 &&& (9223372036854775807 : Int64)))), .second, .unset, .unset] [(.long (1 : Int64)), (.long (q2 &&& (3 : Int64)))])) _
      refine XS.lsub X0.here hx rfl (hb hby at_28) rfl ?_
      show Steps p.tables e below (s₁.setTop (mkF m 29 #[.val (.long q1), .second, .val (.long q2), .second, .val (.int p3), .val (.long (q1 &&& (9223372036854775807 : Int64))), .second, .unset, .unset, .val (.long ((9223372036854775807 : Int64) - (q1 &&& (9223372036854775807 : Int64)))), .second, .unset, .unset] [(.long ((q2 &&& (3 : Int64)) - (1 : Int64)))])) _
      refine XS.lstore X0.here hx rfl (hb hby at_29) rfl (l' := #[.val (.long q1), .second, .val (.long q2), .second, .val (.int p3), .val (.long (q1 &&& (9223372036854775807 : Int64))), .second, .unset, .unset, .val (.long ((9223372036854775807 : Int64) - (q1 &&& (9223372036854775807 : Int64)))), .second, .val (.long ((q2 &&& (3 : Int64)) - (1 : Int64))), .second]) rfl ?_
      show Steps p.tables e below (s₁.setTop (mkF m 31 #[.val (.long q1), .second, .val (.long q2), .second, .val (.int p3), .val (.long (q1 &&& (9223372036854775807 : Int64))), .second, .unset, .unset, .val (.long ((9223372036854775807 : Int64) - (q1 &&& (9223372036854775807 : Int64)))), .second, .val (.long ((q2 &&& (3 : Int64)) - (1 : Int64))), .second] [])) _
      refine XS.lload X0.here hx rfl (hb hby at_31) rfl ?_
      show Steps p.tables e below (s₁.setTop (mkF m 33 #[.val (.long q1), .second, .val (.long q2), .second, .val (.int p3), .val (.long (q1 &&& (9223372036854775807 : Int64))), .second, .unset, .unset, .val (.long ((9223372036854775807 : Int64) - (q1 &&& (9223372036854775807 : Int64)))), .second, .val (.long ((q2 &&& (3 : Int64)) - (1 : Int64))), .second] [(.long ((9223372036854775807 : Int64) - (q1 &&& (9223372036854775807 : Int64))))])) _
      refine XS.lload X0.here hx rfl (hb hby at_33) rfl ?_
      show Steps p.tables e below (s₁.setTop (mkF m 35 #[.val (.long q1), .second, .val (.long q2), .second, .val (.int p3), .val (.long (q1 &&& (9223372036854775807 : Int64))), .second, .unset, .unset, .val (.long ((9223372036854775807 : Int64) - (q1 &&& (9223372036854775807 : Int64)))), .second, .val (.long ((q2 &&& (3 : Int64)) - (1 : Int64))), .second] [(.long ((q2 &&& (3 : Int64)) - (1 : Int64))), (.long ((9223372036854775807 : Int64) - (q1 &&& (9223372036854775807 : Int64))))])) _
      refine XS.ladd X0.here hx rfl (hb hby at_35) rfl ?_
      show Steps p.tables e below (s₁.setTop (mkF m 36 #[.val (.long q1), .second, .val (.long q2), .second, .val (.int p3), .val (.long (q1 &&& (9223372036854775807 : Int64))), .second, .unset, .unset, .val (.long ((9223372036854775807 : Int64) - (q1 &&& (9223372036854775807 : Int64)))), .second, .val (.long ((q2 &&& (3 : Int64)) - (1 : Int64))), .second] [(.long (((9223372036854775807 : Int64) - (q1 &&& (9223372036854775807 : Int64))) + ((q2 &&& (3 : Int64)) - (1 : Int64))))])) _
      refine XS.lstore X0.here hx rfl (hb hby at_36) rfl (l' := #[.val (.long q1), .second, .val (.long q2), .second, .val (.int p3), .val (.long (q1 &&& (9223372036854775807 : Int64))), .second, .val (.long (((9223372036854775807 : Int64) - (q1 &&& (9223372036854775807 : Int64))) + ((q2 &&& (3 : Int64)) - (1 : Int64)))), .second, .val (.long ((9223372036854775807 : Int64) - (q1 &&& (9223372036854775807 : Int64)))), .second, .val (.long ((q2 &&& (3 : Int64)) - (1 : Int64))), .second]) rfl ?_
      show Steps p.tables e below (s₁.setTop (mkF m 38 #[.val (.long q1), .second, .val (.long q2), .second, .val (.int p3), .val (.long (q1 &&& (9223372036854775807 : Int64))), .second, .val (.long (((9223372036854775807 : Int64) - (q1 &&& (9223372036854775807 : Int64))) + ((q2 &&& (3 : Int64)) - (1 : Int64)))), .second, .val (.long ((9223372036854775807 : Int64) - (q1 &&& (9223372036854775807 : Int64)))), .second, .val (.long ((q2 &&& (3 : Int64)) - (1 : Int64))), .second] [])) _
      refine XS.lload X0.here hx rfl (hb hby at_38) rfl ?_
      show Steps p.tables e below (s₁.setTop (mkF m 40 #[.val (.long q1), .second, .val (.long q2), .second, .val (.int p3), .val (.long (q1 &&& (9223372036854775807 : Int64))), .second, .val (.long (((9223372036854775807 : Int64) - (q1 &&& (9223372036854775807 : Int64))) + ((q2 &&& (3 : Int64)) - (1 : Int64)))), .second, .val (.long ((9223372036854775807 : Int64) - (q1 &&& (9223372036854775807 : Int64)))), .second, .val (.long ((q2 &&& (3 : Int64)) - (1 : Int64))), .second] [(.long (((9223372036854775807 : Int64) - (q1 &&& (9223372036854775807 : Int64))) + ((q2 &&& (3 : Int64)) - (1 : Int64))))])) _
      refine XS.lconst X0.here hx rfl (hb hby at_40) ?_
      show Steps p.tables e below (s₁.setTop (mkF m 41 #[.val (.long q1), .second, .val (.long q2), .second, .val (.int p3), .val (.long (q1 &&& (9223372036854775807 : Int64))), .second, .val (.long (((9223372036854775807 : Int64) - (q1 &&& (9223372036854775807 : Int64))) + ((q2 &&& (3 : Int64)) - (1 : Int64)))), .second, .val (.long ((9223372036854775807 : Int64) - (q1 &&& (9223372036854775807 : Int64)))), .second, .val (.long ((q2 &&& (3 : Int64)) - (1 : Int64))), .second] [(.long (0 : Int64)), (.long (((9223372036854775807 : Int64) - (q1 &&& (9223372036854775807 : Int64))) + ((q2 &&& (3 : Int64)) - (1 : Int64))))])) _
      refine XS.lcmp X0.here hx rfl (hb hby at_41) rfl ?_
      show Steps p.tables e below (s₁.setTop (mkF m 42 #[.val (.long q1), .second, .val (.long q2), .second, .val (.int p3), .val (.long (q1 &&& (9223372036854775807 : Int64))), .second, .val (.long (((9223372036854775807 : Int64) - (q1 &&& (9223372036854775807 : Int64))) + ((q2 &&& (3 : Int64)) - (1 : Int64)))), .second, .val (.long ((9223372036854775807 : Int64) - (q1 &&& (9223372036854775807 : Int64)))), .second, .val (.long ((q2 &&& (3 : Int64)) - (1 : Int64))), .second] [(.int (lcmpW (((9223372036854775807 : Int64) - (q1 &&& (9223372036854775807 : Int64))) + ((q2 &&& (3 : Int64)) - (1 : Int64))) (0 : Int64)))])) _
      exact k
    refine OwnG.st sg14 ?_
    obtain ⟨z49_16, hz49_16⟩ : ∃ w : Int64, w = (if (((9223372036854775807 : Int64) - (q1 &&& (9223372036854775807 : Int64))) + ((q2 &&& (3 : Int64)) - (1 : Int64))) < (0 : Int64) then ((9223372036854775807 : Int64) - (q1 &&& (9223372036854775807 : Int64))) else (((9223372036854775807 : Int64) - (q1 &&& (9223372036854775807 : Int64))) + ((q2 &&& (3 : Int64)) - (1 : Int64)))) := ⟨_, rfl⟩
    have dj17 : ∀ t, Steps p.tables e below (s₁.setTop (mkF m 49 #[.val (.long q1), .second, .val (.long q2), .second, .val (.int p3), .val (.long (q1 &&& (9223372036854775807 : Int64))), .second, .val (.long z49_16), .second, .val (.long ((9223372036854775807 : Int64) - (q1 &&& (9223372036854775807 : Int64)))), .second, .val (.long ((q2 &&& (3 : Int64)) - (1 : Int64))), .second] [])) t → Steps p.tables e below (s₁.setTop (mkF m 42 #[.val (.long q1), .second, .val (.long q2), .second, .val (.int p3), .val (.long (q1 &&& (9223372036854775807 : Int64))), .second, .val (.long (((9223372036854775807 : Int64) - (q1 &&& (9223372036854775807 : Int64))) + ((q2 &&& (3 : Int64)) - (1 : Int64)))), .second, .val (.long ((9223372036854775807 : Int64) - (q1 &&& (9223372036854775807 : Int64)))), .second, .val (.long ((q2 &&& (3 : Int64)) - (1 : Int64))), .second] [(.int (lcmpW (((9223372036854775807 : Int64) - (q1 &&& (9223372036854775807 : Int64))) + ((q2 &&& (3 : Int64)) - (1 : Int64))) (0 : Int64)))])) t := by
      intro t k
      by_cases hc42_15 : (((9223372036854775807 : Int64) - (q1 &&& (9223372036854775807 : Int64))) + ((q2 &&& (3 : Int64)) - (1 : Int64))) < (0 : Int64)
      · have qz49_16 : z49_16 = ((9223372036854775807 : Int64) - (q1 &&& (9223372036854775807 : Int64))) := by rw [hz49_16, if_pos hc42_15]
        rw [qz49_16] at k
        refine XS.ifNo X0.here hx rfl (hb hby at_42) rfl ((if0 _ _).trans (tlt ((lw_lt (((9223372036854775807 : Int64) - (q1 &&& (9223372036854775807 : Int64))) + ((q2 &&& (3 : Int64)) - (1 : Int64))) (0 : Int64)).mpr hc42_15)).2.1) ?_
        show Steps p.tables e below (s₁.setTop (mkF m 45 #[.val (.long q1), .second, .val (.long q2), .second, .val (.int p3), .val (.long (q1 &&& (9223372036854775807 : Int64))), .second, .val (.long (((9223372036854775807 : Int64) - (q1 &&& (9223372036854775807 : Int64))) + ((q2 &&& (3 : Int64)) - (1 : Int64)))), .second, .val (.long ((9223372036854775807 : Int64) - (q1 &&& (9223372036854775807 : Int64)))), .second, .val (.long ((q2 &&& (3 : Int64)) - (1 : Int64))), .second] [])) _
        refine XS.lload X0.here hx rfl (hb hby at_45) rfl ?_
        show Steps p.tables e below (s₁.setTop (mkF m 47 #[.val (.long q1), .second, .val (.long q2), .second, .val (.int p3), .val (.long (q1 &&& (9223372036854775807 : Int64))), .second, .val (.long (((9223372036854775807 : Int64) - (q1 &&& (9223372036854775807 : Int64))) + ((q2 &&& (3 : Int64)) - (1 : Int64)))), .second, .val (.long ((9223372036854775807 : Int64) - (q1 &&& (9223372036854775807 : Int64)))), .second, .val (.long ((q2 &&& (3 : Int64)) - (1 : Int64))), .second] [(.long ((9223372036854775807 : Int64) - (q1 &&& (9223372036854775807 : Int64))))])) _
        refine XS.lstore X0.here hx rfl (hb hby at_47) rfl (l' := #[.val (.long q1), .second, .val (.long q2), .second, .val (.int p3), .val (.long (q1 &&& (9223372036854775807 : Int64))), .second, .val (.long ((9223372036854775807 : Int64) - (q1 &&& (9223372036854775807 : Int64)))), .second, .val (.long ((9223372036854775807 : Int64) - (q1 &&& (9223372036854775807 : Int64)))), .second, .val (.long ((q2 &&& (3 : Int64)) - (1 : Int64))), .second]) rfl ?_
        show Steps p.tables e below (s₁.setTop (mkF m 49 #[.val (.long q1), .second, .val (.long q2), .second, .val (.int p3), .val (.long (q1 &&& (9223372036854775807 : Int64))), .second, .val (.long ((9223372036854775807 : Int64) - (q1 &&& (9223372036854775807 : Int64)))), .second, .val (.long ((9223372036854775807 : Int64) - (q1 &&& (9223372036854775807 : Int64)))), .second, .val (.long ((q2 &&& (3 : Int64)) - (1 : Int64))), .second] [])) _
        exact k
      · have qz49_16 : z49_16 = (((9223372036854775807 : Int64) - (q1 &&& (9223372036854775807 : Int64))) + ((q2 &&& (3 : Int64)) - (1 : Int64))) := by rw [hz49_16, if_neg hc42_15]
        rw [qz49_16] at k
        refine XS.ifYes X0.here hx rfl (pc0 := 42) (pc' := 49) rfl (hb hby at_42) rfl ((if0 _ _).trans (flt (mt (lw_lt (((9223372036854775807 : Int64) - (q1 &&& (9223372036854775807 : Int64))) + ((q2 &&& (3 : Int64)) - (1 : Int64))) (0 : Int64)).mp hc42_15)).2.1) (by decide) (by decide) ?_
        show Steps p.tables e below (s₁.setTop (mkF m 49 #[.val (.long q1), .second, .val (.long q2), .second, .val (.int p3), .val (.long (q1 &&& (9223372036854775807 : Int64))), .second, .val (.long (((9223372036854775807 : Int64) - (q1 &&& (9223372036854775807 : Int64))) + ((q2 &&& (3 : Int64)) - (1 : Int64)))), .second, .val (.long ((9223372036854775807 : Int64) - (q1 &&& (9223372036854775807 : Int64)))), .second, .val (.long ((q2 &&& (3 : Int64)) - (1 : Int64))), .second] [])) _
        exact k
    refine OwnG.st dj17 ?_
    have sg18 : ∀ t, Steps p.tables e below (s₁.setTop (mkF m 70 #[.val (.long q1), .second, .val (.long q2), .second, .val (.int p3), .val (.long (q1 &&& (9223372036854775807 : Int64))), .second, .val (.long z49_16), .second, .val (.long ((q1 &&& (9223372036854775807 : Int64)) + z49_16)), .second, .val (.long ((q2 &&& (3 : Int64)) - (1 : Int64))), .second] [(.int (lcmpW ((q1 &&& (9223372036854775807 : Int64)) + z49_16) (0 : Int64)))])) t → Steps p.tables e below (s₁.setTop (mkF m 49 #[.val (.long q1), .second, .val (.long q2), .second, .val (.int p3), .val (.long (q1 &&& (9223372036854775807 : Int64))), .second, .val (.long z49_16), .second, .val (.long ((9223372036854775807 : Int64) - (q1 &&& (9223372036854775807 : Int64)))), .second, .val (.long ((q2 &&& (3 : Int64)) - (1 : Int64))), .second] [])) t := by
      intro t k
      refine XS.goto X0.here hx rfl (pc0 := 49) (pc' := 59) rfl (hb hby at_49) (by decide) (by decide) ?_
      show Steps p.tables e below (s₁.setTop (mkF m 59 #[.val (.long q1), .second, .val (.long q2), .second, .val (.int p3), .val (.long (q1 &&& (9223372036854775807 : Int64))), .second, .val (.long z49_16), .second, .val (.long ((9223372036854775807 : Int64) - (q1 &&& (9223372036854775807 : Int64)))), .second, .val (.long ((q2 &&& (3 : Int64)) - (1 : Int64))), .second] [])) _
      refine XS.lload X0.here hx rfl (hb hby at_59) rfl ?_
      show Steps p.tables e below (s₁.setTop (mkF m 61 #[.val (.long q1), .second, .val (.long q2), .second, .val (.int p3), .val (.long (q1 &&& (9223372036854775807 : Int64))), .second, .val (.long z49_16), .second, .val (.long ((9223372036854775807 : Int64) - (q1 &&& (9223372036854775807 : Int64)))), .second, .val (.long ((q2 &&& (3 : Int64)) - (1 : Int64))), .second] [(.long (q1 &&& (9223372036854775807 : Int64)))])) _
      refine XS.lload X0.here hx rfl (hb hby at_61) rfl ?_
      show Steps p.tables e below (s₁.setTop (mkF m 63 #[.val (.long q1), .second, .val (.long q2), .second, .val (.int p3), .val (.long (q1 &&& (9223372036854775807 : Int64))), .second, .val (.long z49_16), .second, .val (.long ((9223372036854775807 : Int64) - (q1 &&& (9223372036854775807 : Int64)))), .second, .val (.long ((q2 &&& (3 : Int64)) - (1 : Int64))), .second] [(.long z49_16), (.long (q1 &&& (9223372036854775807 : Int64)))])) _
      refine XS.ladd X0.here hx rfl (hb hby at_63) rfl ?_
      show Steps p.tables e below (s₁.setTop (mkF m 64 #[.val (.long q1), .second, .val (.long q2), .second, .val (.int p3), .val (.long (q1 &&& (9223372036854775807 : Int64))), .second, .val (.long z49_16), .second, .val (.long ((9223372036854775807 : Int64) - (q1 &&& (9223372036854775807 : Int64)))), .second, .val (.long ((q2 &&& (3 : Int64)) - (1 : Int64))), .second] [(.long ((q1 &&& (9223372036854775807 : Int64)) + z49_16))])) _
      refine XS.lstore X0.here hx rfl (hb hby at_64) rfl (l' := #[.val (.long q1), .second, .val (.long q2), .second, .val (.int p3), .val (.long (q1 &&& (9223372036854775807 : Int64))), .second, .val (.long z49_16), .second, .val (.long ((q1 &&& (9223372036854775807 : Int64)) + z49_16)), .second, .val (.long ((q2 &&& (3 : Int64)) - (1 : Int64))), .second]) rfl ?_
      show Steps p.tables e below (s₁.setTop (mkF m 66 #[.val (.long q1), .second, .val (.long q2), .second, .val (.int p3), .val (.long (q1 &&& (9223372036854775807 : Int64))), .second, .val (.long z49_16), .second, .val (.long ((q1 &&& (9223372036854775807 : Int64)) + z49_16)), .second, .val (.long ((q2 &&& (3 : Int64)) - (1 : Int64))), .second] [])) _
      refine XS.lload X0.here hx rfl (hb hby at_66) rfl ?_
      show Steps p.tables e below (s₁.setTop (mkF m 68 #[.val (.long q1), .second, .val (.long q2), .second, .val (.int p3), .val (.long (q1 &&& (9223372036854775807 : Int64))), .second, .val (.long z49_16), .second, .val (.long ((q1 &&& (9223372036854775807 : Int64)) + z49_16)), .second, .val (.long ((q2 &&& (3 : Int64)) - (1 : Int64))), .second] [(.long ((q1 &&& (9223372036854775807 : Int64)) + z49_16))])) _
      refine XS.lconst X0.here hx rfl (hb hby at_68) ?_
      show Steps p.tables e below (s₁.setTop (mkF m 69 #[.val (.long q1), .second, .val (.long q2), .second, .val (.int p3), .val (.long (q1 &&& (9223372036854775807 : Int64))), .second, .val (.long z49_16), .second, .val (.long ((q1 &&& (9223372036854775807 : Int64)) + z49_16)), .second, .val (.long ((q2 &&& (3 : Int64)) - (1 : Int64))), .second] [(.long (0 : Int64)), (.long ((q1 &&& (9223372036854775807 : Int64)) + z49_16))])) _
      refine XS.lcmp X0.here hx rfl (hb hby at_69) rfl ?_
      show Steps p.tables e below (s₁.setTop (mkF m 70 #[.val (.long q1), .second, .val (.long q2), .second, .val (.int p3), .val (.long (q1 &&& (9223372036854775807 : Int64))), .second, .val (.long z49_16), .second, .val (.long ((q1 &&& (9223372036854775807 : Int64)) + z49_16)), .second, .val (.long ((q2 &&& (3 : Int64)) - (1 : Int64))), .second] [(.int (lcmpW ((q1 &&& (9223372036854775807 : Int64)) + z49_16) (0 : Int64)))])) _
      exact k
    refine OwnG.st sg18 ?_
    obtain ⟨z81_20, hz81_20⟩ : ∃ w : Int64, w = (if ((q1 &&& (9223372036854775807 : Int64)) + z49_16) < (0 : Int64) then (9223372036854775807 : Int64) else ((q1 &&& (9223372036854775807 : Int64)) + z49_16)) := ⟨_, rfl⟩
    have dj21 : ∀ t, Steps p.tables e below (s₁.setTop (mkF m 81 #[.val (.long q1), .second, .val (.long q2), .second, .val (.int p3), .val (.long (q1 &&& (9223372036854775807 : Int64))), .second, .val (.long z49_16), .second, .val (.long ((q1 &&& (9223372036854775807 : Int64)) + z49_16)), .second, .val (.long ((q2 &&& (3 : Int64)) - (1 : Int64))), .second] [(.long z81_20)])) t → Steps p.tables e below (s₁.setTop (mkF m 70 #[.val (.long q1), .second, .val (.long q2), .second, .val (.int p3), .val (.long (q1 &&& (9223372036854775807 : Int64))), .second, .val (.long z49_16), .second, .val (.long ((q1 &&& (9223372036854775807 : Int64)) + z49_16)), .second, .val (.long ((q2 &&& (3 : Int64)) - (1 : Int64))), .second] [(.int (lcmpW ((q1 &&& (9223372036854775807 : Int64)) + z49_16) (0 : Int64)))])) t := by
      intro t k
      by_cases hc70_19 : ((q1 &&& (9223372036854775807 : Int64)) + z49_16) < (0 : Int64)
      · have qz81_20 : z81_20 = (9223372036854775807 : Int64) := by rw [hz81_20, if_pos hc70_19]
        rw [qz81_20] at k
        refine XS.ifNo X0.here hx rfl (hb hby at_70) rfl ((if0 _ _).trans (tlt ((lw_lt ((q1 &&& (9223372036854775807 : Int64)) + z49_16) (0 : Int64)).mpr hc70_19)).2.1) ?_
        show Steps p.tables e below (s₁.setTop (mkF m 73 #[.val (.long q1), .second, .val (.long q2), .second, .val (.int p3), .val (.long (q1 &&& (9223372036854775807 : Int64))), .second, .val (.long z49_16), .second, .val (.long ((q1 &&& (9223372036854775807 : Int64)) + z49_16)), .second, .val (.long ((q2 &&& (3 : Int64)) - (1 : Int64))), .second] [])) _
        refine X0.ldc2Long hx hown (mvT hZ (hw _ (List.mem_of_getElem? (i := 0) rfl))) (g := (mkF m 73 #[.val (.long q1), .second, .val (.long q2), .second, .val (.int p3), .val (.long (q1 &&& (9223372036854775807 : Int64))), .second, .val (.long z49_16), .second, .val (.long ((q1 &&& (9223372036854775807 : Int64)) + z49_16)), .second, .val (.long ((q2 &&& (3 : Int64)) - (1 : Int64))), .second] [])) rfl (hb hby at_73) _ ?_
        show Steps p.tables e below (s₁.setTop (mkF m 76 #[.val (.long q1), .second, .val (.long q2), .second, .val (.int p3), .val (.long (q1 &&& (9223372036854775807 : Int64))), .second, .val (.long z49_16), .second, .val (.long ((q1 &&& (9223372036854775807 : Int64)) + z49_16)), .second, .val (.long ((q2 &&& (3 : Int64)) - (1 : Int64))), .second] [(.long (9223372036854775807 : Int64))])) _
        refine XS.goto X0.here hx rfl (pc0 := 76) (pc' := 81) rfl (hb hby at_76) (by decide) (by decide) ?_
        show Steps p.tables e below (s₁.setTop (mkF m 81 #[.val (.long q1), .second, .val (.long q2), .second, .val (.int p3), .val (.long (q1 &&& (9223372036854775807 : Int64))), .second, .val (.long z49_16), .second, .val (.long ((q1 &&& (9223372036854775807 : Int64)) + z49_16)), .second, .val (.long ((q2 &&& (3 : Int64)) - (1 : Int64))), .second] [(.long (9223372036854775807 : Int64))])) _
        exact k
      · have qz81_20 : z81_20 = ((q1 &&& (9223372036854775807 : Int64)) + z49_16) := by rw [hz81_20, if_neg hc70_19]
        rw [qz81_20] at k
        refine XS.ifYes X0.here hx rfl (pc0 := 70) (pc' := 79) rfl (hb hby at_70) rfl ((if0 _ _).trans (flt (mt (lw_lt ((q1 &&& (9223372036854775807 : Int64)) + z49_16) (0 : Int64)).mp hc70_19)).2.1) (by decide) (by decide) ?_
        show Steps p.tables e below (s₁.setTop (mkF m 79 #[.val (.long q1), .second, .val (.long q2), .second, .val (.int p3), .val (.long (q1 &&& (9223372036854775807 : Int64))), .second, .val (.long z49_16), .second, .val (.long ((q1 &&& (9223372036854775807 : Int64)) + z49_16)), .second, .val (.long ((q2 &&& (3 : Int64)) - (1 : Int64))), .second] [])) _
        refine XS.lload X0.here hx rfl (hb hby at_79) rfl ?_
        show Steps p.tables e below (s₁.setTop (mkF m 81 #[.val (.long q1), .second, .val (.long q2), .second, .val (.int p3), .val (.long (q1 &&& (9223372036854775807 : Int64))), .second, .val (.long z49_16), .second, .val (.long ((q1 &&& (9223372036854775807 : Int64)) + z49_16)), .second, .val (.long ((q2 &&& (3 : Int64)) - (1 : Int64))), .second] [(.long ((q1 &&& (9223372036854775807 : Int64)) + z49_16))])) _
        exact k
    refine OwnG.st dj21 ?_
    have sg22 : ∀ t, Steps p.tables e below (s₁.setTop (mkF m 87 #[.val (.long q1), .second, .val (.long q2), .second, .val (.int p3), .val (.long (q1 &&& (9223372036854775807 : Int64))), .second, .val (.long z49_16), .second, .val (.long ((q1 &&& (9223372036854775807 : Int64)) + z49_16)), .second, .val (.long z81_20), .second] [(.long z49_16), (.long (q1 &&& (9223372036854775807 : Int64)))])) t → Steps p.tables e below (s₁.setTop (mkF m 81 #[.val (.long q1), .second, .val (.long q2), .second, .val (.int p3), .val (.long (q1 &&& (9223372036854775807 : Int64))), .second, .val (.long z49_16), .second, .val (.long ((q1 &&& (9223372036854775807 : Int64)) + z49_16)), .second, .val (.long ((q2 &&& (3 : Int64)) - (1 : Int64))), .second] [(.long z81_20)])) t := by
      intro t k
      refine XS.lstore X0.here hx rfl (hb hby at_81) rfl (l' := #[.val (.long q1), .second, .val (.long q2), .second, .val (.int p3), .val (.long (q1 &&& (9223372036854775807 : Int64))), .second, .val (.long z49_16), .second, .val (.long ((q1 &&& (9223372036854775807 : Int64)) + z49_16)), .second, .val (.long z81_20), .second]) rfl ?_
      show Steps p.tables e below (s₁.setTop (mkF m 83 #[.val (.long q1), .second, .val (.long q2), .second, .val (.int p3), .val (.long (q1 &&& (9223372036854775807 : Int64))), .second, .val (.long z49_16), .second, .val (.long ((q1 &&& (9223372036854775807 : Int64)) + z49_16)), .second, .val (.long z81_20), .second] [])) _
      refine XS.lload X0.here hx rfl (hb hby at_83) rfl ?_
      show Steps p.tables e below (s₁.setTop (mkF m 85 #[.val (.long q1), .second, .val (.long q2), .second, .val (.int p3), .val (.long (q1 &&& (9223372036854775807 : Int64))), .second, .val (.long z49_16), .second, .val (.long ((q1 &&& (9223372036854775807 : Int64)) + z49_16)), .second, .val (.long z81_20), .second] [(.long (q1 &&& (9223372036854775807 : Int64)))])) _
      refine XS.lload X0.here hx rfl (hb hby at_85) rfl ?_
      show Steps p.tables e below (s₁.setTop (mkF m 87 #[.val (.long q1), .second, .val (.long q2), .second, .val (.int p3), .val (.long (q1 &&& (9223372036854775807 : Int64))), .second, .val (.long z49_16), .second, .val (.long ((q1 &&& (9223372036854775807 : Int64)) + z49_16)), .second, .val (.long z81_20), .second] [(.long z49_16), (.long (q1 &&& (9223372036854775807 : Int64)))])) _
      exact k
    refine OwnG.st sg22 ?_
    obtain ⟨_, _, ⟨T23, L23, k23, n23⟩, -, X23, ⟨Lc23, hQ23, l23, y23, z23⟩, st23⟩ := Jvm.LawKit.callS X0 hx (y := (⟨"com/example/guessd/guessd/SuggestionIndex", "saturatedSum", "(JJ)J"⟩ : MethodName)) hown (mvT hZ (hw _ (List.mem_of_getElem? (i := 1) rfl))) (mvT hZ (hw _ (List.mem_of_getElem? (i := 2) rfl))) (mvT hZ (hw _ (List.mem_of_getElem? (i := 3) rfl))) (mvT hZ (hw _ (List.mem_of_getElem? (i := 4) rfl))) (by decide) (backOf (W := 0) (rm1 l Z a0 hw [] (q1 &&& (9223372036854775807 : Int64)) z49_16  h0 n0 Z0 ) hZ (hw _ (List.mem_of_getElem? (i := 4) rfl)) (hw _ (List.mem_of_getElem? (i := 3) rfl)) (by decide) (by decide)) (g := (mkF m 87 #[.val (.long q1), .second, .val (.long q2), .second, .val (.int p3), .val (.long (q1 &&& (9223372036854775807 : Int64))), .second, .val (.long z49_16), .second, .val (.long ((q1 &&& (9223372036854775807 : Int64)) + z49_16)), .second, .val (.long z81_20), .second] [(.long z49_16), (.long (q1 &&& (9223372036854775807 : Int64)))])) rfl (by rw [hml]; rfl) (argsL := [(.long (q1 &&& (9223372036854775807 : Int64))), (.long z49_16)]) (rest := []) (lenOf pd_0_0 rfl) rfl (by show 2 * 0 + _ ≤ _; exact Nat.le_of_eq rfl) (hb hby at_87) (fun _ _ => ⟨rfl, e0, (by decide : 0 + 0 ≤ _), (by decide : 0 + 0 ≤ _)⟩)
    dsimp only [Pt.U, Pt.locs, Pt.cells, Pt.slots] at X23 l23 y23 z23 st23 hQ23
    subst l23 y23 z23
    obtain ⟨rfl, N23q, e23⟩ := hQ23
    have N23 := Fr.app N0 N23q
    refine OwnG.st (fun t k => st23 t k) ?_
    show OwnG p e below s _ _ _ T23 (mkF m 90 #[.val (.long q1), .second, .val (.long q2), .second, .val (.int p3), .val (.long (q1 &&& (9223372036854775807 : Int64))), .second, .val (.long z49_16), .second, .val (.long ((q1 &&& (9223372036854775807 : Int64)) + z49_16)), .second, .val (.long z81_20), .second] [(.long (F1 (q1 &&& (9223372036854775807 : Int64)) z49_16))])
    have hc93_24 : (F1 (q1 &&& (9223372036854775807 : Int64)) z49_16) = z81_20 := by rw [hz81_20]; exact own_sat _ _ (own_max _) (own_b _ _ _ (own_max _) hz49_16)
    have sg25 : ∀ t, Steps p.tables e below (T23.setTop (mkF m 101 #[.val (.long q1), .second, .val (.long q2), .second, .val (.int p3), .val (.long (q1 &&& (9223372036854775807 : Int64))), .second, .val (.long z49_16), .second, .val (.long ((q1 &&& (9223372036854775807 : Int64)) + z49_16)), .second, .val (.long z81_20), .second] [(.int (1 : Int32))])) t → Steps p.tables e below (T23.setTop (mkF m 90 #[.val (.long q1), .second, .val (.long q2), .second, .val (.int p3), .val (.long (q1 &&& (9223372036854775807 : Int64))), .second, .val (.long z49_16), .second, .val (.long ((q1 &&& (9223372036854775807 : Int64)) + z49_16)), .second, .val (.long z81_20), .second] [(.long (F1 (q1 &&& (9223372036854775807 : Int64)) z49_16))])) t := by
      intro t k
      refine XS.lload X23.here hx rfl (hb hby at_90) rfl ?_
      show Steps p.tables e below (T23.setTop (mkF m 92 #[.val (.long q1), .second, .val (.long q2), .second, .val (.int p3), .val (.long (q1 &&& (9223372036854775807 : Int64))), .second, .val (.long z49_16), .second, .val (.long ((q1 &&& (9223372036854775807 : Int64)) + z49_16)), .second, .val (.long z81_20), .second] [(.long z81_20), (.long (F1 (q1 &&& (9223372036854775807 : Int64)) z49_16))])) _
      refine XS.lcmp X23.here hx rfl (hb hby at_92) rfl ?_
      show Steps p.tables e below (T23.setTop (mkF m 93 #[.val (.long q1), .second, .val (.long q2), .second, .val (.int p3), .val (.long (q1 &&& (9223372036854775807 : Int64))), .second, .val (.long z49_16), .second, .val (.long ((q1 &&& (9223372036854775807 : Int64)) + z49_16)), .second, .val (.long z81_20), .second] [(.int (lcmpW (F1 (q1 &&& (9223372036854775807 : Int64)) z49_16) z81_20))])) _
      refine XS.ifNo X23.here hx rfl (hb hby at_93) rfl ((if0 _ _).trans (teq ((lw_eq (F1 (q1 &&& (9223372036854775807 : Int64)) z49_16) z81_20).mpr hc93_24)).2) ?_
      show Steps p.tables e below (T23.setTop (mkF m 96 #[.val (.long q1), .second, .val (.long q2), .second, .val (.int p3), .val (.long (q1 &&& (9223372036854775807 : Int64))), .second, .val (.long z49_16), .second, .val (.long ((q1 &&& (9223372036854775807 : Int64)) + z49_16)), .second, .val (.long z81_20), .second] [])) _
      refine XS.iconst X23.here hx rfl (hb hby at_96) ?_
      show Steps p.tables e below (T23.setTop (mkF m 97 #[.val (.long q1), .second, .val (.long q2), .second, .val (.int p3), .val (.long (q1 &&& (9223372036854775807 : Int64))), .second, .val (.long z49_16), .second, .val (.long ((q1 &&& (9223372036854775807 : Int64)) + z49_16)), .second, .val (.long z81_20), .second] [(.int (1 : Int32))])) _
      refine XS.goto X23.here hx rfl (pc0 := 97) (pc' := 101) rfl (hb hby at_97) (by decide) (by decide) ?_
      show Steps p.tables e below (T23.setTop (mkF m 101 #[.val (.long q1), .second, .val (.long q2), .second, .val (.int p3), .val (.long (q1 &&& (9223372036854775807 : Int64))), .second, .val (.long z49_16), .second, .val (.long ((q1 &&& (9223372036854775807 : Int64)) + z49_16)), .second, .val (.long z81_20), .second] [(.int (1 : Int32))])) _
      exact k
    refine OwnG.st sg25 ?_
    have hv : (1 : Int32) = 1 := rfl
    exact OwnG.retN X23 hx (t := .boolean) (by simp) Bd.returns (BodyLoose.notSynchronized Bd) (hb hby at_101) ⟨congrArg (fun w => some (Value.int (nar .boolean w))) hv, N23⟩ (by decide) (by decide)
set_option maxRecDepth 65536 in
set_option maxHeartbeats 40000000 in
theorem comes_1 {Post : Tables → Env → Array Value → State → Outcome → State → Prop} (hpost : ∀ tb e args s v u, (limb_1_1.after args s (.returned v) u = true ∧ limb_1_2.after args s (.returned v) u = true ∧ True) → FrameEnd s (.returned v) u (Jvm.fieldLocs frame_1_writes args s ++ Jvm.arrayLocs frame_1_arrays args s ++ Jvm.staticLocs frame_1_statics s) 0 0 → Post tb e args s (.returned v) u) :
    ArmFor flags0 classFile x code maxLocals ret World_1 tables_1 room_1 Calls_1 rest_1 Pre_1 Post := by
  intro l hfl _ _ p e ha hc hk s m args below hf hA hF happ hP
  obtain ⟨hcalls, hrest, hpre⟩ := hP
  obtain ⟨-, -, -, hnamed, -, -, -, hat⟩ := (Spec.applies_iff hf).mp happ
  obtain ⟨hg, hn⟩ := and_e (Cond.before_iff.mp (show (Jvm.Cond.and given_1 narrow_1).before args s = true from hpre))
  obtain ⟨g1, g2⟩ := and_e hg
  obtain ⟨g3, g4⟩ := and_e g2
  obtain ⟨g5, g6⟩ := and_e g4
  obtain ⟨w0, w1, w2, rfl⟩ : ∃ w0 w1 w2 : Value, args = #[w0, w1, w2] := by
    have hs : args.size = 3 := by simpa [Cond.value, given_1] using g1
    obtain ⟨L⟩ := args
    match L, hs with
    | [w0, w1, w2], _ => exact ⟨w0, w1, w2, rfl⟩
  have hw := fun d (hd : d ∈ tables_1) => atoms_spec (ws := Jvm.Cond.code x code maxLocals ret :: tables_1) hat d (List.mem_cons_of_mem _ hd)
  obtain ⟨i0, ei0⟩ := isL_v g3
  obtain rfl : w0 = (.long i0) := Option.some.inj ei0
  obtain ⟨i1, ei1⟩ := isL_v g5
  obtain rfl : w1 = (.long i1) := Option.some.inj ei1
  obtain ⟨i2, ei2⟩ := is_v g6
  obtain rfl : w2 = (.int i2) := Option.some.inj ei2
  obtain ⟨n, o, h1, h2, h3, _, L, rfl, ⟨rfl, N⟩, hq⟩ := rm0 l s _ hw tables_1 i0 i1 i2  s.heap s.heap.size (Nat.le_refl _)  p e ha hc hk s m _ below hf ((Spec.applies_iff_loose hf).mp happ).1 ⟨rfl, State.Warmed39.refl s, rfl⟩ trivial
  refine ⟨n, _, h1, h2, h3, hpost _ _ _ _ _ _ ⟨Cond.after_iff.mpr rfl, Cond.after_iff.mpr (eq_i res_at (Term.int_eval (1)) rfl), trivial⟩ ⟨hq.1, hq.2.1, (hq.2.2.sift fun y hy => Or.inr (N y hy)).mono (by decide) (by decide)⟩⟩
theorem main_1_1 : Claimed_1_1 := comes_1 fun _ _ _ _ _ _ h hF => ⟨h.1, hF⟩
theorem main_1_2 : Claimed_1_2 := comes_1 fun _ _ _ _ _ _ h hF => ⟨h.2.1, hF⟩
end Jvm.Pilot.@@N@@
namespace Jvm.Pilot.@@N@@
open Jvm Jvm.ClassFile Sem Op Lib Jvm.Free Jvm.Stand Jvm.Pilot.@@N@@.Jvm.D
/-! MADE BY PROGRAM (witnessworld.py) out of the Statement's table words and the real class files: 9 classes; the members and pool entries that the words name. The judged class is class 1, her method 1. -/
namespace start1
open Jvm.ClassFile
def u (s : String) : CpInfo := .utf8 (stringToUtf16 s)
/-- a pool by its gaps: so many unusable entries, then the entry; so many at the end -/
def gap : Nat → List CpInfo → List CpInfo
  | 0, r => r
  | n + 1, r => .unusable :: gap n r
def poolList (es : List (Nat × CpInfo)) (last : Nat) : List CpInfo := es.foldr (fun e r => gap e.1 (e.2 :: r)) (gap last [])
def pool (es : List (Nat × CpInfo)) (last : Nat) : Array CpInfo := ⟨poolList es last⟩
def fileOf (pool : Array CpInfo) (this : Nat) (attrs : Array Attribute := #[]) (ms : Array MethodInfo := #[]) (fl : Nat := 33) (sup : Nat := 0) (ifs : Array Nat := #[]) (fds : Array FieldInfo := #[]) : ClassFile where
  minorVersion := 0
  majorVersion := 65
  constantPool := pool
  accessFlags := fl
  thisClass := this
  superClass := sup
  interfaces := ifs
  fields := fds
  methods := ms
  attributes := attrs
def plain (name : String) (sup : Option ClassId) : Class where
  name := name
  kind := .ordinary
  loader := none
  accessFlags := 33
  super := sup
  interfaces := #[]
  cf := none
  fields := #[]
  methods := #[]
  instanceTypes := #[]
  staticTypes := #[]
  resolved := #[]
  callSites := []
  init := .initialized
  statics := none
  mirror := none

def pool0 : Array CpInfo := pool [(5, u "<init>"), (0, u "()V"), (1, .class_ 10), (1, u "java/lang/Object")] 113

def k0m0 : Method := { name := "<init>", desc := "()V", sig := { parameters := [], returnType := none }, accessFlags := 1, code := none }
/-- java/lang/Object -/
def k0 : Class := { plain "java/lang/Object" none with
  accessFlags := 33
  interfaces := #[]
  cf := some (fileOf pool0 8 #[] #[{ accessFlags := 1, nameIndex := 5, descriptorIndex := 6, attributes := #[] }] 33 0 #[] #[])
  fields := #[]
  methods := #[k0m0]
  instanceTypes := #[]
  staticTypes := #[]
  resolved := Array.replicate 124 none
  statics := none }

def pool1 : Array CpInfo := pool [(2, .class_ 4), (1, u "java/lang/Object"), (0, u "<init>"), (0, u "()V"), (2, .long 9223372036854775807), (1, .long 3), (1, .methodref 14 15), (0, .class_ 16), (0, .nameAndType 17 18), (0, u "com/example/guessd/guessd/SuggestionIndex"), (0, u "saturatedSum"), (0, u "(JJ)J"), (0, .class_ 20), (0, u "com/example/guessd/guessd/SuggestionIndexSaturatedSumPinLaw"), (2, u "law"), (0, u "(JJI)Z")] 3

def k1m0 : Method := { name := "<init>", desc := "()V", sig := { parameters := [], returnType := none }, accessFlags := 2, code := none }
def k1c1 : Code := { maxStack := 4, maxLocals := 13, code := code, exceptionTable := #[], attributes := #[] }
def k1m1 : Method := { name := "law", desc := "(JJI)Z", sig := { parameters := [.long, .long, .int], returnType := some .boolean }, accessFlags := 9, code := some k1c1 }
/-- com/example/guessd/guessd/SuggestionIndexSaturatedSumPinLaw -/
def k1 : Class := { plain "com/example/guessd/guessd/SuggestionIndexSaturatedSumPinLaw" (some 0) with
  accessFlags := 49
  interfaces := #[]
  cf := some (fileOf pool1 19 #[] #[{ accessFlags := 2, nameIndex := 5, descriptorIndex := 6, attributes := #[] }, { accessFlags := 9, nameIndex := 23, descriptorIndex := 24, attributes := #[] }] 49 2 #[] #[])
  fields := #[]
  methods := #[k1m0, k1m1]
  instanceTypes := #[]
  staticTypes := #[]
  resolved := Array.replicate 28 none
  statics := none }

def pool2 : Array CpInfo := pool [(2, .class_ 4), (1, u "java/lang/Object"), (3, .class_ 10), (1, u "com/example/guessd/guessd/SuggestionIndex"), (0, u "queries"), (0, u "Lcom/example/guessd/guessd/QueryList;"), (2, u "scores"), (0, u "Lcom/example/guessd/guessd/PackedLongs;"), (2, u "blocklist"), (0, u "Lcom/example/guessd/guessd/Blocklist;"), (2, u "blocked"), (0, u "Ljava/util/BitSet;"), (2, u "added"), (0, u "Lcom/example/guessd/guessd/SuggestionIndex;"), (2, u "replaced"), (0, .class_ 33), (0, u "com/example/guessd/guessd/SuggestionIndex$Run"), (15, u "firsts"), (0, u "Ljava/util/List;"), (135, u "saturatedSum"), (0, u "(JJ)J"), (59, u "I"), (51, u "Ljava/util/Comparator;"), (12, .long 9223372036854775807), (3, u "RANKING"), (63, u "MIN_TYPO_PREFIX"), (2, u "WALKED_AT_ONCE")] 81

def k2c0 : Code := { maxStack := 6, maxLocals := 4, code := prog_20_method_16_code, exceptionTable := #[], attributes := #[] }
def k2m0 : Method := { name := "saturatedSum", desc := "(JJ)J", sig := { parameters := [.long, .long], returnType := some .long }, accessFlags := 8, code := some k2c0 }
/-- com/example/guessd/guessd/SuggestionIndex -/
def k2 : Class := { plain "com/example/guessd/guessd/SuggestionIndex" (some 0) with
  accessFlags := 48
  interfaces := #[]
  cf := some (fileOf pool2 8 #[.nestMembers #[32]] #[{ accessFlags := 8, nameIndex := 186, descriptorIndex := 187, attributes := #[] }] 48 2 #[] #[{ accessFlags := 26, nameIndex := 316, descriptorIndex := 299, attributes := #[] }, { accessFlags := 26, nameIndex := 380, descriptorIndex := 247, attributes := #[] }, { accessFlags := 26, nameIndex := 383, descriptorIndex := 247, attributes := #[] }, { accessFlags := 18, nameIndex := 11, descriptorIndex := 12, attributes := #[] }, { accessFlags := 18, nameIndex := 15, descriptorIndex := 16, attributes := #[] }, { accessFlags := 18, nameIndex := 19, descriptorIndex := 20, attributes := #[] }, { accessFlags := 18, nameIndex := 23, descriptorIndex := 24, attributes := #[] }, { accessFlags := 18, nameIndex := 27, descriptorIndex := 28, attributes := #[] }, { accessFlags := 18, nameIndex := 31, descriptorIndex := 24, attributes := #[] }, { accessFlags := 18, nameIndex := 49, descriptorIndex := 50, attributes := #[] }])
  fields := #[{ name := "RANKING", type := (.object "java/util/Comparator"), accessFlags := 26, slot := 0, constantValue := 0 }, { name := "MIN_TYPO_PREFIX", type := .int, accessFlags := 26, slot := 1, constantValue := 0 }, { name := "WALKED_AT_ONCE", type := .int, accessFlags := 26, slot := 2, constantValue := 0 }, { name := "queries", type := (.object "com/example/guessd/guessd/QueryList"), accessFlags := 18, slot := 0, constantValue := 0 }, { name := "scores", type := (.object "com/example/guessd/guessd/PackedLongs"), accessFlags := 18, slot := 1, constantValue := 0 }, { name := "blocklist", type := (.object "com/example/guessd/guessd/Blocklist"), accessFlags := 18, slot := 2, constantValue := 0 }, { name := "blocked", type := (.object "java/util/BitSet"), accessFlags := 18, slot := 3, constantValue := 0 }, { name := "added", type := (.object "com/example/guessd/guessd/SuggestionIndex"), accessFlags := 18, slot := 4, constantValue := 0 }, { name := "replaced", type := (.object "java/util/BitSet"), accessFlags := 18, slot := 5, constantValue := 0 }, { name := "firsts", type := (.object "java/util/List"), accessFlags := 18, slot := 6, constantValue := 0 }]
  methods := #[k2m0]
  instanceTypes := #[(.object "com/example/guessd/guessd/QueryList"), (.object "com/example/guessd/guessd/PackedLongs"), (.object "com/example/guessd/guessd/Blocklist"), (.object "java/util/BitSet"), (.object "com/example/guessd/guessd/SuggestionIndex"), (.object "java/util/BitSet"), (.object "java/util/List")]
  staticTypes := #[(.object "java/util/Comparator"), .int, .int]
  resolved := Array.replicate 465 none
  statics := none }

def pool3 : Array CpInfo := pool [(1, u "java/lang/Cloneable"), (0, .class_ 1), (0, u "java/lang/Object"), (0, .class_ 3)] 3

/-- java/lang/Cloneable -/
def k3 : Class := { plain "java/lang/Cloneable" (some 0) with
  accessFlags := 1537
  interfaces := #[]
  cf := some (fileOf pool3 2 #[] #[] 1537 4 #[] #[])
  fields := #[]
  methods := #[]
  instanceTypes := #[]
  staticTypes := #[]
  resolved := Array.replicate 8 none
  statics := none }

def pool4 : Array CpInfo := pool [(1, u "java/io/Serializable"), (0, .class_ 1), (0, u "java/lang/Object"), (0, .class_ 3)] 3

/-- java/io/Serializable -/
def k4 : Class := { plain "java/io/Serializable" (some 0) with
  accessFlags := 1537
  interfaces := #[]
  cf := some (fileOf pool4 2 #[] #[] 1537 4 #[] #[])
  fields := #[]
  methods := #[]
  instanceTypes := #[]
  staticTypes := #[]
  resolved := Array.replicate 8 none
  statics := none }

/-- the primitive byte -/
def k5 : Class := { plain "byte" none with kind := .primitive 'B', accessFlags := 0x411 }
/-- [B -/
def k6 : Class := { plain "[B" (some 0) with kind := .array 5 .byte, interfaces := #[3, 4], accessFlags := 1041 }

/-- the primitive int -/
def k7 : Class := { plain "int" none with kind := .primitive 'I', accessFlags := 0x411 }
/-- [I -/
def k8 : Class := { plain "[I" (some 0) with kind := .array 7 .int, interfaces := #[3, 4], accessFlags := 1041 }

def heap : Heap := #[]
def classes : Array Class := #[k0, k1, k2, k3, k4, k5, k6, k7, k8]
def interned : List (Array UInt16 × Addr) := []
def slotsUsed : Nat := 0
def theMethod : MethodId := ⟨1, 1⟩
def args0 : Array Value := #[.long 5, .long 5, .int 5]
def aboutOver (below : List Frame) : State where
  vm := { classes := classes, interned := interned.toArray }
  heap := heap
  slotsUsed := slotsUsed
  threads := #[{ frames := .invoking theMethod args0 :: below }]
def below0 : List Frame := [.native { method := ⟨0, 0⟩, args := #[] }]
def about1 : State := aboutOver below0
def p0 : Program := .bare "" "" ""
def e0 : Env := launch0.env 0 0 0
theorem w_frames : about1.frames = Frame.invoking theMethod args0 :: below0 := rfl
set_option maxRecDepth 65536 in
theorem w_args : argsFit about1.vm theMethod args0 = true := by decide +kernel
set_option maxRecDepth 65536 in
theorem w_heap : heapFits about1 = true := by decide +kernel
set_option maxRecDepth 65536 in
theorem w_runnable : about1.curStatus? = some .runnable := by decide +kernel
set_option maxRecDepth 65536 in
theorem w_alone : about1.alone = true := by decide +kernel
set_option maxRecDepth 65536 in
theorem w_named : about1.methodNamed? x = some theMethod := by decide +kernel
set_option maxRecDepth 65536 in
theorem w_hears : about1.hears theMethod below0 = true := by decide +kernel
set_option maxRecDepth 65536 in
theorem w_ripe : about1.ripe theMethod args0 below0 = true := by decide +kernel
theorem w_running : about1.status = .running := rfl
set_option maxRecDepth 65536 in
theorem w_room : about1.hasRoom e0.platform room_1 = true :=
  launch0.hasRoom_least _ room_1 (by decide +kernel) (by decide +kernel) (by decide +kernel) (by decide +kernel) (by decide +kernel) (by decide +kernel)
theorem allAtoms_all (ts : List Jvm.Cond) (a : Array Jvm.Value) (st : Jvm.State) : (allAtoms ts).before a st = ts.all (fun c => c.before a st) := by
  induction ts with
  | nil => rfl
  | cons c t ih =>
    show (Jvm.Cond.and c (allAtoms t)).before a st = _
    rw [Jvm.Cond.before_and, ih, List.all_cons]
def words1 : List Jvm.Cond := Jvm.Cond.code x code maxLocals ret :: tables_1
/-- a 'code' word, met by the world's own term for the bytes: nothing is compared byte by byte -/
theorem code_word {y : MethodName} {bytes : ByteArray} {mx : Nat} {rt : Option FieldType} {a : Array Value} {s : State} {m : MethodId} {meth : Method} {c : Code} (h1 : s.methodNamed? y = some m) (h2 : s.vm.method? m = some meth) (h3 : meth.code = some c) (h4 : c.code = bytes)
    (h5 : (c.maxLocals == mx && c.exceptionTable.isEmpty && decide (c.maxStack ≤ mostOperands) && decide (meth.sig.returnType = rt) && !meth.locks && decide (parseMethodDescriptor y.desc = some meth.sig)) = true) : (Jvm.Cond.code y bytes mx rt).before a s = true := by
  simp only [Bool.and_eq_true, beq_iff_eq, Bool.not_eq_true', decide_eq_true_eq] at h5
  obtain ⟨⟨⟨⟨⟨g1, g2⟩, g3⟩, g4⟩, g5⟩, g6⟩ := h5
  simp [Cond.before, Cond.holds, Cond.value, h1, h2, h3, h4, g1, g2, g3, g4, g5, g6]
def isCode : Jvm.Cond → Bool
  | .code _ _ _ _ => true
  | _ => false
theorem all_split {L : List Jvm.Cond} {P : Jvm.Cond → Bool} (h1 : L.all (fun c => isCode c || P c) = true) (h2 : ∀ c ∈ L.filter isCode, P c = true) : L.all P = true := by
  refine List.all_eq_true.mpr fun c hc => ?_
  have h := List.all_eq_true.mp h1 c hc
  rcases Bool.eq_false_or_eq_true (isCode c) with hi | hi
  · exact h2 c (List.mem_filter.mpr ⟨hc, hi⟩)
  · simpa [hi] using h
set_option maxRecDepth 65536 in
theorem w_c0 : (Jvm.Cond.code x code maxLocals ret).before args0 about1 = true := code_word (m := ⟨1, 1⟩) (meth := k1m1) (c := k1c1) (by decide +kernel) rfl rfl rfl (by decide +kernel)
set_option maxRecDepth 65536 in
theorem w_c1 : (Jvm.Cond.code ({ cls := "com/example/guessd/guessd/SuggestionIndex", name := "saturatedSum", desc := "(JJ)J" } : Jvm.MethodName) prog_20_method_16_code (4 : Nat) (Option.some Jvm.ClassFile.FieldType.long)).before args0 about1 = true := code_word (m := ⟨2, 0⟩) (meth := k2m0) (c := k2c0) (by decide +kernel) rfl rfl rfl (by decide +kernel)
def codes1 : List Jvm.Cond := [Jvm.Cond.code x code maxLocals ret, Jvm.Cond.code ({ cls := "com/example/guessd/guessd/SuggestionIndex", name := "saturatedSum", desc := "(JJ)J" } : Jvm.MethodName) prog_20_method_16_code (4 : Nat) (Option.some Jvm.ClassFile.FieldType.long)]
set_option maxRecDepth 65536 in
theorem codes_eq : words1.filter isCode = codes1 := rfl
theorem w_codes : ∀ c ∈ words1.filter isCode, c.before args0 about1 = true := by
  rw [codes_eq]
  intro c hc
  simp only [codes1, List.mem_cons, List.not_mem_nil, or_false] at hc
  rcases hc with rfl | rfl
  · exact w_c0
  · exact w_c1
set_option maxRecDepth 65536 in
theorem w_t1 : words1.all (fun c => isCode c || c.before args0 about1) = true := by decide +kernel
theorem w_tables : (allAtoms (Jvm.Cond.code x code maxLocals ret :: tables_1)).before args0 about1 = true := by
  rw [allAtoms_all]
  show words1.all (fun c => c.before args0 about1) = true
  refine all_split ?_ w_codes
  rw [w_t1]
set_option maxRecDepth 65536 in
theorem w_case : (Jvm.Cond.and given_1 narrow_1).before args0 about1 = true := by decide +kernel
theorem w_applies : (headSpec (Jvm.Cond.code x code maxLocals ret :: tables_1) room_1).applies x e0.platform about1 = true :=
  (Spec.applies_iff w_frames).mpr ⟨w_running, w_runnable, w_alone, w_named, w_hears, w_ripe, w_room, w_tables⟩
theorem atStart : AtStart classFile x code maxLocals ret World_1 tables_1 room_1 Calls_1 rest_1 Pre_1 launch0 p0 e0 about1 theMethod args0 below0 :=
  ⟨lists_1, trivial, launch0.admits_env _ _ _, launch0.least_env, fairChoices_fair.cas, fairChoices_fair.clock, w_frames, w_args, w_heap, w_applies, trivial, trivial, w_case⟩
end start1
theorem witness_1 : WitnessClaimed_1 := ⟨start1.p0, start1.e0, start1.about1, start1.theMethod, start1.args0, start1.below0, start1.atStart⟩
end Jvm.Pilot.@@N@@
