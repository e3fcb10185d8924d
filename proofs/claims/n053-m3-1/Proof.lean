import JvmDerived
import JvmDerived.Pilot.@@N@@Statement
import JvmDerived.Pilot.@@N@@Code
set_option linter.unusedVariables false
set_option linter.unusedSimpArgs false
namespace Jvm.OwnKit
open Sem ClassFile Op Lib Jvm.Stand Jvm.Free Jvm.LawKit Jvm.RoadKit
section Own
variable {p : Program} {l : Launch} {e : Env} {R : Room} {s : State} {m : MethodId} {args : Array Value} {below : List Frame} {meth : Method} {c : Code} {T T' : State} {locs : List Loc} {cells slots : Nat}
/-- from the state T with the frame F on top the run comes to the method's end, and what Q says holds there -/
def OwnG (p : Program) (e : Env) (below : List Frame) (s : State) (Q : Option Value → Heap → List Loc → Prop) (k n : Nat) (T : State) (F : JFrame) : Prop :=
  ∃ s₂ o, Steps p.tables e below (T.setTop F) s₂ ∧ s₂.status = .running ∧ Ended s₂ below o ∧ ∃ v L, o = .returned v ∧ Q v s₂.heap L ∧ FrameEnd s o s₂ L k n
theorem OwnG.st {Q : Option Value → Heap → List Loc → Prop} {k n : Nat} {F F' : JFrame} (h : ∀ t, Steps p.tables e below (T'.setTop F') t → Steps p.tables e below (T.setTop F) t) (g : OwnG p e below s Q k n T' F') : OwnG p e below s Q k n T F := by
  obtain ⟨s2, o, h1, r⟩ := g
  exact ⟨s2, o, h _ h1, r⟩
theorem OwnG.leave (X : Stand p l e R s m args below meth c T locs cells slots) {Q : Option Value → Heap → List Loc → Prop} {k n : Nat} {F : JFrame} {v : Option Value} (hv : meth.sig.returnType = none → v = none) (hlk : meth.locks = false)
    (hs : ∀ fs, (∀ (f : JFrame) (acts : List Action), f.method = m → f.locked = none → f.entered = [] → (doReturn e (T.setTop f) acts v).1 = T.setFrames fs) → Steps p.tables e below (T.setTop F) (T.setFrames fs)) (hq : Q v T.heap locs) (hk : cells ≤ k) (hn : slots ≤ n) : OwnG p e below s Q k n T F := by
  obtain ⟨fs, hr, hrun, hended, hW, hsame⟩ := X.leave hv hlk
  exact ⟨_, _, hs fs hr, hrun, hended, _, _, rfl, hq, ⟨_, rfl⟩, hW, hsame.mono hk hn⟩
theorem OwnG.retI (X : Stand p l e R s m args below meth c T locs cells slots) (hx : p.tables.exec = Jvm.exec) {Q : Option Value → Heap → List Loc → Prop} {k n pc : Nat} {Ls : Array Slot} {z : Int32} {rest : List Value} (hret : meth.sig.returnType = some .int) (hlk : meth.locks = false) (hd : decode c.code pc = .ok (.ireturn, 1)) (hq : Q (some (.int z)) T.heap locs) (hk : cells ≤ k) (hn : slots ≤ n) : OwnG p e below s Q k n T (mkF m pc Ls (.int z :: rest)) :=
  OwnG.leave X (fun h => by rw [hret] at h; cases h) hlk (fun fs hr => retOut X hx hret rfl (Or.inl ⟨rfl, Or.inl rfl, z, rfl⟩) hd hr) hq hk hn
theorem OwnG.retJ (X : Stand p l e R s m args below meth c T locs cells slots) (hx : p.tables.exec = Jvm.exec) {Q : Option Value → Heap → List Loc → Prop} {k n pc : Nat} {Ls : Array Slot} {z : Int64} {rest : List Value} (hret : meth.sig.returnType = some .long) (hlk : meth.locks = false) (hd : decode c.code pc = .ok (.lreturn, 1)) (hq : Q (some (.long z)) T.heap locs) (hk : cells ≤ k) (hn : slots ≤ n) : OwnG p e below s Q k n T (mkF m pc Ls (.long z :: rest)) :=
  OwnG.leave X (fun h => by rw [hret] at h; cases h) hlk (fun fs hr => retOut X hx hret rfl (Or.inr (Or.inl ⟨rfl, rfl, z, rfl⟩)) hd hr) hq hk hn
theorem OwnG.retR (X : Stand p l e R s m args below meth c T locs cells slots) (hx : p.tables.exec = Jvm.exec) {Q : Option Value → Heap → List Loc → Prop} {k n pc : Nat} {Ls : Array Slot} {a : Addr} {rest : List Value} {t : FieldType} (hret : meth.sig.returnType = some t) (ht : t.isReference = true) (hnn : narrow t (.ref a) = .ref a) (hlk : meth.locks = false) (hd : decode c.code pc = .ok (.areturn, 1)) (hq : Q (some (.ref a)) T.heap locs) (hk : cells ≤ k) (hn : slots ≤ n) : OwnG p e below s Q k n T (mkF m pc Ls (.ref a :: rest)) :=
  OwnG.leave X (fun h => by rw [hret] at h; cases h) hlk (fun fs hr => retOut X hx hret hnn (Or.inr (Or.inr (Or.inr (Or.inr ⟨rfl, ht, rfl⟩)))) hd hr) hq hk hn
theorem OwnG.retN (X : Stand p l e R s m args below meth c T locs cells slots) (hx : p.tables.exec = Jvm.exec) {Q : Option Value → Heap → List Loc → Prop} {k n pc : Nat} {Ls : Array Slot} {z : Int32} {rest : List Value} {t : FieldType} (ht : t = .boolean ∨ t = .byte ∨ t = .char ∨ t = .short) (hret : meth.sig.returnType = some t) (hlk : meth.locks = false) (hd : decode c.code pc = .ok (.ireturn, 1)) (hq : Q (some (.int (nar t z))) T.heap locs) (hk : cells ≤ k) (hn : slots ≤ n) : OwnG p e below s Q k n T (mkF m pc Ls (.int z :: rest)) :=
  OwnG.leave X (fun h => by rw [hret] at h; cases h) hlk (fun fs hr => Jvm.RoadKit.retN X hx hret ht hd hr) hq hk hn
theorem OwnG.retV (X : Stand p l e R s m args below meth c T locs cells slots) (hx : p.tables.exec = Jvm.exec) {Q : Option Value → Heap → List Loc → Prop} {k n pc : Nat} {Ls : Array Slot} (hret : meth.sig.returnType = none) (hlk : meth.locks = false) (hd : decode c.code pc = .ok (.return_, 1)) (hq : Q none T.heap locs) (hk : cells ≤ k) (hn : slots ≤ n) : OwnG p e below s Q k n T (mkF m pc Ls []) :=
  OwnG.leave X (fun _ => rfl) hlk (fun fs hr => X.returnOut hx hret hd hr) hq hk hn
end Own
end Jvm.OwnKit
namespace Jvm.OwnKit
open Sem ClassFile Op Lib Jvm.Stand Jvm.Free Jvm.LawKit Jvm.RoadKit
section Arrays
variable {p : Program} {l : Launch} {e : Env} {R : Room} {s : State} {m : MethodId} {args : Array Value} {below : List Frame} {meth : Method} {c : Code} {T : State} {locs : List Loc} {cells slots : Nat} {Z : State} {a0 : Array Value} {h h' : Heap} {a b : Addr} {ty : FieldType} {n : Nat} {f f' : Nat → Value}
/-- at a lies an array of kind ty and length n whose components are f 0, f 1, .. -/
def OwnA (Z : State) (h : Heap) (a : Addr) (ty : FieldType) (n : Nat) (f : Nat → Value) : Prop := ∃ c : Cell, Arr Z h a c ty ∧ c.slots.size = n ∧ ∀ i, i < n → c.slots[i]? = some (f i)
def upd {α : Type} (g : Nat → α) (j : Nat) (v : α) : Nat → α := fun i => if i = j then v else g i
abbrev iv' (g : Nat → Int32) : Nat → Value := fun i => .int (g i)
abbrev jv' (g : Nat → Int64) : Nat → Value := fun i => .long (g i)
theorem OwnA.lt (A : OwnA Z h a ty n f) : a < h.size := by obtain ⟨c, A, -⟩ := A; exact A.lt
theorem OwnA.ext (A : OwnA Z h a ty n f) (E : Ext h h') : OwnA Z h' a ty n f := by obtain ⟨c, A, r⟩ := A; exact ⟨c, A.ext E, r⟩
theorem OwnA.other {sl : Nat} {v : Value} (A : OwnA Z h b ty n f) (W : Wr h h' a sl v) (q : b ≠ a) : OwnA Z h' b ty n f := by obtain ⟨c, A, r⟩ := A; exact ⟨c, A.other W q, r⟩
theorem OwnA.keep {ws : List Addr} (A : OwnA Z h a ty n f) (K : Keep h h' ws) (q : a ∉ ws) : OwnA Z h' a ty n f := by obtain ⟨c, A, r⟩ := A; exact ⟨c, ⟨K.2.1 a c A.1 q, A.2⟩, r⟩
theorem OwnA.congr (A : OwnA Z h a ty n f) (q : ∀ i, i < n → f i = f' i) : OwnA Z h a ty n f' := by obtain ⟨c, A, s1, s2⟩ := A; exact ⟨c, A, s1, fun i hi => (s2 i hi).trans (congrArg some (q i hi))⟩
theorem own_in {c : Cell} {j : Int32} (S : c.slots.size = n) (h0 : 0 ≤ j.toInt) (h1 : j.toInt < n) : ¬ (j < 0 ∨ c.slots.size ≤ j.toNatClampNeg) := by
  have e0 : (0 : Int32).toInt = 0 := rfl
  have e1 : j.toNatClampNeg = j.toInt.toNat := rfl
  rw [S, Int32.lt_iff_toInt_lt, e0, e1]; omega
theorem own_slots (c : Cell) (i : Nat) (v : Value) : (c.setSlot i v).slots = c.slots.setIfInBounds i v := rfl
theorem own_set {cl : Cell} {sl : Nat} {v : Value} (A : Arr Z h a cl ty) (S : cl.slots.size = n) (G : ∀ i, i < n → cl.slots[i]? = some (f i)) (W : Wr h h' a sl v) (hs : sl < n) : OwnA Z h' a ty n (upd f sl v) := by
  refine ⟨_, A.same W, by rw [sz_set]; exact S, fun i hi => ?_⟩
  rw [own_slots]
  by_cases u : sl = i
  · subst u; rw [Array.getElem?_setIfInBounds_self_of_lt (by omega)]; exact congrArg some (show v = (if sl = sl then v else f sl) by rw [if_pos rfl])
  · rw [Array.getElem?_setIfInBounds_ne u, G i hi]; exact congrArg some (show f i = (if i = sl then v else f i) by rw [if_neg (fun q => u q.symm)])
theorem own_ldB {g : Nat → Int32} (A : OwnA Z h a .byte n (iv' g)) (X : Stand p l e R s m args below meth c T locs cells slots) (hx : p.tables.exec = Jvm.exec) (hZ : Z.Warmed39 s.vm) (eT : T.heap = h) {j : Int32} (h0 : 0 ≤ j.toInt) (h1 : j.toInt < n) {gf : JFrame} (hg : gf.method = m) {rest : List Value} (hs : gf.stack = .int j :: .ref a :: rest) (hd : decode c.code gf.pc = .ok (.baload, 1)) :
    ∀ target, Steps p.tables e below (T.setTop { gf with pc := gf.pc + 1, stack := .int (g j.toInt.toNat) :: rest }) target → Steps p.tables e below (T.setTop gf) target := by
  obtain ⟨cl, A, S, G⟩ := A
  exact fun t k => X.baloadBytes hx (by rw [eT]; exact A.1) (State.isArrayOf_alike hZ.alike A.2.1) A.2.2 (own_in S h0 h1) (G j.toInt.toNat (by omega)) hg hs hd t k
theorem own_ldI {g : Nat → Int32} (A : OwnA Z h a .int n (iv' g)) (X : Stand p l e R s m args below meth c T locs cells slots) (hx : p.tables.exec = Jvm.exec) (hZ : Z.Warmed39 s.vm) (eT : T.heap = h) {j : Int32} (h0 : 0 ≤ j.toInt) (h1 : j.toInt < n) {gf : JFrame} (hg : gf.method = m) {rest : List Value} (hs : gf.stack = .int j :: .ref a :: rest) (hd : decode c.code gf.pc = .ok (.iaload, 1)) :
    ∀ target, Steps p.tables e below (T.setTop { gf with pc := gf.pc + 1, stack := .int (g j.toInt.toNat) :: rest }) target → Steps p.tables e below (T.setTop gf) target := by
  obtain ⟨cl, A, S, G⟩ := A
  exact fun t k => X.iaload hx (by rw [eT]; exact A.1) (State.isArrayOf_alike hZ.alike A.2.1) A.2.2 (own_in S h0 h1) (G j.toInt.toNat (by omega)) hg hs hd t k
theorem own_ldJ {g : Nat → Int64} (A : OwnA Z h a .long n (jv' g)) (X : Stand p l e R s m args below meth c T locs cells slots) (hx : p.tables.exec = Jvm.exec) (hZ : Z.Warmed39 s.vm) (eT : T.heap = h) {j : Int32} (h0 : 0 ≤ j.toInt) (h1 : j.toInt < n) {gf : JFrame} (hg : gf.method = m) {rest : List Value} (hs : gf.stack = .int j :: .ref a :: rest) (hd : decode c.code gf.pc = .ok (.laload, 1)) :
    ∀ target, Steps p.tables e below (T.setTop { gf with pc := gf.pc + 1, stack := .long (g j.toInt.toNat) :: rest }) target → Steps p.tables e below (T.setTop gf) target := by
  obtain ⟨cl, A, S, G⟩ := A
  exact fun t k => X.laload hx (by rw [eT]; exact A.1) (State.isArrayOf_alike hZ.alike A.2.1) A.2.2 (own_in S h0 h1) (G j.toInt.toNat (by omega)) hg hs hd t k
theorem own_len (A : OwnA Z h a ty n f) (X : Stand p l e R s m args below meth c T locs cells slots) (hx : p.tables.exec = Jvm.exec) (hZ : Z.Warmed39 s.vm) (eT : T.heap = h) {gf : JFrame} (hg : gf.method = m) {rest : List Value} (hs : gf.stack = .ref a :: rest) (hd : decode c.code gf.pc = .ok (.arraylength, 1)) :
    ∀ target, Steps p.tables e below (T.setTop { gf with pc := gf.pc + 1, stack := .int n.toInt32 :: rest }) target → Steps p.tables e below (T.setTop gf) target := by
  obtain ⟨cl, A, S, G⟩ := A
  subst S
  exact fun t k => X.arraylength hx (by rw [eT]; exact A.1) (State.isArrayOf_alike hZ.alike A.2.1) hg hs hd t k
theorem own_stB {g : Nat → Int32} (A : OwnA Z h a .byte n (iv' g)) (X : Stand p l e R s m args below meth c T locs cells slots) (hx : p.tables.exec = Jvm.exec) (hZ : Z.Warmed39 s.vm) (eT : T.heap = h) {j x : Int32} (h0 : 0 ≤ j.toInt) (h1 : j.toInt < n) {gf : JFrame} (hg : gf.method = m) {rest : List Value} (hs : gf.stack = .int x :: .int j :: .ref a :: rest) (hd : decode c.code gf.pc = .ok (.bastore, 1)) :
    ∃ T' h', Stand p l e R s m args below meth c T' (locs ++ [⟨a, j.toNatClampNeg⟩]) cells slots ∧ T'.heap = h' ∧ Wr h h' a j.toNatClampNeg (.int (nar .byte x)) ∧ OwnA Z h' a .byte n (iv' (upd g j.toInt.toNat x.toInt8.toInt32)) ∧ ∀ target, Steps p.tables e below (T'.setTop { gf with pc := gf.pc + 1, stack := rest }) target → Steps p.tables e below (T.setTop gf) target := by
  obtain ⟨cl, A, S, G⟩ := A
  obtain ⟨T', h', X', e', W, st⟩ := stB X hx hZ eT A (own_in S h0 h1) hg hs hd
  refine ⟨T', h', X', e', W, OwnA.congr (own_set A S G W (by show j.toInt.toNat < n; omega)) fun i hi => ?_, st⟩
  show (if i = j.toInt.toNat then Value.int (x.toInt8.toInt32) else .int (g i)) = .int (if i = j.toInt.toNat then x.toInt8.toInt32 else g i)
  by_cases u : i = j.toInt.toNat
  · rw [if_pos u, if_pos u]
  · rw [if_neg u, if_neg u]
theorem own_stI {g : Nat → Int32} (A : OwnA Z h a .int n (iv' g)) (X : Stand p l e R s m args below meth c T locs cells slots) (hx : p.tables.exec = Jvm.exec) (hZ : Z.Warmed39 s.vm) (eT : T.heap = h) {j x : Int32} (h0 : 0 ≤ j.toInt) (h1 : j.toInt < n) {gf : JFrame} (hg : gf.method = m) {rest : List Value} (hs : gf.stack = .int x :: .int j :: .ref a :: rest) (hd : decode c.code gf.pc = .ok (.iastore, 1)) :
    ∃ T' h', Stand p l e R s m args below meth c T' (locs ++ [⟨a, j.toNatClampNeg⟩]) cells slots ∧ T'.heap = h' ∧ Wr h h' a j.toNatClampNeg (.int x) ∧ OwnA Z h' a .int n (iv' (upd g j.toInt.toNat x)) ∧ ∀ target, Steps p.tables e below (T'.setTop { gf with pc := gf.pc + 1, stack := rest }) target → Steps p.tables e below (T.setTop gf) target := by
  obtain ⟨cl, A, S, G⟩ := A
  obtain ⟨T', h', X', e', W, st⟩ := stI X hx hZ eT A (own_in S h0 h1) hg hs hd
  refine ⟨T', h', X', e', W, OwnA.congr (own_set A S G W (by show j.toInt.toNat < n; omega)) fun i hi => ?_, st⟩
  show (if i = j.toInt.toNat then Value.int x else .int (g i)) = .int (if i = j.toInt.toNat then x else g i)
  by_cases u : i = j.toInt.toNat
  · rw [if_pos u, if_pos u]
  · rw [if_neg u, if_neg u]
theorem own_stJ {g : Nat → Int64} (A : OwnA Z h a .long n (jv' g)) (X : Stand p l e R s m args below meth c T locs cells slots) (hx : p.tables.exec = Jvm.exec) (hZ : Z.Warmed39 s.vm) (eT : T.heap = h) {j : Int32} {x : Int64} (h0 : 0 ≤ j.toInt) (h1 : j.toInt < n) {gf : JFrame} (hg : gf.method = m) {rest : List Value} (hs : gf.stack = .long x :: .int j :: .ref a :: rest) (hd : decode c.code gf.pc = .ok (.lastore, 1)) :
    ∃ T' h', Stand p l e R s m args below meth c T' (locs ++ [⟨a, j.toNatClampNeg⟩]) cells slots ∧ T'.heap = h' ∧ Wr h h' a j.toNatClampNeg (.long x) ∧ OwnA Z h' a .long n (jv' (upd g j.toInt.toNat x)) ∧ ∀ target, Steps p.tables e below (T'.setTop { gf with pc := gf.pc + 1, stack := rest }) target → Steps p.tables e below (T.setTop gf) target := by
  obtain ⟨cl, A, S, G⟩ := A
  obtain ⟨T', h', X', e', W, st⟩ := stJ X hx hZ eT A (own_in S h0 h1) hg hs hd
  refine ⟨T', h', X', e', W, OwnA.congr (own_set A S G W (by show j.toInt.toNat < n; omega)) fun i hi => ?_, st⟩
  show (if i = j.toInt.toNat then Value.long x else .long (g i)) = .long (if i = j.toInt.toNat then x else g i)
  by_cases u : i = j.toInt.toNat
  · rw [if_pos u, if_pos u]
  · rw [if_neg u, if_neg u]
theorem own_newA {k : ClassId} {z : Int32} (A : Arr Z h a (newA k ty z) ty) (hn : z.toInt = n) : OwnA Z h a ty n (fun _ => defaultValue ty) := by
  have e1 : z.toNatClampNeg = n := by show z.toInt.toNat = n; omega
  refine ⟨_, A, by rw [sz_new]; exact e1, fun i hi => ?_⟩
  show (Array.replicate z.toNatClampNeg (defaultValue ty))[i]? = _
  rw [e1, Array.getElem?_replicate, if_pos hi]
end Arrays
end Jvm.OwnKit
namespace Jvm.OwnKit
open Jvm.RoadKit
theorem own_lushr (x : Int64) (q : Int32) (k : Nat) (hk : q.toBitVec.toNat % 64 = k) : ((x.toUInt64 >>> (q &&& 0x3f).toInt64.toUInt64).toInt64).toBitVec = x.toBitVec >>> k := by
  have h5 := (sm64 q k hk).2
  show x.toBitVec >>> ((q &&& 0x3f).toInt64.toBitVec % 64) = _
  rw [BitVec.ushiftRight_eq', BitVec.toNat_umod, (sm64 q k hk).1, BitVec.toNat_ofNat]
  congr 1
  show k % 2 ^ 64 % 64 = k
  omega
theorem own_lshl (x : Int64) (q : Int32) (k : Nat) (hk : q.toBitVec.toNat % 64 = k) : (x <<< (q &&& 0x3f).toInt64).toBitVec = x.toBitVec <<< k := by
  have h5 := (sm64 q k hk).2
  show x.toBitVec <<< ((q &&& 0x3f).toInt64.toBitVec.smod 64) = _
  rw [BitVec.shiftLeft_eq', (sm64 q k hk).1, smod64 k h5]
end Jvm.OwnKit
namespace Jvm.Pilot.@@N@@
open Jvm Jvm.ClassFile Sem Op Lib Jvm.Free Jvm.Stand Jvm.LawKit Jvm.RoadKit Bundle Jvm.Pilot.@@N@@.Jvm.D Jvm.OwnKit
def F2 (q1 : Int64) : Int32 := ((((q1.toUInt64 >>> ((32 : Int32) &&& 0x3f).toInt64.toUInt64).toInt64) &&& (4095 : Int64)).toInt32)
theorem d2_0 : decode prog_71_method_6_code 0 = .ok (.lload_n 0, 1) := by decide +kernel
theorem d2_1 : decode prog_71_method_6_code 1 = .ok (.bipush 32, 2) := by decide +kernel
theorem d2_3 : decode prog_71_method_6_code 3 = .ok (.lushr, 1) := by decide +kernel
theorem d2_4 : decode prog_71_method_6_code 4 = .ok (.ldc2_w 13, 3) := by decide +kernel
theorem d2_7 : decode prog_71_method_6_code 7 = .ok (.land, 1) := by decide +kernel
theorem d2_8 : decode prog_71_method_6_code 8 = .ok (.l2i, 1) := by decide +kernel
theorem d2_9 : decode prog_71_method_6_code 9 = .ok (.ireturn, 1) := by decide +kernel
theorem pn_2 : plainName "com/example/weiche/weiche/graphgame/Token" = true := by first | (simp [plainName, overriddenIn]; done) | decide +kernel
theorem ef_2 (m : MethodId) (q1 : Int64) : entryFrame m #[(.long q1)] 2 = mkF m 0 #[.val (.long q1), .second] [] := by first | (simp [entryFrame, mkF, argsToLocals, Value.category]; done) | rfl
def Q2 (Z : State) (q1 : Int64) (h0 : Heap) (n0 : Nat) (v : Option Value) (h : Heap) (L : List Loc) : Prop := v = some (.int (F2 q1)) ∧ Fr n0 L ∧ h = h0
set_option maxRecDepth 65536 in
set_option maxHeartbeats 40000000 in
theorem rm2 (l : Launch) (Z : State) (a0 : Array Value) (hw : ∀ d ∈ tables_1, d.before a0 Z = true) (ws : List Jvm.Cond) (q1 : Int64)  (h0 : Heap) (n0 : Nat) (Z0 : n0 ≤ h0.size)  :
    MetFree l (⟨"com/example/weiche/weiche/graphgame/Token", "firings", "(J)I"⟩ : MethodName) (head1 (Jvm.Cond.code (⟨"com/example/weiche/weiche/graphgame/Token", "firings", "(J)I"⟩ : MethodName) prog_71_method_6_code 2 (some .int) :: ws) ({ frames := 0, cells := 0, slots := 0, locals := 0 } : Room)) (fun a U => a = #[(.long q1)] ∧ Z.Warmed39 U.vm ∧ U.heap = h0) (fun _ _ _ _ _ => True) (fun _ U o U' => ∃ v L, o = .returned v ∧ Q2 Z q1 h0 n0 v U'.heap L ∧ FrameEnd U o U' L ({ frames := 0, cells := 0, slots := 0, locals := 0 } : Room).cells ({ frames := 0, cells := 0, slots := 0, locals := 0 } : Room).slots) := by
  refine MetFree.of_bodySF (plainFor_of_name pn_2) hisR ?_
  intro p e s m args below meth c s₁ Bd hml0 hP hK
  obtain ⟨rfl, hZ, hh⟩ := hP
  have hx := Bd.exec
  have hby := Bd.bytes
  have hml : c.maxLocals = 2 := hml0
  have hown : s.vm.findClass "com/example/weiche/weiche/graphgame/Token" = some m.cls := findClass_of_methodNamed Bd.named
  have hnm := (name_of_methodNamed Bd.named Bd.method).1
  have X0 : Stand p l e ({ frames := 0, cells := 0, slots := 0, locals := 0 } : Room) s m #[(.long q1)] below meth c s₁ [] 0 0 := Stand.of_body Bd
  have e0 : s₁.heap = h0 := by rw [← hh, Bd.state]; rfl
  have N0 := Fr.nil n0
  suffices hG : OwnG p e below s (Q2 Z q1 h0 n0) ({ frames := 0, cells := 0, slots := 0, locals := 0 } : Room).cells ({ frames := 0, cells := 0, slots := 0, locals := 0 } : Room).slots s₁ (mkF m 0 #[.val (.long q1), .second] []) by
    obtain ⟨s2, o2, g1, g2⟩ := hG
    exact ⟨s2, o2, castTop (ef_2 m q1) g1, g2⟩
  have sg1 : ∀ t, Steps p.tables e below (s₁.setTop (mkF m 9 #[.val (.long q1), .second] [(.int ((((q1.toUInt64 >>> ((32 : Int32) &&& 0x3f).toInt64.toUInt64).toInt64) &&& (4095 : Int64)).toInt32))])) t → Steps p.tables e below (s₁.setTop (mkF m 0 #[.val (.long q1), .second] [])) t := by
    intro t k
    refine XS.lloadN X0.here hx rfl (hb hby d2_0) rfl ?_
    show Steps p.tables e below (s₁.setTop (mkF m 1 #[.val (.long q1), .second] [(.long q1)])) _
    refine XS.bipush X0.here hx rfl (hb hby d2_1) ?_
    show Steps p.tables e below (s₁.setTop (mkF m 3 #[.val (.long q1), .second] [(.int (32 : Int32)), (.long q1)])) _
    refine XS.lushr X0.here hx rfl (hb hby d2_3) rfl ?_
    show Steps p.tables e below (s₁.setTop (mkF m 4 #[.val (.long q1), .second] [(.long ((q1.toUInt64 >>> ((32 : Int32) &&& 0x3f).toInt64.toUInt64).toInt64))])) _
    refine X0.ldc2Long hx hown (mvT hZ (hw _ (List.mem_of_getElem? (i := 10) rfl))) (g := (mkF m 4 #[.val (.long q1), .second] [(.long ((q1.toUInt64 >>> ((32 : Int32) &&& 0x3f).toInt64.toUInt64).toInt64))])) rfl (hb hby d2_4) _ ?_
    show Steps p.tables e below (s₁.setTop (mkF m 7 #[.val (.long q1), .second] [(.long (4095 : Int64)), (.long ((q1.toUInt64 >>> ((32 : Int32) &&& 0x3f).toInt64.toUInt64).toInt64))])) _
    refine XS.land X0.here hx rfl (hb hby d2_7) rfl ?_
    show Steps p.tables e below (s₁.setTop (mkF m 8 #[.val (.long q1), .second] [(.long (((q1.toUInt64 >>> ((32 : Int32) &&& 0x3f).toInt64.toUInt64).toInt64) &&& (4095 : Int64)))])) _
    refine XS.l2i X0.here hx rfl (hb hby d2_8) rfl ?_
    show Steps p.tables e below (s₁.setTop (mkF m 9 #[.val (.long q1), .second] [(.int ((((q1.toUInt64 >>> ((32 : Int32) &&& 0x3f).toInt64.toUInt64).toInt64) &&& (4095 : Int64)).toInt32))])) _
    exact k
  refine OwnG.st sg1 ?_
  have hv : ((((q1.toUInt64 >>> ((32 : Int32) &&& 0x3f).toInt64.toUInt64).toInt64) &&& (4095 : Int64)).toInt32) = F2 q1 := by simp only [F2]
  exact OwnG.retI X0 hx Bd.returns (BodyLoose.notSynchronized Bd) (hb hby d2_9) ⟨congrArg (fun w => some (Value.int w)) hv, N0, e0⟩ (by decide) (by decide)
def own_fold (g : Nat → Int64) : Nat → Int32
  | 0 => -1
  | k + 1 => own_fold g k &&& F2 (g k)
theorem own_fs (g : Nat → Int64) (k : Nat) : own_fold g (k + 1) = own_fold g k &&& F2 (g k) := rfl
def F1 (n : Nat) (g : Nat → Int64) : Int32 := if n.toInt32 = (0 : Int32) then (0 : Int32) else own_fold g n
theorem own_n32 (n : Nat) (h : n ≤ 3) : n.toInt32.toInt = n := Int32.toInt_ofNat_of_lt (by omega)
theorem own_ip (i : Int32) (h0 : 0 ≤ i.toInt) (h1 : i.toInt < 100) : (i + 1).toInt = i.toInt + 1 ∧ (i + 1).toInt.toNat = i.toInt.toNat + 1 := by
  have h := c_iadd i 1
  have r := rng32 (i + 1)
  have e : (1 : Int32).toInt = 1 := rfl
  omega
theorem d1_0 : decode prog_50_method_4_code 0 = .ok (.iconst (-1), 1) := by decide +kernel
theorem d1_1 : decode prog_50_method_4_code 1 = .ok (.istore_n 1, 1) := by decide +kernel
theorem d1_2 : decode prog_50_method_4_code 2 = .ok (.aload_n 0, 1) := by decide +kernel
theorem d1_3 : decode prog_50_method_4_code 3 = .ok (.astore_n 2, 1) := by decide +kernel
theorem d1_4 : decode prog_50_method_4_code 4 = .ok (.aload_n 2, 1) := by decide +kernel
theorem d1_5 : decode prog_50_method_4_code 5 = .ok (.arraylength, 1) := by decide +kernel
theorem d1_6 : decode prog_50_method_4_code 6 = .ok (.istore_n 3, 1) := by decide +kernel
theorem d1_7 : decode prog_50_method_4_code 7 = .ok (.iconst 0, 1) := by decide +kernel
theorem d1_8 : decode prog_50_method_4_code 8 = .ok (.istore 4, 2) := by decide +kernel
theorem d1_10 : decode prog_50_method_4_code 10 = .ok (.iload 4, 2) := by decide +kernel
theorem d1_12 : decode prog_50_method_4_code 12 = .ok (.iload_n 3, 1) := by decide +kernel
theorem d1_13 : decode prog_50_method_4_code 13 = .ok (.if_icmp .ge 23, 3) := by decide +kernel
theorem d1_16 : decode prog_50_method_4_code 16 = .ok (.aload_n 2, 1) := by decide +kernel
theorem d1_17 : decode prog_50_method_4_code 17 = .ok (.iload 4, 2) := by decide +kernel
theorem d1_19 : decode prog_50_method_4_code 19 = .ok (.laload, 1) := by decide +kernel
theorem d1_20 : decode prog_50_method_4_code 20 = .ok (.lstore 5, 2) := by decide +kernel
theorem d1_22 : decode prog_50_method_4_code 22 = .ok (.iload_n 1, 1) := by decide +kernel
theorem d1_23 : decode prog_50_method_4_code 23 = .ok (.lload 5, 2) := by decide +kernel
theorem d1_25 : decode prog_50_method_4_code 25 = .ok (.invokestatic 91, 3) := by decide +kernel
theorem d1_28 : decode prog_50_method_4_code 28 = .ok (.iand, 1) := by decide +kernel
theorem d1_29 : decode prog_50_method_4_code 29 = .ok (.istore_n 1, 1) := by decide +kernel
theorem d1_30 : decode prog_50_method_4_code 30 = .ok (.iinc 4 1, 3) := by decide +kernel
theorem d1_33 : decode prog_50_method_4_code 33 = .ok (.goto (-23), 3) := by decide +kernel
theorem d1_36 : decode prog_50_method_4_code 36 = .ok (.aload_n 0, 1) := by decide +kernel
theorem d1_37 : decode prog_50_method_4_code 37 = .ok (.arraylength, 1) := by decide +kernel
theorem d1_38 : decode prog_50_method_4_code 38 = .ok (.ifCond .ne 7, 3) := by decide +kernel
theorem d1_41 : decode prog_50_method_4_code 41 = .ok (.iconst 0, 1) := by decide +kernel
theorem d1_42 : decode prog_50_method_4_code 42 = .ok (.goto 4, 3) := by decide +kernel
theorem d1_45 : decode prog_50_method_4_code 45 = .ok (.iload_n 1, 1) := by decide +kernel
theorem d1_46 : decode prog_50_method_4_code 46 = .ok (.ireturn, 1) := by decide +kernel
theorem pn_1 : plainName "com/example/weiche/weiche/explicit/Concurrency" = true := by first | (simp [plainName, overriddenIn]; done) | decide +kernel
theorem pd_1_0 : parseMethodDescriptor "(J)I" = some ⟨[.long], some .int⟩ := by decide +kernel
theorem ef_1 (m : MethodId) (a1 : Addr) : entryFrame m #[(.ref a1)] 7 = mkF m 0 #[.val (.ref a1), .unset, .unset, .unset, .unset, .unset, .unset] [] := by first | (simp [entryFrame, mkF, argsToLocals, Value.category]; done) | rfl
def Q1 (Z : State) (a1 : Addr) (n_a1 : Nat) (g_a1 : Nat → Int64) (h0 : Heap) (n0 : Nat) (v : Option Value) (h : Heap) (L : List Loc) : Prop := v = some (.int (F1 n_a1 g_a1)) ∧ Fr n0 L ∧ h = h0
set_option maxRecDepth 65536 in
set_option maxHeartbeats 40000000 in
theorem rm1 (l : Launch) (Z : State) (a0 : Array Value) (hw : ∀ d ∈ tables_1, d.before a0 Z = true) (ws : List Jvm.Cond) (a1 : Addr) (n_a1 : Nat) (g_a1 : Nat → Int64) (h0 : Heap) (n0 : Nat) (Z0 : n0 ≤ h0.size) (A_a1 : OwnA Z h0 a1 .long n_a1 (jv' g_a1)) (hs0 : n_a1 ≤ 3) :
    MetFree l (⟨"com/example/weiche/weiche/explicit/Concurrency", "together", "([J)I"⟩ : MethodName) (head1 (Jvm.Cond.code (⟨"com/example/weiche/weiche/explicit/Concurrency", "together", "([J)I"⟩ : MethodName) prog_50_method_4_code 7 (some .int) :: ws) ({ frames := 1, cells := 0, slots := 0, locals := 14 } : Room)) (fun a U => a = #[(.ref a1)] ∧ Z.Warmed39 U.vm ∧ U.heap = h0) (fun _ _ _ _ _ => True) (fun _ U o U' => ∃ v L, o = .returned v ∧ Q1 Z a1 n_a1 g_a1 h0 n0 v U'.heap L ∧ FrameEnd U o U' L ({ frames := 1, cells := 0, slots := 0, locals := 14 } : Room).cells ({ frames := 1, cells := 0, slots := 0, locals := 14 } : Room).slots) := by
  refine MetFree.of_bodySF (plainFor_of_name pn_1) hisR ?_
  intro p e s m args below meth c s₁ Bd hml0 hP hK
  obtain ⟨rfl, hZ, hh⟩ := hP
  have hx := Bd.exec
  have hby := Bd.bytes
  have hml : c.maxLocals = 7 := hml0
  have hown : s.vm.findClass "com/example/weiche/weiche/explicit/Concurrency" = some m.cls := findClass_of_methodNamed Bd.named
  have hnm := (name_of_methodNamed Bd.named Bd.method).1
  have X0 : Stand p l e ({ frames := 1, cells := 0, slots := 0, locals := 14 } : Room) s m #[(.ref a1)] below meth c s₁ [] 0 0 := Stand.of_body Bd
  have e0 : s₁.heap = h0 := by rw [← hh, Bd.state]; rfl
  have N0 := Fr.nil n0
  suffices hG : OwnG p e below s (Q1 Z a1 n_a1 g_a1 h0 n0) ({ frames := 1, cells := 0, slots := 0, locals := 14 } : Room).cells ({ frames := 1, cells := 0, slots := 0, locals := 14 } : Room).slots s₁ (mkF m 0 #[.val (.ref a1), .unset, .unset, .unset, .unset, .unset, .unset] []) by
    obtain ⟨s2, o2, g1, g2⟩ := hG
    exact ⟨s2, o2, castTop (ef_1 m a1) g1, g2⟩
  have sg1 : ∀ t, Steps p.tables e below (s₁.setTop (mkF m 10 #[.val (.ref a1), .val (.int (-1 : Int32)), .val (.ref a1), .val (.int (n_a1.toInt32)), .val (.int (0 : Int32)), .unset, .unset] [])) t → Steps p.tables e below (s₁.setTop (mkF m 0 #[.val (.ref a1), .unset, .unset, .unset, .unset, .unset, .unset] [])) t := by
    intro t k
    refine XS.iconst X0.here hx rfl (hb hby d1_0) ?_
    show Steps p.tables e below (s₁.setTop (mkF m 1 #[.val (.ref a1), .unset, .unset, .unset, .unset, .unset, .unset] [(.int (-1 : Int32))])) _
    refine XS.istoreN X0.here hx rfl (hb hby d1_1) rfl (l' := #[.val (.ref a1), .val (.int (-1 : Int32)), .unset, .unset, .unset, .unset, .unset]) rfl ?_
    show Steps p.tables e below (s₁.setTop (mkF m 2 #[.val (.ref a1), .val (.int (-1 : Int32)), .unset, .unset, .unset, .unset, .unset] [])) _
    refine XS.aloadN X0.here hx rfl (hb hby d1_2) rfl rfl ?_
    show Steps p.tables e below (s₁.setTop (mkF m 3 #[.val (.ref a1), .val (.int (-1 : Int32)), .unset, .unset, .unset, .unset, .unset] [(.ref a1)])) _
    refine XS.astoreN X0.here hx rfl (hb hby d1_3) rfl rfl (l' := #[.val (.ref a1), .val (.int (-1 : Int32)), .val (.ref a1), .unset, .unset, .unset, .unset]) rfl ?_
    show Steps p.tables e below (s₁.setTop (mkF m 4 #[.val (.ref a1), .val (.int (-1 : Int32)), .val (.ref a1), .unset, .unset, .unset, .unset] [])) _
    refine XS.aloadN X0.here hx rfl (hb hby d1_4) rfl rfl ?_
    show Steps p.tables e below (s₁.setTop (mkF m 5 #[.val (.ref a1), .val (.int (-1 : Int32)), .val (.ref a1), .unset, .unset, .unset, .unset] [(.ref a1)])) _
    refine own_len A_a1 X0 hx hZ e0 (gf := (mkF m 5 #[.val (.ref a1), .val (.int (-1 : Int32)), .val (.ref a1), .unset, .unset, .unset, .unset] [(.ref a1)])) rfl rfl (hb hby d1_5) _ ?_
    show Steps p.tables e below (s₁.setTop (mkF m 6 #[.val (.ref a1), .val (.int (-1 : Int32)), .val (.ref a1), .unset, .unset, .unset, .unset] [(.int (n_a1.toInt32))])) _
    refine XS.istoreN X0.here hx rfl (hb hby d1_6) rfl (l' := #[.val (.ref a1), .val (.int (-1 : Int32)), .val (.ref a1), .val (.int (n_a1.toInt32)), .unset, .unset, .unset]) rfl ?_
    show Steps p.tables e below (s₁.setTop (mkF m 7 #[.val (.ref a1), .val (.int (-1 : Int32)), .val (.ref a1), .val (.int (n_a1.toInt32)), .unset, .unset, .unset] [])) _
    refine XS.iconst X0.here hx rfl (hb hby d1_7) ?_
    show Steps p.tables e below (s₁.setTop (mkF m 8 #[.val (.ref a1), .val (.int (-1 : Int32)), .val (.ref a1), .val (.int (n_a1.toInt32)), .unset, .unset, .unset] [(.int (0 : Int32))])) _
    refine XS.istore X0.here hx rfl (hb hby d1_8) rfl (l' := #[.val (.ref a1), .val (.int (-1 : Int32)), .val (.ref a1), .val (.int (n_a1.toInt32)), .val (.int (0 : Int32)), .unset, .unset]) rfl ?_
    show Steps p.tables e below (s₁.setTop (mkF m 10 #[.val (.ref a1), .val (.int (-1 : Int32)), .val (.ref a1), .val (.int (n_a1.toInt32)), .val (.int (0 : Int32)), .unset, .unset] [])) _
    exact k
  refine OwnG.st sg1 ?_
  have sg2 : ∀ t, Steps p.tables e below (s₁.setTop (mkF m 13 #[.val (.ref a1), .val (.int (-1 : Int32)), .val (.ref a1), .val (.int (n_a1.toInt32)), .val (.int (0 : Int32)), .unset, .unset] [(.int (n_a1.toInt32)), (.int (0 : Int32))])) t → Steps p.tables e below (s₁.setTop (mkF m 10 #[.val (.ref a1), .val (.int (-1 : Int32)), .val (.ref a1), .val (.int (n_a1.toInt32)), .val (.int (0 : Int32)), .unset, .unset] [])) t := by
    intro t k
    refine XS.iload X0.here hx rfl (hb hby d1_10) rfl ?_
    show Steps p.tables e below (s₁.setTop (mkF m 12 #[.val (.ref a1), .val (.int (-1 : Int32)), .val (.ref a1), .val (.int (n_a1.toInt32)), .val (.int (0 : Int32)), .unset, .unset] [(.int (0 : Int32))])) _
    refine XS.iloadN X0.here hx rfl (hb hby d1_12) rfl ?_
    show Steps p.tables e below (s₁.setTop (mkF m 13 #[.val (.ref a1), .val (.int (-1 : Int32)), .val (.ref a1), .val (.int (n_a1.toInt32)), .val (.int (0 : Int32)), .unset, .unset] [(.int (n_a1.toInt32)), (.int (0 : Int32))])) _
    exact k
  refine OwnG.st sg2 ?_
  by_cases hc13_3 : (0 : Int32) < (n_a1.toInt32)
  · have sg4 : ∀ t, Steps p.tables e below (s₁.setTop (mkF m 25 #[.val (.ref a1), .val (.int (-1 : Int32)), .val (.ref a1), .val (.int (n_a1.toInt32)), .val (.int (0 : Int32)), .val (.long (g_a1 0)), .second] [(.long (g_a1 0)), (.int (-1 : Int32))])) t → Steps p.tables e below (s₁.setTop (mkF m 13 #[.val (.ref a1), .val (.int (-1 : Int32)), .val (.ref a1), .val (.int (n_a1.toInt32)), .val (.int (0 : Int32)), .unset, .unset] [(.int (n_a1.toInt32)), (.int (0 : Int32))])) t := by
      intro t k
      refine XS.icmpNo X0.here hx rfl (hb hby d1_13) rfl (tlt hc13_3).2.1 ?_
      show Steps p.tables e below (s₁.setTop (mkF m 16 #[.val (.ref a1), .val (.int (-1 : Int32)), .val (.ref a1), .val (.int (n_a1.toInt32)), .val (.int (0 : Int32)), .unset, .unset] [])) _
      refine XS.aloadN X0.here hx rfl (hb hby d1_16) rfl rfl ?_
      show Steps p.tables e below (s₁.setTop (mkF m 17 #[.val (.ref a1), .val (.int (-1 : Int32)), .val (.ref a1), .val (.int (n_a1.toInt32)), .val (.int (0 : Int32)), .unset, .unset] [(.ref a1)])) _
      refine XS.iload X0.here hx rfl (hb hby d1_17) rfl ?_
      show Steps p.tables e below (s₁.setTop (mkF m 19 #[.val (.ref a1), .val (.int (-1 : Int32)), .val (.ref a1), .val (.int (n_a1.toInt32)), .val (.int (0 : Int32)), .unset, .unset] [(.int (0 : Int32)), (.ref a1)])) _
      refine own_ldJ A_a1 X0 hx hZ e0 (by decide) (by have q := Int32.lt_iff_toInt_lt.mp hc13_3; rw [own_n32 _ hs0] at q; exact q) (gf := (mkF m 19 #[.val (.ref a1), .val (.int (-1 : Int32)), .val (.ref a1), .val (.int (n_a1.toInt32)), .val (.int (0 : Int32)), .unset, .unset] [(.int (0 : Int32)), (.ref a1)])) rfl rfl (hb hby d1_19) _ ?_
      show Steps p.tables e below (s₁.setTop (mkF m 20 #[.val (.ref a1), .val (.int (-1 : Int32)), .val (.ref a1), .val (.int (n_a1.toInt32)), .val (.int (0 : Int32)), .unset, .unset] [(.long (g_a1 0))])) _
      refine XS.lstore X0.here hx rfl (hb hby d1_20) rfl (l' := #[.val (.ref a1), .val (.int (-1 : Int32)), .val (.ref a1), .val (.int (n_a1.toInt32)), .val (.int (0 : Int32)), .val (.long (g_a1 0)), .second]) rfl ?_
      show Steps p.tables e below (s₁.setTop (mkF m 22 #[.val (.ref a1), .val (.int (-1 : Int32)), .val (.ref a1), .val (.int (n_a1.toInt32)), .val (.int (0 : Int32)), .val (.long (g_a1 0)), .second] [])) _
      refine XS.iloadN X0.here hx rfl (hb hby d1_22) rfl ?_
      show Steps p.tables e below (s₁.setTop (mkF m 23 #[.val (.ref a1), .val (.int (-1 : Int32)), .val (.ref a1), .val (.int (n_a1.toInt32)), .val (.int (0 : Int32)), .val (.long (g_a1 0)), .second] [(.int (-1 : Int32))])) _
      refine XS.lload X0.here hx rfl (hb hby d1_23) rfl ?_
      show Steps p.tables e below (s₁.setTop (mkF m 25 #[.val (.ref a1), .val (.int (-1 : Int32)), .val (.ref a1), .val (.int (n_a1.toInt32)), .val (.int (0 : Int32)), .val (.long (g_a1 0)), .second] [(.long (g_a1 0)), (.int (-1 : Int32))])) _
      exact k
    refine OwnG.st sg4 ?_
    obtain ⟨_, _, ⟨T5, L5, k5, n5⟩, -, X5, ⟨Lc5, hQ5, l5, y5, z5⟩, st5⟩ := Jvm.LawKit.callS X0 hx (y := (⟨"com/example/weiche/weiche/graphgame/Token", "firings", "(J)I"⟩ : MethodName)) hown (mvT hZ (hw _ (List.mem_of_getElem? (i := 6) rfl))) (mvT hZ (hw _ (List.mem_of_getElem? (i := 7) rfl))) (mvT hZ (hw _ (List.mem_of_getElem? (i := 8) rfl))) (mvT hZ (hw _ (List.mem_of_getElem? (i := 9) rfl))) (by decide) (backOf (W := 1) (rm2 l Z a0 hw [] (g_a1 0)  h0 n0 Z0 ) hZ (hw _ (List.mem_of_getElem? (i := 9) rfl)) (hw _ (List.mem_of_getElem? (i := 8) rfl)) (by decide) (by decide)) (g := (mkF m 25 #[.val (.ref a1), .val (.int (-1 : Int32)), .val (.ref a1), .val (.int (n_a1.toInt32)), .val (.int (0 : Int32)), .val (.long (g_a1 0)), .second] [(.long (g_a1 0)), (.int (-1 : Int32))])) rfl (by rw [hml]; rfl) (argsL := [(.long (g_a1 0))]) (rest := [(.int (-1 : Int32))]) (lenOf pd_1_0 rfl) rfl (by show 2 * 0 + _ ≤ _; exact Nat.le_of_eq rfl) (hb hby d1_25) (fun _ _ => ⟨rfl, e0, (by decide : 0 + 0 ≤ _), (by decide : 0 + 0 ≤ _)⟩)
    dsimp only [Pt.U, Pt.locs, Pt.cells, Pt.slots] at X5 l5 y5 z5 st5 hQ5
    subst l5 y5 z5
    obtain ⟨rfl, N5q, e5⟩ := hQ5
    have N5 := Fr.app N0 N5q
    refine OwnG.st (fun t k => st5 t k) ?_
    show OwnG p e below s _ _ _ T5 (mkF m 28 #[.val (.ref a1), .val (.int (-1 : Int32)), .val (.ref a1), .val (.int (n_a1.toInt32)), .val (.int (0 : Int32)), .val (.long (g_a1 0)), .second] [(.int (F2 (g_a1 0))), (.int (-1 : Int32))])
    have sg6 : ∀ t, Steps p.tables e below (T5.setTop (mkF m 10 #[.val (.ref a1), .val (.int ((-1 : Int32) &&& (F2 (g_a1 0)))), .val (.ref a1), .val (.int (n_a1.toInt32)), .val (.int (1 : Int32)), .val (.long (g_a1 0)), .second] [])) t → Steps p.tables e below (T5.setTop (mkF m 28 #[.val (.ref a1), .val (.int (-1 : Int32)), .val (.ref a1), .val (.int (n_a1.toInt32)), .val (.int (0 : Int32)), .val (.long (g_a1 0)), .second] [(.int (F2 (g_a1 0))), (.int (-1 : Int32))])) t := by
      intro t k
      refine XS.iand X5.here hx rfl (hb hby d1_28) rfl ?_
      show Steps p.tables e below (T5.setTop (mkF m 29 #[.val (.ref a1), .val (.int (-1 : Int32)), .val (.ref a1), .val (.int (n_a1.toInt32)), .val (.int (0 : Int32)), .val (.long (g_a1 0)), .second] [(.int ((-1 : Int32) &&& (F2 (g_a1 0))))])) _
      refine XS.istoreN X5.here hx rfl (hb hby d1_29) rfl (l' := #[.val (.ref a1), .val (.int ((-1 : Int32) &&& (F2 (g_a1 0)))), .val (.ref a1), .val (.int (n_a1.toInt32)), .val (.int (0 : Int32)), .val (.long (g_a1 0)), .second]) rfl ?_
      show Steps p.tables e below (T5.setTop (mkF m 30 #[.val (.ref a1), .val (.int ((-1 : Int32) &&& (F2 (g_a1 0)))), .val (.ref a1), .val (.int (n_a1.toInt32)), .val (.int (0 : Int32)), .val (.long (g_a1 0)), .second] [])) _
      refine XS.iinc X5.here hx rfl (hb hby d1_30) rfl (l' := #[.val (.ref a1), .val (.int ((-1 : Int32) &&& (F2 (g_a1 0)))), .val (.ref a1), .val (.int (n_a1.toInt32)), .val (.int (1 : Int32)), .val (.long (g_a1 0)), .second]) rfl ?_
      show Steps p.tables e below (T5.setTop (mkF m 33 #[.val (.ref a1), .val (.int ((-1 : Int32) &&& (F2 (g_a1 0)))), .val (.ref a1), .val (.int (n_a1.toInt32)), .val (.int (1 : Int32)), .val (.long (g_a1 0)), .second] [])) _
      refine XS.goto X5.here hx rfl (pc0 := 33) (pc' := 10) rfl (hb hby d1_33) (by decide) (by decide) ?_
      show Steps p.tables e below (T5.setTop (mkF m 10 #[.val (.ref a1), .val (.int ((-1 : Int32) &&& (F2 (g_a1 0)))), .val (.ref a1), .val (.int (n_a1.toInt32)), .val (.int (1 : Int32)), .val (.long (g_a1 0)), .second] [])) _
      exact k
    refine OwnG.st sg6 ?_
    have hlt := Int32.lt_iff_toInt_lt.mp hc13_3
    rw [own_n32 _ hs0] at hlt
    have lp7 : ∀ (k : Nat) (T : State) (lc : List Loc) (ac : Int32) (i4 : Int32) (w5 : Int64) (X : Stand p l e ({ frames := 1, cells := 0, slots := 0, locals := 14 } : Room) s m #[(.ref a1)] below meth c T lc 0 0) (eT : T.heap = h0) (N : Fr n0 lc) (hI : ac = own_fold g_a1 i4.toInt.toNat) (hi0 : 0 ≤ i4.toInt) (hi1 : i4.toInt ≤ n_a1), ((n_a1 : Int) - i4.toInt).toNat = k → OwnG p e below s (Q1 Z a1 n_a1 g_a1 h0 n0) ({ frames := 1, cells := 0, slots := 0, locals := 14 } : Room).cells ({ frames := 1, cells := 0, slots := 0, locals := 14 } : Room).slots T (mkF m 10 #[.val (.ref a1), .val (.int ac), .val (.ref a1), .val (.int (n_a1.toInt32)), .val (.int i4), .val (.long w5), .second] []) := by
      intro k
      induction k using Nat.strongRecOn with
      | _ k ih =>
        intro T lc ac i4 w5 X eT N hI hi0 hi1 hk
        have sg8 : ∀ t, Steps p.tables e below (T.setTop (mkF m 13 #[.val (.ref a1), .val (.int ac), .val (.ref a1), .val (.int (n_a1.toInt32)), .val (.int i4), .val (.long w5), .second] [(.int (n_a1.toInt32)), (.int i4)])) t → Steps p.tables e below (T.setTop (mkF m 10 #[.val (.ref a1), .val (.int ac), .val (.ref a1), .val (.int (n_a1.toInt32)), .val (.int i4), .val (.long w5), .second] [])) t := by
          intro t k
          refine XS.iload X.here hx rfl (hb hby d1_10) rfl ?_
          show Steps p.tables e below (T.setTop (mkF m 12 #[.val (.ref a1), .val (.int ac), .val (.ref a1), .val (.int (n_a1.toInt32)), .val (.int i4), .val (.long w5), .second] [(.int i4)])) _
          refine XS.iloadN X.here hx rfl (hb hby d1_12) rfl ?_
          show Steps p.tables e below (T.setTop (mkF m 13 #[.val (.ref a1), .val (.int ac), .val (.ref a1), .val (.int (n_a1.toInt32)), .val (.int i4), .val (.long w5), .second] [(.int (n_a1.toInt32)), (.int i4)])) _
          exact k
        refine OwnG.st sg8 ?_
        by_cases hc13_9 : i4 < (n_a1.toInt32)
        · have sg10 : ∀ t, Steps p.tables e below (T.setTop (mkF m 25 #[.val (.ref a1), .val (.int ac), .val (.ref a1), .val (.int (n_a1.toInt32)), .val (.int i4), .val (.long (g_a1 i4.toInt.toNat)), .second] [(.long (g_a1 i4.toInt.toNat)), (.int ac)])) t → Steps p.tables e below (T.setTop (mkF m 13 #[.val (.ref a1), .val (.int ac), .val (.ref a1), .val (.int (n_a1.toInt32)), .val (.int i4), .val (.long w5), .second] [(.int (n_a1.toInt32)), (.int i4)])) t := by
            intro t k
            refine XS.icmpNo X.here hx rfl (hb hby d1_13) rfl (tlt hc13_9).2.1 ?_
            show Steps p.tables e below (T.setTop (mkF m 16 #[.val (.ref a1), .val (.int ac), .val (.ref a1), .val (.int (n_a1.toInt32)), .val (.int i4), .val (.long w5), .second] [])) _
            refine XS.aloadN X.here hx rfl (hb hby d1_16) rfl rfl ?_
            show Steps p.tables e below (T.setTop (mkF m 17 #[.val (.ref a1), .val (.int ac), .val (.ref a1), .val (.int (n_a1.toInt32)), .val (.int i4), .val (.long w5), .second] [(.ref a1)])) _
            refine XS.iload X.here hx rfl (hb hby d1_17) rfl ?_
            show Steps p.tables e below (T.setTop (mkF m 19 #[.val (.ref a1), .val (.int ac), .val (.ref a1), .val (.int (n_a1.toInt32)), .val (.int i4), .val (.long w5), .second] [(.int i4), (.ref a1)])) _
            refine own_ldJ A_a1 X hx hZ eT hi0 (by have q := Int32.lt_iff_toInt_lt.mp hc13_9; rw [own_n32 _ hs0] at q; exact q) (gf := (mkF m 19 #[.val (.ref a1), .val (.int ac), .val (.ref a1), .val (.int (n_a1.toInt32)), .val (.int i4), .val (.long w5), .second] [(.int i4), (.ref a1)])) rfl rfl (hb hby d1_19) _ ?_
            show Steps p.tables e below (T.setTop (mkF m 20 #[.val (.ref a1), .val (.int ac), .val (.ref a1), .val (.int (n_a1.toInt32)), .val (.int i4), .val (.long w5), .second] [(.long (g_a1 i4.toInt.toNat))])) _
            refine XS.lstore X.here hx rfl (hb hby d1_20) rfl (l' := #[.val (.ref a1), .val (.int ac), .val (.ref a1), .val (.int (n_a1.toInt32)), .val (.int i4), .val (.long (g_a1 i4.toInt.toNat)), .second]) rfl ?_
            show Steps p.tables e below (T.setTop (mkF m 22 #[.val (.ref a1), .val (.int ac), .val (.ref a1), .val (.int (n_a1.toInt32)), .val (.int i4), .val (.long (g_a1 i4.toInt.toNat)), .second] [])) _
            refine XS.iloadN X.here hx rfl (hb hby d1_22) rfl ?_
            show Steps p.tables e below (T.setTop (mkF m 23 #[.val (.ref a1), .val (.int ac), .val (.ref a1), .val (.int (n_a1.toInt32)), .val (.int i4), .val (.long (g_a1 i4.toInt.toNat)), .second] [(.int ac)])) _
            refine XS.lload X.here hx rfl (hb hby d1_23) rfl ?_
            show Steps p.tables e below (T.setTop (mkF m 25 #[.val (.ref a1), .val (.int ac), .val (.ref a1), .val (.int (n_a1.toInt32)), .val (.int i4), .val (.long (g_a1 i4.toInt.toNat)), .second] [(.long (g_a1 i4.toInt.toNat)), (.int ac)])) _
            exact k
          refine OwnG.st sg10 ?_
          obtain ⟨_, _, ⟨T11, L11, k11, n11⟩, -, X11, ⟨Lc11, hQ11, l11, y11, z11⟩, st11⟩ := Jvm.LawKit.callS X hx (y := (⟨"com/example/weiche/weiche/graphgame/Token", "firings", "(J)I"⟩ : MethodName)) hown (mvT hZ (hw _ (List.mem_of_getElem? (i := 6) rfl))) (mvT hZ (hw _ (List.mem_of_getElem? (i := 7) rfl))) (mvT hZ (hw _ (List.mem_of_getElem? (i := 8) rfl))) (mvT hZ (hw _ (List.mem_of_getElem? (i := 9) rfl))) (by decide) (backOf (W := 1) (rm2 l Z a0 hw [] (g_a1 i4.toInt.toNat)  h0 n0 Z0 ) hZ (hw _ (List.mem_of_getElem? (i := 9) rfl)) (hw _ (List.mem_of_getElem? (i := 8) rfl)) (by decide) (by decide)) (g := (mkF m 25 #[.val (.ref a1), .val (.int ac), .val (.ref a1), .val (.int (n_a1.toInt32)), .val (.int i4), .val (.long (g_a1 i4.toInt.toNat)), .second] [(.long (g_a1 i4.toInt.toNat)), (.int ac)])) rfl (by rw [hml]; rfl) (argsL := [(.long (g_a1 i4.toInt.toNat))]) (rest := [(.int ac)]) (lenOf pd_1_0 rfl) rfl (by show 2 * 0 + _ ≤ _; exact Nat.le_of_eq rfl) (hb hby d1_25) (fun _ _ => ⟨rfl, eT, (by decide : 0 + 0 ≤ _), (by decide : 0 + 0 ≤ _)⟩)
          dsimp only [Pt.U, Pt.locs, Pt.cells, Pt.slots] at X11 l11 y11 z11 st11 hQ11
          subst l11 y11 z11
          obtain ⟨rfl, N11q, e11⟩ := hQ11
          have N11 := Fr.app N N11q
          refine OwnG.st (fun t k => st11 t k) ?_
          show OwnG p e below s _ _ _ T11 (mkF m 28 #[.val (.ref a1), .val (.int ac), .val (.ref a1), .val (.int (n_a1.toInt32)), .val (.int i4), .val (.long (g_a1 i4.toInt.toNat)), .second] [(.int (F2 (g_a1 i4.toInt.toNat))), (.int ac)])
          have sg12 : ∀ t, Steps p.tables e below (T11.setTop (mkF m 10 #[.val (.ref a1), .val (.int (ac &&& (F2 (g_a1 i4.toInt.toNat)))), .val (.ref a1), .val (.int (n_a1.toInt32)), .val (.int (i4 + (1 : Int32))), .val (.long (g_a1 i4.toInt.toNat)), .second] [])) t → Steps p.tables e below (T11.setTop (mkF m 28 #[.val (.ref a1), .val (.int ac), .val (.ref a1), .val (.int (n_a1.toInt32)), .val (.int i4), .val (.long (g_a1 i4.toInt.toNat)), .second] [(.int (F2 (g_a1 i4.toInt.toNat))), (.int ac)])) t := by
            intro t k
            refine XS.iand X11.here hx rfl (hb hby d1_28) rfl ?_
            show Steps p.tables e below (T11.setTop (mkF m 29 #[.val (.ref a1), .val (.int ac), .val (.ref a1), .val (.int (n_a1.toInt32)), .val (.int i4), .val (.long (g_a1 i4.toInt.toNat)), .second] [(.int (ac &&& (F2 (g_a1 i4.toInt.toNat))))])) _
            refine XS.istoreN X11.here hx rfl (hb hby d1_29) rfl (l' := #[.val (.ref a1), .val (.int (ac &&& (F2 (g_a1 i4.toInt.toNat)))), .val (.ref a1), .val (.int (n_a1.toInt32)), .val (.int i4), .val (.long (g_a1 i4.toInt.toNat)), .second]) rfl ?_
            show Steps p.tables e below (T11.setTop (mkF m 30 #[.val (.ref a1), .val (.int (ac &&& (F2 (g_a1 i4.toInt.toNat)))), .val (.ref a1), .val (.int (n_a1.toInt32)), .val (.int i4), .val (.long (g_a1 i4.toInt.toNat)), .second] [])) _
            refine XS.iinc X11.here hx rfl (hb hby d1_30) rfl (l' := #[.val (.ref a1), .val (.int (ac &&& (F2 (g_a1 i4.toInt.toNat)))), .val (.ref a1), .val (.int (n_a1.toInt32)), .val (.int (i4 + (1 : Int32))), .val (.long (g_a1 i4.toInt.toNat)), .second]) rfl ?_
            show Steps p.tables e below (T11.setTop (mkF m 33 #[.val (.ref a1), .val (.int (ac &&& (F2 (g_a1 i4.toInt.toNat)))), .val (.ref a1), .val (.int (n_a1.toInt32)), .val (.int (i4 + (1 : Int32))), .val (.long (g_a1 i4.toInt.toNat)), .second] [])) _
            refine XS.goto X11.here hx rfl (pc0 := 33) (pc' := 10) rfl (hb hby d1_33) (by decide) (by decide) ?_
            show Steps p.tables e below (T11.setTop (mkF m 10 #[.val (.ref a1), .val (.int (ac &&& (F2 (g_a1 i4.toInt.toNat)))), .val (.ref a1), .val (.int (n_a1.toInt32)), .val (.int (i4 + (1 : Int32))), .val (.long (g_a1 i4.toInt.toNat)), .second] [])) _
            exact k
          refine OwnG.st sg12 ?_
          have hlt := Int32.lt_iff_toInt_lt.mp hc13_9
          rw [own_n32 _ hs0] at hlt
          have a1 := own_ip i4 hi0 (by omega)
          exact ih _ (by rw [← hk, a1.1]; omega) T11 _ _ _ _ X11 e11 N11 (by rw [a1.2, own_fs, hI]) (by rw [a1.1]; omega) (by rw [a1.1]; omega) rfl
        · have sg13 : ∀ t, Steps p.tables e below (T.setTop (mkF m 38 #[.val (.ref a1), .val (.int ac), .val (.ref a1), .val (.int (n_a1.toInt32)), .val (.int i4), .val (.long w5), .second] [(.int (n_a1.toInt32))])) t → Steps p.tables e below (T.setTop (mkF m 13 #[.val (.ref a1), .val (.int ac), .val (.ref a1), .val (.int (n_a1.toInt32)), .val (.int i4), .val (.long w5), .second] [(.int (n_a1.toInt32)), (.int i4)])) t := by
            intro t k
            refine XS.icmpYes X.here hx rfl (pc0 := 13) (pc' := 36) rfl (hb hby d1_13) rfl (flt hc13_9).2.1 (by decide) (by decide) ?_
            show Steps p.tables e below (T.setTop (mkF m 36 #[.val (.ref a1), .val (.int ac), .val (.ref a1), .val (.int (n_a1.toInt32)), .val (.int i4), .val (.long w5), .second] [])) _
            refine XS.aloadN X.here hx rfl (hb hby d1_36) rfl rfl ?_
            show Steps p.tables e below (T.setTop (mkF m 37 #[.val (.ref a1), .val (.int ac), .val (.ref a1), .val (.int (n_a1.toInt32)), .val (.int i4), .val (.long w5), .second] [(.ref a1)])) _
            refine own_len A_a1 X hx hZ eT (gf := (mkF m 37 #[.val (.ref a1), .val (.int ac), .val (.ref a1), .val (.int (n_a1.toInt32)), .val (.int i4), .val (.long w5), .second] [(.ref a1)])) rfl rfl (hb hby d1_37) _ ?_
            show Steps p.tables e below (T.setTop (mkF m 38 #[.val (.ref a1), .val (.int ac), .val (.ref a1), .val (.int (n_a1.toInt32)), .val (.int i4), .val (.long w5), .second] [(.int (n_a1.toInt32))])) _
            exact k
          refine OwnG.st sg13 ?_
          by_cases hc38_14 : (n_a1.toInt32) = (0 : Int32)
          · have sg15 : ∀ t, Steps p.tables e below (T.setTop (mkF m 46 #[.val (.ref a1), .val (.int ac), .val (.ref a1), .val (.int (n_a1.toInt32)), .val (.int i4), .val (.long w5), .second] [(.int (0 : Int32))])) t → Steps p.tables e below (T.setTop (mkF m 38 #[.val (.ref a1), .val (.int ac), .val (.ref a1), .val (.int (n_a1.toInt32)), .val (.int i4), .val (.long w5), .second] [(.int (n_a1.toInt32))])) t := by
              intro t k
              refine XS.ifNo X.here hx rfl (hb hby d1_38) rfl ((if0 _ _).trans (teq hc38_14).2) ?_
              show Steps p.tables e below (T.setTop (mkF m 41 #[.val (.ref a1), .val (.int ac), .val (.ref a1), .val (.int (n_a1.toInt32)), .val (.int i4), .val (.long w5), .second] [])) _
              refine XS.iconst X.here hx rfl (hb hby d1_41) ?_
              show Steps p.tables e below (T.setTop (mkF m 42 #[.val (.ref a1), .val (.int ac), .val (.ref a1), .val (.int (n_a1.toInt32)), .val (.int i4), .val (.long w5), .second] [(.int (0 : Int32))])) _
              refine XS.goto X.here hx rfl (pc0 := 42) (pc' := 46) rfl (hb hby d1_42) (by decide) (by decide) ?_
              show Steps p.tables e below (T.setTop (mkF m 46 #[.val (.ref a1), .val (.int ac), .val (.ref a1), .val (.int (n_a1.toInt32)), .val (.int i4), .val (.long w5), .second] [(.int (0 : Int32))])) _
              exact k
            refine OwnG.st sg15 ?_
            have hv : (0 : Int32) = F1 n_a1 g_a1 := by unfold F1; rw [if_pos hc38_14]
            exact OwnG.retI X hx Bd.returns (BodyLoose.notSynchronized Bd) (hb hby d1_46) ⟨congrArg (fun w => some (Value.int w)) hv, N, eT⟩ (by decide) (by decide)
          · have sg16 : ∀ t, Steps p.tables e below (T.setTop (mkF m 46 #[.val (.ref a1), .val (.int ac), .val (.ref a1), .val (.int (n_a1.toInt32)), .val (.int i4), .val (.long w5), .second] [(.int ac)])) t → Steps p.tables e below (T.setTop (mkF m 38 #[.val (.ref a1), .val (.int ac), .val (.ref a1), .val (.int (n_a1.toInt32)), .val (.int i4), .val (.long w5), .second] [(.int (n_a1.toInt32))])) t := by
              intro t k
              refine XS.ifYes X.here hx rfl (pc0 := 38) (pc' := 45) rfl (hb hby d1_38) rfl ((if0 _ _).trans (feq hc38_14).2) (by decide) (by decide) ?_
              show Steps p.tables e below (T.setTop (mkF m 45 #[.val (.ref a1), .val (.int ac), .val (.ref a1), .val (.int (n_a1.toInt32)), .val (.int i4), .val (.long w5), .second] [])) _
              refine XS.iloadN X.here hx rfl (hb hby d1_45) rfl ?_
              show Steps p.tables e below (T.setTop (mkF m 46 #[.val (.ref a1), .val (.int ac), .val (.ref a1), .val (.int (n_a1.toInt32)), .val (.int i4), .val (.long w5), .second] [(.int ac)])) _
              exact k
            refine OwnG.st sg16 ?_
            have hv : ac = F1 n_a1 g_a1 := by unfold F1; rw [if_neg hc38_14, hI]; have q := hc13_9; rw [Int32.lt_iff_toInt_lt, own_n32 _ hs0] at q; rw [show n_a1 = i4.toInt.toNat by omega]
            exact OwnG.retI X hx Bd.returns (BodyLoose.notSynchronized Bd) (hb hby d1_46) ⟨congrArg (fun w => some (Value.int w)) hv, N, eT⟩ (by decide) (by decide)
    exact lp7 _ T5 _  _ _ _ X5 e5 N5 rfl (by decide) (by have q : (0 : Int) < n_a1 := hlt; show (1 : Int) ≤ n_a1; omega)  rfl
  · have sg17 : ∀ t, Steps p.tables e below (s₁.setTop (mkF m 38 #[.val (.ref a1), .val (.int (-1 : Int32)), .val (.ref a1), .val (.int (n_a1.toInt32)), .val (.int (0 : Int32)), .unset, .unset] [(.int (n_a1.toInt32))])) t → Steps p.tables e below (s₁.setTop (mkF m 13 #[.val (.ref a1), .val (.int (-1 : Int32)), .val (.ref a1), .val (.int (n_a1.toInt32)), .val (.int (0 : Int32)), .unset, .unset] [(.int (n_a1.toInt32)), (.int (0 : Int32))])) t := by
      intro t k
      refine XS.icmpYes X0.here hx rfl (pc0 := 13) (pc' := 36) rfl (hb hby d1_13) rfl (flt hc13_3).2.1 (by decide) (by decide) ?_
      show Steps p.tables e below (s₁.setTop (mkF m 36 #[.val (.ref a1), .val (.int (-1 : Int32)), .val (.ref a1), .val (.int (n_a1.toInt32)), .val (.int (0 : Int32)), .unset, .unset] [])) _
      refine XS.aloadN X0.here hx rfl (hb hby d1_36) rfl rfl ?_
      show Steps p.tables e below (s₁.setTop (mkF m 37 #[.val (.ref a1), .val (.int (-1 : Int32)), .val (.ref a1), .val (.int (n_a1.toInt32)), .val (.int (0 : Int32)), .unset, .unset] [(.ref a1)])) _
      refine own_len A_a1 X0 hx hZ e0 (gf := (mkF m 37 #[.val (.ref a1), .val (.int (-1 : Int32)), .val (.ref a1), .val (.int (n_a1.toInt32)), .val (.int (0 : Int32)), .unset, .unset] [(.ref a1)])) rfl rfl (hb hby d1_37) _ ?_
      show Steps p.tables e below (s₁.setTop (mkF m 38 #[.val (.ref a1), .val (.int (-1 : Int32)), .val (.ref a1), .val (.int (n_a1.toInt32)), .val (.int (0 : Int32)), .unset, .unset] [(.int (n_a1.toInt32))])) _
      exact k
    refine OwnG.st sg17 ?_
    by_cases hc38_18 : (n_a1.toInt32) = (0 : Int32)
    · have sg19 : ∀ t, Steps p.tables e below (s₁.setTop (mkF m 46 #[.val (.ref a1), .val (.int (-1 : Int32)), .val (.ref a1), .val (.int (n_a1.toInt32)), .val (.int (0 : Int32)), .unset, .unset] [(.int (0 : Int32))])) t → Steps p.tables e below (s₁.setTop (mkF m 38 #[.val (.ref a1), .val (.int (-1 : Int32)), .val (.ref a1), .val (.int (n_a1.toInt32)), .val (.int (0 : Int32)), .unset, .unset] [(.int (n_a1.toInt32))])) t := by
        intro t k
        refine XS.ifNo X0.here hx rfl (hb hby d1_38) rfl ((if0 _ _).trans (teq hc38_18).2) ?_
        show Steps p.tables e below (s₁.setTop (mkF m 41 #[.val (.ref a1), .val (.int (-1 : Int32)), .val (.ref a1), .val (.int (n_a1.toInt32)), .val (.int (0 : Int32)), .unset, .unset] [])) _
        refine XS.iconst X0.here hx rfl (hb hby d1_41) ?_
        show Steps p.tables e below (s₁.setTop (mkF m 42 #[.val (.ref a1), .val (.int (-1 : Int32)), .val (.ref a1), .val (.int (n_a1.toInt32)), .val (.int (0 : Int32)), .unset, .unset] [(.int (0 : Int32))])) _
        refine XS.goto X0.here hx rfl (pc0 := 42) (pc' := 46) rfl (hb hby d1_42) (by decide) (by decide) ?_
        show Steps p.tables e below (s₁.setTop (mkF m 46 #[.val (.ref a1), .val (.int (-1 : Int32)), .val (.ref a1), .val (.int (n_a1.toInt32)), .val (.int (0 : Int32)), .unset, .unset] [(.int (0 : Int32))])) _
        exact k
      refine OwnG.st sg19 ?_
      have hv : (0 : Int32) = F1 n_a1 g_a1 := by unfold F1; rw [if_pos hc38_18]
      exact OwnG.retI X0 hx Bd.returns (BodyLoose.notSynchronized Bd) (hb hby d1_46) ⟨congrArg (fun w => some (Value.int w)) hv, N0, e0⟩ (by decide) (by decide)
    · have sg20 : ∀ t, Steps p.tables e below (s₁.setTop (mkF m 46 #[.val (.ref a1), .val (.int (-1 : Int32)), .val (.ref a1), .val (.int (n_a1.toInt32)), .val (.int (0 : Int32)), .unset, .unset] [(.int (-1 : Int32))])) t → Steps p.tables e below (s₁.setTop (mkF m 38 #[.val (.ref a1), .val (.int (-1 : Int32)), .val (.ref a1), .val (.int (n_a1.toInt32)), .val (.int (0 : Int32)), .unset, .unset] [(.int (n_a1.toInt32))])) t := by
        intro t k
        refine XS.ifYes X0.here hx rfl (pc0 := 38) (pc' := 45) rfl (hb hby d1_38) rfl ((if0 _ _).trans (feq hc38_18).2) (by decide) (by decide) ?_
        show Steps p.tables e below (s₁.setTop (mkF m 45 #[.val (.ref a1), .val (.int (-1 : Int32)), .val (.ref a1), .val (.int (n_a1.toInt32)), .val (.int (0 : Int32)), .unset, .unset] [])) _
        refine XS.iloadN X0.here hx rfl (hb hby d1_45) rfl ?_
        show Steps p.tables e below (s₁.setTop (mkF m 46 #[.val (.ref a1), .val (.int (-1 : Int32)), .val (.ref a1), .val (.int (n_a1.toInt32)), .val (.int (0 : Int32)), .unset, .unset] [(.int (-1 : Int32))])) _
        exact k
      refine OwnG.st sg20 ?_
      have hv : (-1 : Int32) = F1 n_a1 g_a1 := by unfold F1; rw [if_neg hc38_18]; have q := hc13_3; rw [Int32.lt_iff_toInt_lt, own_n32 _ hs0, show (0 : Int32).toInt = 0 from rfl] at q; rw [show n_a1 = 0 by omega]; rfl
      exact OwnG.retI X0 hx Bd.returns (BodyLoose.notSynchronized Bd) (hb hby d1_46) ⟨congrArg (fun w => some (Value.int w)) hv, N0, e0⟩ (by decide) (by decide)
theorem own_3 (x : Int32) (h0 : ¬ (x &&& (3 : Int32)) = 0) (h1 : ¬ (x &&& (3 : Int32)) = 1) (h2 : ¬ (x &&& (3 : Int32)) = 2) : (x &&& (3 : Int32)) = 3 := by
  have h := c_mask x 3 2 (by decide) (by decide)
  rw [← Int32.toInt_inj] at h0 h1 h2 ⊢
  have e0 : (0 : Int32).toInt = 0 := rfl
  have e1 : (1 : Int32).toInt = 1 := rfl
  have e2 : (2 : Int32).toInt = 2 := rfl
  have e3 : (3 : Int32).toInt = 3 := rfl
  omega
theorem own_dist (a b : Int64) : F2 (a &&& b) = F2 a &&& F2 b := by
  unfold F2
  apply Int32.toBitVec_inj.mp
  rw [Int32.toBitVec_and, Int64.toBitVec_toInt32, Int64.toBitVec_toInt32, Int64.toBitVec_toInt32, Int64.toBitVec_and, Int64.toBitVec_and, Int64.toBitVec_and, own_lushr _ 32 32 (by decide), own_lushr _ 32 32 (by decide), own_lushr _ 32 32 (by decide), Int64.toBitVec_and]
  apply BitVec.eq_of_getLsbD_eq
  intro i hi
  simp only [BitVec.getLsbD_and, BitVec.getLsbD_signExtend, BitVec.getLsbD_ushiftRight, show i < 64 by omega, hi, decide_true, Bool.true_and, if_true]
  cases a.toBitVec.getLsbD (32 + i) <;> cases b.toBitVec.getLsbD (32 + i) <;> cases (4095 : Int64).toBitVec.getLsbD i <;> rfl
theorem own_m1 (x : Int32) : (-1 : Int32) &&& x = x := by
  apply Int32.toBitVec_inj.mp
  show BitVec.allOnes 32 &&& x.toBitVec = x.toBitVec
  rw [BitVec.allOnes_and]
theorem own_g1 (g : Nat → Int64) (a : Int64) (h0 : g 0 = a) : F1 1 g = F2 a := by
  show own_fold g 0 &&& F2 (g 0) = _
  rw [h0]; exact own_m1 _
theorem own_g2 (g : Nat → Int64) (a b : Int64) (h0 : g 0 = a) (h1 : g 1 = b) : F1 2 g = F2 (a &&& b) := by
  show (own_fold g 0 &&& F2 (g 0)) &&& F2 (g 1) = _
  rw [h0, h1, own_dist]; exact congrArg (· &&& F2 b) (own_m1 _)
theorem own_g3 (g : Nat → Int64) (a b c : Int64) (h0 : g 0 = a) (h1 : g 1 = b) (h2 : g 2 = c) : F1 3 g = F2 ((a &&& b) &&& c) := by
  show ((own_fold g 0 &&& F2 (g 0)) &&& F2 (g 1)) &&& F2 (g 2) = _
  rw [h0, h1, h2, own_dist, own_dist]; exact congrArg (· &&& F2 b &&& F2 c) (own_m1 _)
theorem pn_0 : plainName "com/example/weiche/weiche/explicit/ConcurrencyTogetherPinLaw" = true := by first | (simp [plainName, overriddenIn]; done) | decide +kernel
theorem pd_0_0 : parseMethodDescriptor "([J)I" = some ⟨[(.array .long)], some .int⟩ := by decide +kernel
theorem ef_0 (m : MethodId) (p1 : Int32) (q2 : Int64) (q3 : Int64) (q4 : Int64) : entryFrame m #[(.int p1), (.long q2), (.long q3), (.long q4)] maxLocals = mkF m 0 #[.val (.int p1), .val (.long q2), .second, .val (.long q3), .second, .val (.long q4), .second, .unset, .unset, .unset, .unset, .unset] [] := by first | (simp [entryFrame, mkF, argsToLocals, Value.category, maxLocals]; done) | rfl
def Q0 (Z : State) (p1 : Int32) (q2 : Int64) (q3 : Int64) (q4 : Int64) (h0 : Heap) (n0 : Nat) (v : Option Value) (h : Heap) (L : List Loc) : Prop := v = some (.int 1) ∧ Fr n0 L
set_option maxRecDepth 65536 in
set_option maxHeartbeats 40000000 in
theorem rm0 (l : Launch) (Z : State) (a0 : Array Value) (hw : ∀ d ∈ tables_1, d.before a0 Z = true) (ws : List Jvm.Cond) (p1 : Int32) (q2 : Int64) (q3 : Int64) (q4 : Int64)  (h0 : Heap) (n0 : Nat) (Z0 : n0 ≤ h0.size)  :
    MetFree l x (head1 (Jvm.Cond.code x code maxLocals ret :: ws) room_1) (fun a U => a = #[(.int p1), (.long q2), (.long q3), (.long q4)] ∧ Z.Warmed39 U.vm ∧ U.heap = h0) (fun _ _ _ _ _ => True) (fun _ U o U' => ∃ v L, o = .returned v ∧ Q0 Z p1 q2 q3 q4 h0 n0 v U'.heap L ∧ FrameEnd U o U' L room_1.cells room_1.slots) := by
  refine MetFree.of_bodySF (plainFor_of_name pn_0) hisR ?_
  intro p e s m args below meth c s₁ Bd hml0 hP hK
  obtain ⟨rfl, hZ, hh⟩ := hP
  have hx := Bd.exec
  have hby := Bd.bytes
  have hml : c.maxLocals = 12 := hml0
  have hown : s.vm.findClass "com/example/weiche/weiche/explicit/ConcurrencyTogetherPinLaw" = some m.cls := findClass_of_methodNamed Bd.named
  have hnm := (name_of_methodNamed Bd.named Bd.method).1
  have X0 : Stand p l e room_1 s m #[(.int p1), (.long q2), (.long q3), (.long q4)] below meth c s₁ [] 0 0 := Stand.of_body Bd
  have e0 : s₁.heap = h0 := by rw [← hh, Bd.state]; rfl
  have N0 := Fr.nil n0
  suffices hG : OwnG p e below s (Q0 Z p1 q2 q3 q4 h0 n0) room_1.cells room_1.slots s₁ (mkF m 0 #[.val (.int p1), .val (.long q2), .second, .val (.long q3), .second, .val (.long q4), .second, .unset, .unset, .unset, .unset, .unset] []) by
    obtain ⟨s2, o2, g1, g2⟩ := hG
    exact ⟨s2, o2, castTop (ef_0 m p1 q2 q3 q4) g1, g2⟩
  have sg1 : ∀ t, Steps p.tables e below (s₁.setTop (mkF m 7 #[.val (.int p1), .val (.long q2), .second, .val (.long q3), .second, .val (.long q4), .second, .val (.int (p1 &&& (3 : Int32))), .unset, .unset, .unset, .unset] [(.int (p1 &&& (3 : Int32)))])) t → Steps p.tables e below (s₁.setTop (mkF m 0 #[.val (.int p1), .val (.long q2), .second, .val (.long q3), .second, .val (.long q4), .second, .unset, .unset, .unset, .unset, .unset] [])) t := by
    intro t k
    refine XS.iloadN X0.here hx rfl (hb hby at_0) rfl ?_
    show Steps p.tables e below (s₁.setTop (mkF m 1 #[.val (.int p1), .val (.long q2), .second, .val (.long q3), .second, .val (.long q4), .second, .unset, .unset, .unset, .unset, .unset] [(.int p1)])) _
    refine XS.iconst X0.here hx rfl (hb hby at_1) ?_
    show Steps p.tables e below (s₁.setTop (mkF m 2 #[.val (.int p1), .val (.long q2), .second, .val (.long q3), .second, .val (.long q4), .second, .unset, .unset, .unset, .unset, .unset] [(.int (3 : Int32)), (.int p1)])) _
    refine XS.iand X0.here hx rfl (hb hby at_2) rfl ?_
    show Steps p.tables e below (s₁.setTop (mkF m 3 #[.val (.int p1), .val (.long q2), .second, .val (.long q3), .second, .val (.long q4), .second, .unset, .unset, .unset, .unset, .unset] [(.int (p1 &&& (3 : Int32)))])) _
    refine XS.istore X0.here hx rfl (hb hby at_3) rfl (l' := #[.val (.int p1), .val (.long q2), .second, .val (.long q3), .second, .val (.long q4), .second, .val (.int (p1 &&& (3 : Int32))), .unset, .unset, .unset, .unset]) rfl ?_
    show Steps p.tables e below (s₁.setTop (mkF m 5 #[.val (.int p1), .val (.long q2), .second, .val (.long q3), .second, .val (.long q4), .second, .val (.int (p1 &&& (3 : Int32))), .unset, .unset, .unset, .unset] [])) _
    refine XS.iload X0.here hx rfl (hb hby at_5) rfl ?_
    show Steps p.tables e below (s₁.setTop (mkF m 7 #[.val (.int p1), .val (.long q2), .second, .val (.long q3), .second, .val (.long q4), .second, .val (.int (p1 &&& (3 : Int32))), .unset, .unset, .unset, .unset] [(.int (p1 &&& (3 : Int32)))])) _
    exact k
  refine OwnG.st sg1 ?_
  by_cases hc7_2 : (p1 &&& (3 : Int32)) = (0 : Int32)
  · have sg3 : ∀ t, Steps p.tables e below (s₁.setTop (mkF m 11 #[.val (.int p1), .val (.long q2), .second, .val (.long q3), .second, .val (.long q4), .second, .val (.int (p1 &&& (3 : Int32))), .unset, .unset, .unset, .unset] [(.int (0 : Int32))])) t → Steps p.tables e below (s₁.setTop (mkF m 7 #[.val (.int p1), .val (.long q2), .second, .val (.long q3), .second, .val (.long q4), .second, .val (.int (p1 &&& (3 : Int32))), .unset, .unset, .unset, .unset] [(.int (p1 &&& (3 : Int32)))])) t := by
      intro t k
      refine XS.ifNo X0.here hx rfl (hb hby at_7) rfl ((if0 _ _).trans (teq hc7_2).2) ?_
      show Steps p.tables e below (s₁.setTop (mkF m 10 #[.val (.int p1), .val (.long q2), .second, .val (.long q3), .second, .val (.long q4), .second, .val (.int (p1 &&& (3 : Int32))), .unset, .unset, .unset, .unset] [])) _
      refine XS.iconst X0.here hx rfl (hb hby at_10) ?_
      show Steps p.tables e below (s₁.setTop (mkF m 11 #[.val (.int p1), .val (.long q2), .second, .val (.long q3), .second, .val (.long q4), .second, .val (.int (p1 &&& (3 : Int32))), .unset, .unset, .unset, .unset] [(.int (0 : Int32))])) _
      exact k
    refine OwnG.st sg3 ?_
    obtain ⟨T4, h4, k4, X4, e4, E4, A4, st4⟩ := newP X0 hx hZ (hw _ (List.mem_of_getElem? (i := 0) rfl)) e0 (g := (mkF m 11 #[.val (.int p1), .val (.long q2), .second, .val (.long q3), .second, .val (.long q4), .second, .val (.int (p1 &&& (3 : Int32))), .unset, .unset, .unset, .unset] [(.int (0 : Int32))])) rfl (hb hby at_11) rfl (by decide) (cap := 0) (by decide) (by decide) (by decide) (by decide)
    obtain ⟨b4, g4⟩ : ∃ z, z = h0.size := ⟨_, rfl⟩
    rw [← g4] at A4 st4
    have V4 : OwnA Z h4 b4 .long 0 (jv' fun _ => 0) := own_newA A4 (by decide)
    have gb_b4 : n0 ≤ b4 := Nat.le_trans Z0 (Nat.le_of_eq g4.symm)
    have Z4 : n0 ≤ h4.size := Nat.le_trans Z0 E4.1
    refine OwnG.st st4 ?_
    show OwnG p e below s _ _ _ T4 (mkF m 13 #[.val (.int p1), .val (.long q2), .second, .val (.long q3), .second, .val (.long q4), .second, .val (.int (p1 &&& (3 : Int32))), .unset, .unset, .unset, .unset] [(.ref b4)])
    have hc82_5 : (p1 &&& (3 : Int32)) < (2 : Int32) := by rw [hc7_2]; decide
    have hc94_6 : (p1 &&& (3 : Int32)) < (3 : Int32) := by rw [hc7_2]; decide
    have hc106_7 : (p1 &&& (3 : Int32)) = (0 : Int32) := hc7_2
    have sg8 : ∀ t, Steps p.tables e below (T4.setTop (mkF m 127 #[.val (.int p1), .val (.long q2), .second, .val (.long q3), .second, .val (.long q4), .second, .val (.int (p1 &&& (3 : Int32))), .val (.ref b4), .val (.long q2), .second, .val (.int (0 : Int32))] [(.ref b4)])) t → Steps p.tables e below (T4.setTop (mkF m 13 #[.val (.int p1), .val (.long q2), .second, .val (.long q3), .second, .val (.long q4), .second, .val (.int (p1 &&& (3 : Int32))), .unset, .unset, .unset, .unset] [(.ref b4)])) t := by
      intro t k
      refine XS.astore X4.here hx rfl (hb hby at_13) rfl rfl (l' := #[.val (.int p1), .val (.long q2), .second, .val (.long q3), .second, .val (.long q4), .second, .val (.int (p1 &&& (3 : Int32))), .val (.ref b4), .unset, .unset, .unset]) rfl ?_
      show Steps p.tables e below (T4.setTop (mkF m 15 #[.val (.int p1), .val (.long q2), .second, .val (.long q3), .second, .val (.long q4), .second, .val (.int (p1 &&& (3 : Int32))), .val (.ref b4), .unset, .unset, .unset] [])) _
      refine XS.goto X4.here hx rfl (pc0 := 15) (pc' := 76) rfl (hb hby at_15) (by decide) (by decide) ?_
      show Steps p.tables e below (T4.setTop (mkF m 76 #[.val (.int p1), .val (.long q2), .second, .val (.long q3), .second, .val (.long q4), .second, .val (.int (p1 &&& (3 : Int32))), .val (.ref b4), .unset, .unset, .unset] [])) _
      refine XS.lloadN X4.here hx rfl (hb hby at_76) rfl ?_
      show Steps p.tables e below (T4.setTop (mkF m 77 #[.val (.int p1), .val (.long q2), .second, .val (.long q3), .second, .val (.long q4), .second, .val (.int (p1 &&& (3 : Int32))), .val (.ref b4), .unset, .unset, .unset] [(.long q2)])) _
      refine XS.lstore X4.here hx rfl (hb hby at_77) rfl (l' := #[.val (.int p1), .val (.long q2), .second, .val (.long q3), .second, .val (.long q4), .second, .val (.int (p1 &&& (3 : Int32))), .val (.ref b4), .val (.long q2), .second, .unset]) rfl ?_
      show Steps p.tables e below (T4.setTop (mkF m 79 #[.val (.int p1), .val (.long q2), .second, .val (.long q3), .second, .val (.long q4), .second, .val (.int (p1 &&& (3 : Int32))), .val (.ref b4), .val (.long q2), .second, .unset] [])) _
      refine XS.iload X4.here hx rfl (hb hby at_79) rfl ?_
      show Steps p.tables e below (T4.setTop (mkF m 81 #[.val (.int p1), .val (.long q2), .second, .val (.long q3), .second, .val (.long q4), .second, .val (.int (p1 &&& (3 : Int32))), .val (.ref b4), .val (.long q2), .second, .unset] [(.int (p1 &&& (3 : Int32)))])) _
      refine XS.iconst X4.here hx rfl (hb hby at_81) ?_
      show Steps p.tables e below (T4.setTop (mkF m 82 #[.val (.int p1), .val (.long q2), .second, .val (.long q3), .second, .val (.long q4), .second, .val (.int (p1 &&& (3 : Int32))), .val (.ref b4), .val (.long q2), .second, .unset] [(.int (2 : Int32)), (.int (p1 &&& (3 : Int32)))])) _
      refine XS.icmpYes X4.here hx rfl (pc0 := 82) (pc' := 91) rfl (hb hby at_82) rfl (tlt hc82_5).1 (by decide) (by decide) ?_
      show Steps p.tables e below (T4.setTop (mkF m 91 #[.val (.int p1), .val (.long q2), .second, .val (.long q3), .second, .val (.long q4), .second, .val (.int (p1 &&& (3 : Int32))), .val (.ref b4), .val (.long q2), .second, .unset] [])) _
      refine XS.iload X4.here hx rfl (hb hby at_91) rfl ?_
      show Steps p.tables e below (T4.setTop (mkF m 93 #[.val (.int p1), .val (.long q2), .second, .val (.long q3), .second, .val (.long q4), .second, .val (.int (p1 &&& (3 : Int32))), .val (.ref b4), .val (.long q2), .second, .unset] [(.int (p1 &&& (3 : Int32)))])) _
      refine XS.iconst X4.here hx rfl (hb hby at_93) ?_
      show Steps p.tables e below (T4.setTop (mkF m 94 #[.val (.int p1), .val (.long q2), .second, .val (.long q3), .second, .val (.long q4), .second, .val (.int (p1 &&& (3 : Int32))), .val (.ref b4), .val (.long q2), .second, .unset] [(.int (3 : Int32)), (.int (p1 &&& (3 : Int32)))])) _
      refine XS.icmpYes X4.here hx rfl (pc0 := 94) (pc' := 104) rfl (hb hby at_94) rfl (tlt hc94_6).1 (by decide) (by decide) ?_
      show Steps p.tables e below (T4.setTop (mkF m 104 #[.val (.int p1), .val (.long q2), .second, .val (.long q3), .second, .val (.long q4), .second, .val (.int (p1 &&& (3 : Int32))), .val (.ref b4), .val (.long q2), .second, .unset] [])) _
      refine XS.iload X4.here hx rfl (hb hby at_104) rfl ?_
      show Steps p.tables e below (T4.setTop (mkF m 106 #[.val (.int p1), .val (.long q2), .second, .val (.long q3), .second, .val (.long q4), .second, .val (.int (p1 &&& (3 : Int32))), .val (.ref b4), .val (.long q2), .second, .unset] [(.int (p1 &&& (3 : Int32)))])) _
      refine XS.ifNo X4.here hx rfl (hb hby at_106) rfl ((if0 _ _).trans (teq hc106_7).2) ?_
      show Steps p.tables e below (T4.setTop (mkF m 109 #[.val (.int p1), .val (.long q2), .second, .val (.long q3), .second, .val (.long q4), .second, .val (.int (p1 &&& (3 : Int32))), .val (.ref b4), .val (.long q2), .second, .unset] [])) _
      refine XS.iconst X4.here hx rfl (hb hby at_109) ?_
      show Steps p.tables e below (T4.setTop (mkF m 110 #[.val (.int p1), .val (.long q2), .second, .val (.long q3), .second, .val (.long q4), .second, .val (.int (p1 &&& (3 : Int32))), .val (.ref b4), .val (.long q2), .second, .unset] [(.int (0 : Int32))])) _
      refine XS.goto X4.here hx rfl (pc0 := 110) (pc' := 123) rfl (hb hby at_110) (by decide) (by decide) ?_
      show Steps p.tables e below (T4.setTop (mkF m 123 #[.val (.int p1), .val (.long q2), .second, .val (.long q3), .second, .val (.long q4), .second, .val (.int (p1 &&& (3 : Int32))), .val (.ref b4), .val (.long q2), .second, .unset] [(.int (0 : Int32))])) _
      refine XS.istore X4.here hx rfl (hb hby at_123) rfl (l' := #[.val (.int p1), .val (.long q2), .second, .val (.long q3), .second, .val (.long q4), .second, .val (.int (p1 &&& (3 : Int32))), .val (.ref b4), .val (.long q2), .second, .val (.int (0 : Int32))]) rfl ?_
      show Steps p.tables e below (T4.setTop (mkF m 125 #[.val (.int p1), .val (.long q2), .second, .val (.long q3), .second, .val (.long q4), .second, .val (.int (p1 &&& (3 : Int32))), .val (.ref b4), .val (.long q2), .second, .val (.int (0 : Int32))] [])) _
      refine XS.aload X4.here hx rfl (hb hby at_125) rfl rfl ?_
      show Steps p.tables e below (T4.setTop (mkF m 127 #[.val (.int p1), .val (.long q2), .second, .val (.long q3), .second, .val (.long q4), .second, .val (.int (p1 &&& (3 : Int32))), .val (.ref b4), .val (.long q2), .second, .val (.int (0 : Int32))] [(.ref b4)])) _
      exact k
    refine OwnG.st sg8 ?_
    obtain ⟨_, _, ⟨T9, L9, k9, n9⟩, -, X9, ⟨Lc9, hQ9, l9, y9, z9⟩, st9⟩ := Jvm.LawKit.callS X4 hx (y := (⟨"com/example/weiche/weiche/explicit/Concurrency", "together", "([J)I"⟩ : MethodName)) hown (mvT hZ (hw _ (List.mem_of_getElem? (i := 1) rfl))) (mvT hZ (hw _ (List.mem_of_getElem? (i := 2) rfl))) (mvT hZ (hw _ (List.mem_of_getElem? (i := 3) rfl))) (mvT hZ (hw _ (List.mem_of_getElem? (i := 4) rfl))) (by decide) (backOf (W := 0) (rm1 l Z a0 hw [] b4 0 (fun _ => 0) h4 n0 Z4 V4 (by decide)) hZ (hw _ (List.mem_of_getElem? (i := 4) rfl)) (hw _ (List.mem_of_getElem? (i := 3) rfl)) (by decide) (by decide)) (g := (mkF m 127 #[.val (.int p1), .val (.long q2), .second, .val (.long q3), .second, .val (.long q4), .second, .val (.int (p1 &&& (3 : Int32))), .val (.ref b4), .val (.long q2), .second, .val (.int (0 : Int32))] [(.ref b4)])) rfl (by rw [hml]; rfl) (argsL := [(.ref b4)]) (rest := []) (lenOf pd_0_0 rfl) rfl (by show 2 * 0 + _ ≤ _; exact Nat.le_of_eq rfl) (hb hby at_127) (fun _ _ => ⟨rfl, e4, (by decide : 1 + 0 ≤ _), (by decide : 0 + 0 ≤ _)⟩)
    dsimp only [Pt.U, Pt.locs, Pt.cells, Pt.slots] at X9 l9 y9 z9 st9 hQ9
    subst l9 y9 z9
    obtain ⟨rfl, N9q, e9⟩ := hQ9
    have N9 := Fr.app N0 N9q
    refine OwnG.st (fun t k => st9 t k) ?_
    show OwnG p e below s _ _ _ T9 (mkF m 130 #[.val (.int p1), .val (.long q2), .second, .val (.long q3), .second, .val (.long q4), .second, .val (.int (p1 &&& (3 : Int32))), .val (.ref b4), .val (.long q2), .second, .val (.int (0 : Int32))] [(.int (F1 0 (fun _ => 0)))])
    have hc132_10 : (F1 0 (fun _ => 0)) = (0 : Int32) := rfl
    have sg11 : ∀ t, Steps p.tables e below (T9.setTop (mkF m 140 #[.val (.int p1), .val (.long q2), .second, .val (.long q3), .second, .val (.long q4), .second, .val (.int (p1 &&& (3 : Int32))), .val (.ref b4), .val (.long q2), .second, .val (.int (0 : Int32))] [(.int (1 : Int32))])) t → Steps p.tables e below (T9.setTop (mkF m 130 #[.val (.int p1), .val (.long q2), .second, .val (.long q3), .second, .val (.long q4), .second, .val (.int (p1 &&& (3 : Int32))), .val (.ref b4), .val (.long q2), .second, .val (.int (0 : Int32))] [(.int (F1 0 (fun _ => 0)))])) t := by
      intro t k
      refine XS.iload X9.here hx rfl (hb hby at_130) rfl ?_
      show Steps p.tables e below (T9.setTop (mkF m 132 #[.val (.int p1), .val (.long q2), .second, .val (.long q3), .second, .val (.long q4), .second, .val (.int (p1 &&& (3 : Int32))), .val (.ref b4), .val (.long q2), .second, .val (.int (0 : Int32))] [(.int (0 : Int32)), (.int (F1 0 (fun _ => 0)))])) _
      refine XS.icmpNo X9.here hx rfl (hb hby at_132) rfl (teq hc132_10).2 ?_
      show Steps p.tables e below (T9.setTop (mkF m 135 #[.val (.int p1), .val (.long q2), .second, .val (.long q3), .second, .val (.long q4), .second, .val (.int (p1 &&& (3 : Int32))), .val (.ref b4), .val (.long q2), .second, .val (.int (0 : Int32))] [])) _
      refine XS.iconst X9.here hx rfl (hb hby at_135) ?_
      show Steps p.tables e below (T9.setTop (mkF m 136 #[.val (.int p1), .val (.long q2), .second, .val (.long q3), .second, .val (.long q4), .second, .val (.int (p1 &&& (3 : Int32))), .val (.ref b4), .val (.long q2), .second, .val (.int (0 : Int32))] [(.int (1 : Int32))])) _
      refine XS.goto X9.here hx rfl (pc0 := 136) (pc' := 140) rfl (hb hby at_136) (by decide) (by decide) ?_
      show Steps p.tables e below (T9.setTop (mkF m 140 #[.val (.int p1), .val (.long q2), .second, .val (.long q3), .second, .val (.long q4), .second, .val (.int (p1 &&& (3 : Int32))), .val (.ref b4), .val (.long q2), .second, .val (.int (0 : Int32))] [(.int (1 : Int32))])) _
      exact k
    refine OwnG.st sg11 ?_
    have hv : (1 : Int32) = 1 := rfl
    exact OwnG.retN X9 hx (t := .boolean) (by simp) Bd.returns (BodyLoose.notSynchronized Bd) (hb hby at_140) ⟨congrArg (fun w => some (Value.int (nar .boolean w))) hv, N9⟩ (by decide) (by decide)
  · have sg12 : ∀ t, Steps p.tables e below (s₁.setTop (mkF m 21 #[.val (.int p1), .val (.long q2), .second, .val (.long q3), .second, .val (.long q4), .second, .val (.int (p1 &&& (3 : Int32))), .unset, .unset, .unset, .unset] [(.int (1 : Int32)), (.int (p1 &&& (3 : Int32)))])) t → Steps p.tables e below (s₁.setTop (mkF m 7 #[.val (.int p1), .val (.long q2), .second, .val (.long q3), .second, .val (.long q4), .second, .val (.int (p1 &&& (3 : Int32))), .unset, .unset, .unset, .unset] [(.int (p1 &&& (3 : Int32)))])) t := by
      intro t k
      refine XS.ifYes X0.here hx rfl (pc0 := 7) (pc' := 18) rfl (hb hby at_7) rfl ((if0 _ _).trans (feq hc7_2).2) (by decide) (by decide) ?_
      show Steps p.tables e below (s₁.setTop (mkF m 18 #[.val (.int p1), .val (.long q2), .second, .val (.long q3), .second, .val (.long q4), .second, .val (.int (p1 &&& (3 : Int32))), .unset, .unset, .unset, .unset] [])) _
      refine XS.iload X0.here hx rfl (hb hby at_18) rfl ?_
      show Steps p.tables e below (s₁.setTop (mkF m 20 #[.val (.int p1), .val (.long q2), .second, .val (.long q3), .second, .val (.long q4), .second, .val (.int (p1 &&& (3 : Int32))), .unset, .unset, .unset, .unset] [(.int (p1 &&& (3 : Int32)))])) _
      refine XS.iconst X0.here hx rfl (hb hby at_20) ?_
      show Steps p.tables e below (s₁.setTop (mkF m 21 #[.val (.int p1), .val (.long q2), .second, .val (.long q3), .second, .val (.long q4), .second, .val (.int (p1 &&& (3 : Int32))), .unset, .unset, .unset, .unset] [(.int (1 : Int32)), (.int (p1 &&& (3 : Int32)))])) _
      exact k
    refine OwnG.st sg12 ?_
    by_cases hc21_13 : (p1 &&& (3 : Int32)) = (1 : Int32)
    · have sg14 : ∀ t, Steps p.tables e below (s₁.setTop (mkF m 25 #[.val (.int p1), .val (.long q2), .second, .val (.long q3), .second, .val (.long q4), .second, .val (.int (p1 &&& (3 : Int32))), .unset, .unset, .unset, .unset] [(.int (1 : Int32))])) t → Steps p.tables e below (s₁.setTop (mkF m 21 #[.val (.int p1), .val (.long q2), .second, .val (.long q3), .second, .val (.long q4), .second, .val (.int (p1 &&& (3 : Int32))), .unset, .unset, .unset, .unset] [(.int (1 : Int32)), (.int (p1 &&& (3 : Int32)))])) t := by
        intro t k
        refine XS.icmpNo X0.here hx rfl (hb hby at_21) rfl (teq hc21_13).2 ?_
        show Steps p.tables e below (s₁.setTop (mkF m 24 #[.val (.int p1), .val (.long q2), .second, .val (.long q3), .second, .val (.long q4), .second, .val (.int (p1 &&& (3 : Int32))), .unset, .unset, .unset, .unset] [])) _
        refine XS.iconst X0.here hx rfl (hb hby at_24) ?_
        show Steps p.tables e below (s₁.setTop (mkF m 25 #[.val (.int p1), .val (.long q2), .second, .val (.long q3), .second, .val (.long q4), .second, .val (.int (p1 &&& (3 : Int32))), .unset, .unset, .unset, .unset] [(.int (1 : Int32))])) _
        exact k
      refine OwnG.st sg14 ?_
      obtain ⟨T15, h15, k15, X15, e15, E15, A15, st15⟩ := newP X0 hx hZ (hw _ (List.mem_of_getElem? (i := 0) rfl)) e0 (g := (mkF m 25 #[.val (.int p1), .val (.long q2), .second, .val (.long q3), .second, .val (.long q4), .second, .val (.int (p1 &&& (3 : Int32))), .unset, .unset, .unset, .unset] [(.int (1 : Int32))])) rfl (hb hby at_25) rfl (by decide) (cap := 1) (by decide) (by decide) (by decide) (by decide)
      obtain ⟨b15, g15⟩ : ∃ z, z = h0.size := ⟨_, rfl⟩
      rw [← g15] at A15 st15
      have V15 : OwnA Z h15 b15 .long 1 (jv' fun _ => 0) := own_newA A15 (by decide)
      have gb_b15 : n0 ≤ b15 := Nat.le_trans Z0 (Nat.le_of_eq g15.symm)
      have Z15 : n0 ≤ h15.size := Nat.le_trans Z0 E15.1
      refine OwnG.st st15 ?_
      show OwnG p e below s _ _ _ T15 (mkF m 27 #[.val (.int p1), .val (.long q2), .second, .val (.long q3), .second, .val (.long q4), .second, .val (.int (p1 &&& (3 : Int32))), .unset, .unset, .unset, .unset] [(.ref b15)])
      have sg16 : ∀ t, Steps p.tables e below (T15.setTop (mkF m 30 #[.val (.int p1), .val (.long q2), .second, .val (.long q3), .second, .val (.long q4), .second, .val (.int (p1 &&& (3 : Int32))), .unset, .unset, .unset, .unset] [(.long q2), (.int (0 : Int32)), (.ref b15), (.ref b15)])) t → Steps p.tables e below (T15.setTop (mkF m 27 #[.val (.int p1), .val (.long q2), .second, .val (.long q3), .second, .val (.long q4), .second, .val (.int (p1 &&& (3 : Int32))), .unset, .unset, .unset, .unset] [(.ref b15)])) t := by
        intro t k
        refine XS.dup X15.here hx rfl (hb hby at_27) rfl rfl ?_
        show Steps p.tables e below (T15.setTop (mkF m 28 #[.val (.int p1), .val (.long q2), .second, .val (.long q3), .second, .val (.long q4), .second, .val (.int (p1 &&& (3 : Int32))), .unset, .unset, .unset, .unset] [(.ref b15), (.ref b15)])) _
        refine XS.iconst X15.here hx rfl (hb hby at_28) ?_
        show Steps p.tables e below (T15.setTop (mkF m 29 #[.val (.int p1), .val (.long q2), .second, .val (.long q3), .second, .val (.long q4), .second, .val (.int (p1 &&& (3 : Int32))), .unset, .unset, .unset, .unset] [(.int (0 : Int32)), (.ref b15), (.ref b15)])) _
        refine XS.lloadN X15.here hx rfl (hb hby at_29) rfl ?_
        show Steps p.tables e below (T15.setTop (mkF m 30 #[.val (.int p1), .val (.long q2), .second, .val (.long q3), .second, .val (.long q4), .second, .val (.int (p1 &&& (3 : Int32))), .unset, .unset, .unset, .unset] [(.long q2), (.int (0 : Int32)), (.ref b15), (.ref b15)])) _
        exact k
      refine OwnG.st sg16 ?_
      obtain ⟨T17, h17, X17, e17, W17, V17, st17⟩ := own_stJ V15 X15 hx hZ e15 (by decide) (by decide) (gf := (mkF m 30 #[.val (.int p1), .val (.long q2), .second, .val (.long q3), .second, .val (.long q4), .second, .val (.int (p1 &&& (3 : Int32))), .unset, .unset, .unset, .unset] [(.long q2), (.int (0 : Int32)), (.ref b15), (.ref b15)])) rfl rfl (hb hby at_30)
      have V17' : OwnA Z h17 b15 .long 1 (jv' (upd (fun _ => 0) 0 q2)) := V17
      have N17 := Fr.snoc X17 N0 gb_b15
      have Z17 : n0 ≤ h17.size := by rw [W17.size]; exact Z15
      refine OwnG.st st17 ?_
      show OwnG p e below s _ _ _ T17 (mkF m 31 #[.val (.int p1), .val (.long q2), .second, .val (.long q3), .second, .val (.long q4), .second, .val (.int (p1 &&& (3 : Int32))), .unset, .unset, .unset, .unset] [(.ref b15)])
      have hc82_18 : (p1 &&& (3 : Int32)) < (2 : Int32) := by rw [hc21_13]; decide
      have hc94_19 : (p1 &&& (3 : Int32)) < (3 : Int32) := by rw [hc21_13]; decide
      have hc106_20 : ¬ ((p1 &&& (3 : Int32)) = (0 : Int32)) := hc7_2
      have sg21 : ∀ t, Steps p.tables e below (T17.setTop (mkF m 127 #[.val (.int p1), .val (.long q2), .second, .val (.long q3), .second, .val (.long q4), .second, .val (.int (p1 &&& (3 : Int32))), .val (.ref b15), .val (.long q2), .second, .val (.int ((((q2.toUInt64 >>> ((32 : Int32) &&& 0x3f).toInt64.toUInt64).toInt64) &&& (4095 : Int64)).toInt32))] [(.ref b15)])) t → Steps p.tables e below (T17.setTop (mkF m 31 #[.val (.int p1), .val (.long q2), .second, .val (.long q3), .second, .val (.long q4), .second, .val (.int (p1 &&& (3 : Int32))), .unset, .unset, .unset, .unset] [(.ref b15)])) t := by
        intro t k
        refine XS.astore X17.here hx rfl (hb hby at_31) rfl rfl (l' := #[.val (.int p1), .val (.long q2), .second, .val (.long q3), .second, .val (.long q4), .second, .val (.int (p1 &&& (3 : Int32))), .val (.ref b15), .unset, .unset, .unset]) rfl ?_
        show Steps p.tables e below (T17.setTop (mkF m 33 #[.val (.int p1), .val (.long q2), .second, .val (.long q3), .second, .val (.long q4), .second, .val (.int (p1 &&& (3 : Int32))), .val (.ref b15), .unset, .unset, .unset] [])) _
        refine XS.goto X17.here hx rfl (pc0 := 33) (pc' := 76) rfl (hb hby at_33) (by decide) (by decide) ?_
        show Steps p.tables e below (T17.setTop (mkF m 76 #[.val (.int p1), .val (.long q2), .second, .val (.long q3), .second, .val (.long q4), .second, .val (.int (p1 &&& (3 : Int32))), .val (.ref b15), .unset, .unset, .unset] [])) _
        refine XS.lloadN X17.here hx rfl (hb hby at_76) rfl ?_
        show Steps p.tables e below (T17.setTop (mkF m 77 #[.val (.int p1), .val (.long q2), .second, .val (.long q3), .second, .val (.long q4), .second, .val (.int (p1 &&& (3 : Int32))), .val (.ref b15), .unset, .unset, .unset] [(.long q2)])) _
        refine XS.lstore X17.here hx rfl (hb hby at_77) rfl (l' := #[.val (.int p1), .val (.long q2), .second, .val (.long q3), .second, .val (.long q4), .second, .val (.int (p1 &&& (3 : Int32))), .val (.ref b15), .val (.long q2), .second, .unset]) rfl ?_
        show Steps p.tables e below (T17.setTop (mkF m 79 #[.val (.int p1), .val (.long q2), .second, .val (.long q3), .second, .val (.long q4), .second, .val (.int (p1 &&& (3 : Int32))), .val (.ref b15), .val (.long q2), .second, .unset] [])) _
        refine XS.iload X17.here hx rfl (hb hby at_79) rfl ?_
        show Steps p.tables e below (T17.setTop (mkF m 81 #[.val (.int p1), .val (.long q2), .second, .val (.long q3), .second, .val (.long q4), .second, .val (.int (p1 &&& (3 : Int32))), .val (.ref b15), .val (.long q2), .second, .unset] [(.int (p1 &&& (3 : Int32)))])) _
        refine XS.iconst X17.here hx rfl (hb hby at_81) ?_
        show Steps p.tables e below (T17.setTop (mkF m 82 #[.val (.int p1), .val (.long q2), .second, .val (.long q3), .second, .val (.long q4), .second, .val (.int (p1 &&& (3 : Int32))), .val (.ref b15), .val (.long q2), .second, .unset] [(.int (2 : Int32)), (.int (p1 &&& (3 : Int32)))])) _
        refine XS.icmpYes X17.here hx rfl (pc0 := 82) (pc' := 91) rfl (hb hby at_82) rfl (tlt hc82_18).1 (by decide) (by decide) ?_
        show Steps p.tables e below (T17.setTop (mkF m 91 #[.val (.int p1), .val (.long q2), .second, .val (.long q3), .second, .val (.long q4), .second, .val (.int (p1 &&& (3 : Int32))), .val (.ref b15), .val (.long q2), .second, .unset] [])) _
        refine XS.iload X17.here hx rfl (hb hby at_91) rfl ?_
        show Steps p.tables e below (T17.setTop (mkF m 93 #[.val (.int p1), .val (.long q2), .second, .val (.long q3), .second, .val (.long q4), .second, .val (.int (p1 &&& (3 : Int32))), .val (.ref b15), .val (.long q2), .second, .unset] [(.int (p1 &&& (3 : Int32)))])) _
        refine XS.iconst X17.here hx rfl (hb hby at_93) ?_
        show Steps p.tables e below (T17.setTop (mkF m 94 #[.val (.int p1), .val (.long q2), .second, .val (.long q3), .second, .val (.long q4), .second, .val (.int (p1 &&& (3 : Int32))), .val (.ref b15), .val (.long q2), .second, .unset] [(.int (3 : Int32)), (.int (p1 &&& (3 : Int32)))])) _
        refine XS.icmpYes X17.here hx rfl (pc0 := 94) (pc' := 104) rfl (hb hby at_94) rfl (tlt hc94_19).1 (by decide) (by decide) ?_
        show Steps p.tables e below (T17.setTop (mkF m 104 #[.val (.int p1), .val (.long q2), .second, .val (.long q3), .second, .val (.long q4), .second, .val (.int (p1 &&& (3 : Int32))), .val (.ref b15), .val (.long q2), .second, .unset] [])) _
        refine XS.iload X17.here hx rfl (hb hby at_104) rfl ?_
        show Steps p.tables e below (T17.setTop (mkF m 106 #[.val (.int p1), .val (.long q2), .second, .val (.long q3), .second, .val (.long q4), .second, .val (.int (p1 &&& (3 : Int32))), .val (.ref b15), .val (.long q2), .second, .unset] [(.int (p1 &&& (3 : Int32)))])) _
        refine XS.ifYes X17.here hx rfl (pc0 := 106) (pc' := 113) rfl (hb hby at_106) rfl ((if0 _ _).trans (feq hc106_20).2) (by decide) (by decide) ?_
        show Steps p.tables e below (T17.setTop (mkF m 113 #[.val (.int p1), .val (.long q2), .second, .val (.long q3), .second, .val (.long q4), .second, .val (.int (p1 &&& (3 : Int32))), .val (.ref b15), .val (.long q2), .second, .unset] [])) _
        refine XS.lload X17.here hx rfl (hb hby at_113) rfl ?_
        show Steps p.tables e below (T17.setTop (mkF m 115 #[.val (.int p1), .val (.long q2), .second, .val (.long q3), .second, .val (.long q4), .second, .val (.int (p1 &&& (3 : Int32))), .val (.ref b15), .val (.long q2), .second, .unset] [(.long q2)])) _
        refine XS.bipush X17.here hx rfl (hb hby at_115) ?_
        show Steps p.tables e below (T17.setTop (mkF m 117 #[.val (.int p1), .val (.long q2), .second, .val (.long q3), .second, .val (.long q4), .second, .val (.int (p1 &&& (3 : Int32))), .val (.ref b15), .val (.long q2), .second, .unset] [(.int (32 : Int32)), (.long q2)])) _
        refine XS.lushr X17.here hx rfl (hb hby at_117) rfl ?_
        show Steps p.tables e below (T17.setTop (mkF m 118 #[.val (.int p1), .val (.long q2), .second, .val (.long q3), .second, .val (.long q4), .second, .val (.int (p1 &&& (3 : Int32))), .val (.ref b15), .val (.long q2), .second, .unset] [(.long ((q2.toUInt64 >>> ((32 : Int32) &&& 0x3f).toInt64.toUInt64).toInt64))])) _
        refine X17.ldc2Long hx hown (mvT hZ (hw _ (List.mem_of_getElem? (i := 5) rfl))) (g := (mkF m 118 #[.val (.int p1), .val (.long q2), .second, .val (.long q3), .second, .val (.long q4), .second, .val (.int (p1 &&& (3 : Int32))), .val (.ref b15), .val (.long q2), .second, .unset] [(.long ((q2.toUInt64 >>> ((32 : Int32) &&& 0x3f).toInt64.toUInt64).toInt64))])) rfl (hb hby at_118) _ ?_
        show Steps p.tables e below (T17.setTop (mkF m 121 #[.val (.int p1), .val (.long q2), .second, .val (.long q3), .second, .val (.long q4), .second, .val (.int (p1 &&& (3 : Int32))), .val (.ref b15), .val (.long q2), .second, .unset] [(.long (4095 : Int64)), (.long ((q2.toUInt64 >>> ((32 : Int32) &&& 0x3f).toInt64.toUInt64).toInt64))])) _
        refine XS.land X17.here hx rfl (hb hby at_121) rfl ?_
        show Steps p.tables e below (T17.setTop (mkF m 122 #[.val (.int p1), .val (.long q2), .second, .val (.long q3), .second, .val (.long q4), .second, .val (.int (p1 &&& (3 : Int32))), .val (.ref b15), .val (.long q2), .second, .unset] [(.long (((q2.toUInt64 >>> ((32 : Int32) &&& 0x3f).toInt64.toUInt64).toInt64) &&& (4095 : Int64)))])) _
        refine XS.l2i X17.here hx rfl (hb hby at_122) rfl ?_
        show Steps p.tables e below (T17.setTop (mkF m 123 #[.val (.int p1), .val (.long q2), .second, .val (.long q3), .second, .val (.long q4), .second, .val (.int (p1 &&& (3 : Int32))), .val (.ref b15), .val (.long q2), .second, .unset] [(.int ((((q2.toUInt64 >>> ((32 : Int32) &&& 0x3f).toInt64.toUInt64).toInt64) &&& (4095 : Int64)).toInt32))])) _
        refine XS.istore X17.here hx rfl (hb hby at_123) rfl (l' := #[.val (.int p1), .val (.long q2), .second, .val (.long q3), .second, .val (.long q4), .second, .val (.int (p1 &&& (3 : Int32))), .val (.ref b15), .val (.long q2), .second, .val (.int ((((q2.toUInt64 >>> ((32 : Int32) &&& 0x3f).toInt64.toUInt64).toInt64) &&& (4095 : Int64)).toInt32))]) rfl ?_
        show Steps p.tables e below (T17.setTop (mkF m 125 #[.val (.int p1), .val (.long q2), .second, .val (.long q3), .second, .val (.long q4), .second, .val (.int (p1 &&& (3 : Int32))), .val (.ref b15), .val (.long q2), .second, .val (.int ((((q2.toUInt64 >>> ((32 : Int32) &&& 0x3f).toInt64.toUInt64).toInt64) &&& (4095 : Int64)).toInt32))] [])) _
        refine XS.aload X17.here hx rfl (hb hby at_125) rfl rfl ?_
        show Steps p.tables e below (T17.setTop (mkF m 127 #[.val (.int p1), .val (.long q2), .second, .val (.long q3), .second, .val (.long q4), .second, .val (.int (p1 &&& (3 : Int32))), .val (.ref b15), .val (.long q2), .second, .val (.int ((((q2.toUInt64 >>> ((32 : Int32) &&& 0x3f).toInt64.toUInt64).toInt64) &&& (4095 : Int64)).toInt32))] [(.ref b15)])) _
        exact k
      refine OwnG.st sg21 ?_
      obtain ⟨_, _, ⟨T22, L22, k22, n22⟩, -, X22, ⟨Lc22, hQ22, l22, y22, z22⟩, st22⟩ := Jvm.LawKit.callS X17 hx (y := (⟨"com/example/weiche/weiche/explicit/Concurrency", "together", "([J)I"⟩ : MethodName)) hown (mvT hZ (hw _ (List.mem_of_getElem? (i := 1) rfl))) (mvT hZ (hw _ (List.mem_of_getElem? (i := 2) rfl))) (mvT hZ (hw _ (List.mem_of_getElem? (i := 3) rfl))) (mvT hZ (hw _ (List.mem_of_getElem? (i := 4) rfl))) (by decide) (backOf (W := 0) (rm1 l Z a0 hw [] b15 1 (upd (fun _ => 0) 0 q2) h17 n0 Z17 V17' (by decide)) hZ (hw _ (List.mem_of_getElem? (i := 4) rfl)) (hw _ (List.mem_of_getElem? (i := 3) rfl)) (by decide) (by decide)) (g := (mkF m 127 #[.val (.int p1), .val (.long q2), .second, .val (.long q3), .second, .val (.long q4), .second, .val (.int (p1 &&& (3 : Int32))), .val (.ref b15), .val (.long q2), .second, .val (.int ((((q2.toUInt64 >>> ((32 : Int32) &&& 0x3f).toInt64.toUInt64).toInt64) &&& (4095 : Int64)).toInt32))] [(.ref b15)])) rfl (by rw [hml]; rfl) (argsL := [(.ref b15)]) (rest := []) (lenOf pd_0_0 rfl) rfl (by show 2 * 0 + _ ≤ _; exact Nat.le_of_eq rfl) (hb hby at_127) (fun _ _ => ⟨rfl, e17, (by decide : 1 + 0 ≤ _), (by decide : 1 + 0 ≤ _)⟩)
      dsimp only [Pt.U, Pt.locs, Pt.cells, Pt.slots] at X22 l22 y22 z22 st22 hQ22
      subst l22 y22 z22
      obtain ⟨rfl, N22q, e22⟩ := hQ22
      have N22 := Fr.app N17 N22q
      refine OwnG.st (fun t k => st22 t k) ?_
      show OwnG p e below s _ _ _ T22 (mkF m 130 #[.val (.int p1), .val (.long q2), .second, .val (.long q3), .second, .val (.long q4), .second, .val (.int (p1 &&& (3 : Int32))), .val (.ref b15), .val (.long q2), .second, .val (.int ((((q2.toUInt64 >>> ((32 : Int32) &&& 0x3f).toInt64.toUInt64).toInt64) &&& (4095 : Int64)).toInt32))] [(.int (F1 1 (upd (fun _ => 0) 0 q2)))])
      have hc132_23 : (F1 1 (upd (fun _ => 0) 0 q2)) = ((((q2.toUInt64 >>> ((32 : Int32) &&& 0x3f).toInt64.toUInt64).toInt64) &&& (4095 : Int64)).toInt32) := own_g1 _ _ rfl
      have sg24 : ∀ t, Steps p.tables e below (T22.setTop (mkF m 140 #[.val (.int p1), .val (.long q2), .second, .val (.long q3), .second, .val (.long q4), .second, .val (.int (p1 &&& (3 : Int32))), .val (.ref b15), .val (.long q2), .second, .val (.int ((((q2.toUInt64 >>> ((32 : Int32) &&& 0x3f).toInt64.toUInt64).toInt64) &&& (4095 : Int64)).toInt32))] [(.int (1 : Int32))])) t → Steps p.tables e below (T22.setTop (mkF m 130 #[.val (.int p1), .val (.long q2), .second, .val (.long q3), .second, .val (.long q4), .second, .val (.int (p1 &&& (3 : Int32))), .val (.ref b15), .val (.long q2), .second, .val (.int ((((q2.toUInt64 >>> ((32 : Int32) &&& 0x3f).toInt64.toUInt64).toInt64) &&& (4095 : Int64)).toInt32))] [(.int (F1 1 (upd (fun _ => 0) 0 q2)))])) t := by
        intro t k
        refine XS.iload X22.here hx rfl (hb hby at_130) rfl ?_
        show Steps p.tables e below (T22.setTop (mkF m 132 #[.val (.int p1), .val (.long q2), .second, .val (.long q3), .second, .val (.long q4), .second, .val (.int (p1 &&& (3 : Int32))), .val (.ref b15), .val (.long q2), .second, .val (.int ((((q2.toUInt64 >>> ((32 : Int32) &&& 0x3f).toInt64.toUInt64).toInt64) &&& (4095 : Int64)).toInt32))] [(.int ((((q2.toUInt64 >>> ((32 : Int32) &&& 0x3f).toInt64.toUInt64).toInt64) &&& (4095 : Int64)).toInt32)), (.int (F1 1 (upd (fun _ => 0) 0 q2)))])) _
        refine XS.icmpNo X22.here hx rfl (hb hby at_132) rfl (teq hc132_23).2 ?_
        show Steps p.tables e below (T22.setTop (mkF m 135 #[.val (.int p1), .val (.long q2), .second, .val (.long q3), .second, .val (.long q4), .second, .val (.int (p1 &&& (3 : Int32))), .val (.ref b15), .val (.long q2), .second, .val (.int ((((q2.toUInt64 >>> ((32 : Int32) &&& 0x3f).toInt64.toUInt64).toInt64) &&& (4095 : Int64)).toInt32))] [])) _
        refine XS.iconst X22.here hx rfl (hb hby at_135) ?_
        show Steps p.tables e below (T22.setTop (mkF m 136 #[.val (.int p1), .val (.long q2), .second, .val (.long q3), .second, .val (.long q4), .second, .val (.int (p1 &&& (3 : Int32))), .val (.ref b15), .val (.long q2), .second, .val (.int ((((q2.toUInt64 >>> ((32 : Int32) &&& 0x3f).toInt64.toUInt64).toInt64) &&& (4095 : Int64)).toInt32))] [(.int (1 : Int32))])) _
        refine XS.goto X22.here hx rfl (pc0 := 136) (pc' := 140) rfl (hb hby at_136) (by decide) (by decide) ?_
        show Steps p.tables e below (T22.setTop (mkF m 140 #[.val (.int p1), .val (.long q2), .second, .val (.long q3), .second, .val (.long q4), .second, .val (.int (p1 &&& (3 : Int32))), .val (.ref b15), .val (.long q2), .second, .val (.int ((((q2.toUInt64 >>> ((32 : Int32) &&& 0x3f).toInt64.toUInt64).toInt64) &&& (4095 : Int64)).toInt32))] [(.int (1 : Int32))])) _
        exact k
      refine OwnG.st sg24 ?_
      have hv : (1 : Int32) = 1 := rfl
      exact OwnG.retN X22 hx (t := .boolean) (by simp) Bd.returns (BodyLoose.notSynchronized Bd) (hb hby at_140) ⟨congrArg (fun w => some (Value.int (nar .boolean w))) hv, N22⟩ (by decide) (by decide)
    · have sg25 : ∀ t, Steps p.tables e below (s₁.setTop (mkF m 39 #[.val (.int p1), .val (.long q2), .second, .val (.long q3), .second, .val (.long q4), .second, .val (.int (p1 &&& (3 : Int32))), .unset, .unset, .unset, .unset] [(.int (2 : Int32)), (.int (p1 &&& (3 : Int32)))])) t → Steps p.tables e below (s₁.setTop (mkF m 21 #[.val (.int p1), .val (.long q2), .second, .val (.long q3), .second, .val (.long q4), .second, .val (.int (p1 &&& (3 : Int32))), .unset, .unset, .unset, .unset] [(.int (1 : Int32)), (.int (p1 &&& (3 : Int32)))])) t := by
        intro t k
        refine XS.icmpYes X0.here hx rfl (pc0 := 21) (pc' := 36) rfl (hb hby at_21) rfl (feq hc21_13).2 (by decide) (by decide) ?_
        show Steps p.tables e below (s₁.setTop (mkF m 36 #[.val (.int p1), .val (.long q2), .second, .val (.long q3), .second, .val (.long q4), .second, .val (.int (p1 &&& (3 : Int32))), .unset, .unset, .unset, .unset] [])) _
        refine XS.iload X0.here hx rfl (hb hby at_36) rfl ?_
        show Steps p.tables e below (s₁.setTop (mkF m 38 #[.val (.int p1), .val (.long q2), .second, .val (.long q3), .second, .val (.long q4), .second, .val (.int (p1 &&& (3 : Int32))), .unset, .unset, .unset, .unset] [(.int (p1 &&& (3 : Int32)))])) _
        refine XS.iconst X0.here hx rfl (hb hby at_38) ?_
        show Steps p.tables e below (s₁.setTop (mkF m 39 #[.val (.int p1), .val (.long q2), .second, .val (.long q3), .second, .val (.long q4), .second, .val (.int (p1 &&& (3 : Int32))), .unset, .unset, .unset, .unset] [(.int (2 : Int32)), (.int (p1 &&& (3 : Int32)))])) _
        exact k
      refine OwnG.st sg25 ?_
      by_cases hc39_26 : (p1 &&& (3 : Int32)) = (2 : Int32)
      · have sg27 : ∀ t, Steps p.tables e below (s₁.setTop (mkF m 43 #[.val (.int p1), .val (.long q2), .second, .val (.long q3), .second, .val (.long q4), .second, .val (.int (p1 &&& (3 : Int32))), .unset, .unset, .unset, .unset] [(.int (2 : Int32))])) t → Steps p.tables e below (s₁.setTop (mkF m 39 #[.val (.int p1), .val (.long q2), .second, .val (.long q3), .second, .val (.long q4), .second, .val (.int (p1 &&& (3 : Int32))), .unset, .unset, .unset, .unset] [(.int (2 : Int32)), (.int (p1 &&& (3 : Int32)))])) t := by
          intro t k
          refine XS.icmpNo X0.here hx rfl (hb hby at_39) rfl (teq hc39_26).2 ?_
          show Steps p.tables e below (s₁.setTop (mkF m 42 #[.val (.int p1), .val (.long q2), .second, .val (.long q3), .second, .val (.long q4), .second, .val (.int (p1 &&& (3 : Int32))), .unset, .unset, .unset, .unset] [])) _
          refine XS.iconst X0.here hx rfl (hb hby at_42) ?_
          show Steps p.tables e below (s₁.setTop (mkF m 43 #[.val (.int p1), .val (.long q2), .second, .val (.long q3), .second, .val (.long q4), .second, .val (.int (p1 &&& (3 : Int32))), .unset, .unset, .unset, .unset] [(.int (2 : Int32))])) _
          exact k
        refine OwnG.st sg27 ?_
        obtain ⟨T28, h28, k28, X28, e28, E28, A28, st28⟩ := newP X0 hx hZ (hw _ (List.mem_of_getElem? (i := 0) rfl)) e0 (g := (mkF m 43 #[.val (.int p1), .val (.long q2), .second, .val (.long q3), .second, .val (.long q4), .second, .val (.int (p1 &&& (3 : Int32))), .unset, .unset, .unset, .unset] [(.int (2 : Int32))])) rfl (hb hby at_43) rfl (by decide) (cap := 2) (by decide) (by decide) (by decide) (by decide)
        obtain ⟨b28, g28⟩ : ∃ z, z = h0.size := ⟨_, rfl⟩
        rw [← g28] at A28 st28
        have V28 : OwnA Z h28 b28 .long 2 (jv' fun _ => 0) := own_newA A28 (by decide)
        have gb_b28 : n0 ≤ b28 := Nat.le_trans Z0 (Nat.le_of_eq g28.symm)
        have Z28 : n0 ≤ h28.size := Nat.le_trans Z0 E28.1
        refine OwnG.st st28 ?_
        show OwnG p e below s _ _ _ T28 (mkF m 45 #[.val (.int p1), .val (.long q2), .second, .val (.long q3), .second, .val (.long q4), .second, .val (.int (p1 &&& (3 : Int32))), .unset, .unset, .unset, .unset] [(.ref b28)])
        have sg29 : ∀ t, Steps p.tables e below (T28.setTop (mkF m 48 #[.val (.int p1), .val (.long q2), .second, .val (.long q3), .second, .val (.long q4), .second, .val (.int (p1 &&& (3 : Int32))), .unset, .unset, .unset, .unset] [(.long q2), (.int (0 : Int32)), (.ref b28), (.ref b28)])) t → Steps p.tables e below (T28.setTop (mkF m 45 #[.val (.int p1), .val (.long q2), .second, .val (.long q3), .second, .val (.long q4), .second, .val (.int (p1 &&& (3 : Int32))), .unset, .unset, .unset, .unset] [(.ref b28)])) t := by
          intro t k
          refine XS.dup X28.here hx rfl (hb hby at_45) rfl rfl ?_
          show Steps p.tables e below (T28.setTop (mkF m 46 #[.val (.int p1), .val (.long q2), .second, .val (.long q3), .second, .val (.long q4), .second, .val (.int (p1 &&& (3 : Int32))), .unset, .unset, .unset, .unset] [(.ref b28), (.ref b28)])) _
          refine XS.iconst X28.here hx rfl (hb hby at_46) ?_
          show Steps p.tables e below (T28.setTop (mkF m 47 #[.val (.int p1), .val (.long q2), .second, .val (.long q3), .second, .val (.long q4), .second, .val (.int (p1 &&& (3 : Int32))), .unset, .unset, .unset, .unset] [(.int (0 : Int32)), (.ref b28), (.ref b28)])) _
          refine XS.lloadN X28.here hx rfl (hb hby at_47) rfl ?_
          show Steps p.tables e below (T28.setTop (mkF m 48 #[.val (.int p1), .val (.long q2), .second, .val (.long q3), .second, .val (.long q4), .second, .val (.int (p1 &&& (3 : Int32))), .unset, .unset, .unset, .unset] [(.long q2), (.int (0 : Int32)), (.ref b28), (.ref b28)])) _
          exact k
        refine OwnG.st sg29 ?_
        obtain ⟨T30, h30, X30, e30, W30, V30, st30⟩ := own_stJ V28 X28 hx hZ e28 (by decide) (by decide) (gf := (mkF m 48 #[.val (.int p1), .val (.long q2), .second, .val (.long q3), .second, .val (.long q4), .second, .val (.int (p1 &&& (3 : Int32))), .unset, .unset, .unset, .unset] [(.long q2), (.int (0 : Int32)), (.ref b28), (.ref b28)])) rfl rfl (hb hby at_48)
        have V30' : OwnA Z h30 b28 .long 2 (jv' (upd (fun _ => 0) 0 q2)) := V30
        have N30 := Fr.snoc X30 N0 gb_b28
        have Z30 : n0 ≤ h30.size := by rw [W30.size]; exact Z28
        refine OwnG.st st30 ?_
        show OwnG p e below s _ _ _ T30 (mkF m 49 #[.val (.int p1), .val (.long q2), .second, .val (.long q3), .second, .val (.long q4), .second, .val (.int (p1 &&& (3 : Int32))), .unset, .unset, .unset, .unset] [(.ref b28)])
        have sg31 : ∀ t, Steps p.tables e below (T30.setTop (mkF m 52 #[.val (.int p1), .val (.long q2), .second, .val (.long q3), .second, .val (.long q4), .second, .val (.int (p1 &&& (3 : Int32))), .unset, .unset, .unset, .unset] [(.long q3), (.int (1 : Int32)), (.ref b28), (.ref b28)])) t → Steps p.tables e below (T30.setTop (mkF m 49 #[.val (.int p1), .val (.long q2), .second, .val (.long q3), .second, .val (.long q4), .second, .val (.int (p1 &&& (3 : Int32))), .unset, .unset, .unset, .unset] [(.ref b28)])) t := by
          intro t k
          refine XS.dup X30.here hx rfl (hb hby at_49) rfl rfl ?_
          show Steps p.tables e below (T30.setTop (mkF m 50 #[.val (.int p1), .val (.long q2), .second, .val (.long q3), .second, .val (.long q4), .second, .val (.int (p1 &&& (3 : Int32))), .unset, .unset, .unset, .unset] [(.ref b28), (.ref b28)])) _
          refine XS.iconst X30.here hx rfl (hb hby at_50) ?_
          show Steps p.tables e below (T30.setTop (mkF m 51 #[.val (.int p1), .val (.long q2), .second, .val (.long q3), .second, .val (.long q4), .second, .val (.int (p1 &&& (3 : Int32))), .unset, .unset, .unset, .unset] [(.int (1 : Int32)), (.ref b28), (.ref b28)])) _
          refine XS.lloadN X30.here hx rfl (hb hby at_51) rfl ?_
          show Steps p.tables e below (T30.setTop (mkF m 52 #[.val (.int p1), .val (.long q2), .second, .val (.long q3), .second, .val (.long q4), .second, .val (.int (p1 &&& (3 : Int32))), .unset, .unset, .unset, .unset] [(.long q3), (.int (1 : Int32)), (.ref b28), (.ref b28)])) _
          exact k
        refine OwnG.st sg31 ?_
        obtain ⟨T32, h32, X32, e32, W32, V32, st32⟩ := own_stJ V30' X30 hx hZ e30 (by decide) (by decide) (gf := (mkF m 52 #[.val (.int p1), .val (.long q2), .second, .val (.long q3), .second, .val (.long q4), .second, .val (.int (p1 &&& (3 : Int32))), .unset, .unset, .unset, .unset] [(.long q3), (.int (1 : Int32)), (.ref b28), (.ref b28)])) rfl rfl (hb hby at_52)
        have V32' : OwnA Z h32 b28 .long 2 (jv' (upd (upd (fun _ => 0) 0 q2) 1 q3)) := V32
        have N32 := Fr.snoc X32 N30 gb_b28
        have Z32 : n0 ≤ h32.size := by rw [W32.size]; exact Z30
        refine OwnG.st st32 ?_
        show OwnG p e below s _ _ _ T32 (mkF m 53 #[.val (.int p1), .val (.long q2), .second, .val (.long q3), .second, .val (.long q4), .second, .val (.int (p1 &&& (3 : Int32))), .unset, .unset, .unset, .unset] [(.ref b28)])
        have hc82_33 : ¬ ((p1 &&& (3 : Int32)) < (2 : Int32)) := by rw [hc39_26]; decide
        have hc94_34 : (p1 &&& (3 : Int32)) < (3 : Int32) := by rw [hc39_26]; decide
        have hc106_35 : ¬ ((p1 &&& (3 : Int32)) = (0 : Int32)) := hc7_2
        have sg36 : ∀ t, Steps p.tables e below (T32.setTop (mkF m 127 #[.val (.int p1), .val (.long q2), .second, .val (.long q3), .second, .val (.long q4), .second, .val (.int (p1 &&& (3 : Int32))), .val (.ref b28), .val (.long (q2 &&& q3)), .second, .val (.int (((((q2 &&& q3).toUInt64 >>> ((32 : Int32) &&& 0x3f).toInt64.toUInt64).toInt64) &&& (4095 : Int64)).toInt32))] [(.ref b28)])) t → Steps p.tables e below (T32.setTop (mkF m 53 #[.val (.int p1), .val (.long q2), .second, .val (.long q3), .second, .val (.long q4), .second, .val (.int (p1 &&& (3 : Int32))), .unset, .unset, .unset, .unset] [(.ref b28)])) t := by
          intro t k
          refine XS.astore X32.here hx rfl (hb hby at_53) rfl rfl (l' := #[.val (.int p1), .val (.long q2), .second, .val (.long q3), .second, .val (.long q4), .second, .val (.int (p1 &&& (3 : Int32))), .val (.ref b28), .unset, .unset, .unset]) rfl ?_
          show Steps p.tables e below (T32.setTop (mkF m 55 #[.val (.int p1), .val (.long q2), .second, .val (.long q3), .second, .val (.long q4), .second, .val (.int (p1 &&& (3 : Int32))), .val (.ref b28), .unset, .unset, .unset] [])) _
          refine XS.goto X32.here hx rfl (pc0 := 55) (pc' := 76) rfl (hb hby at_55) (by decide) (by decide) ?_
          show Steps p.tables e below (T32.setTop (mkF m 76 #[.val (.int p1), .val (.long q2), .second, .val (.long q3), .second, .val (.long q4), .second, .val (.int (p1 &&& (3 : Int32))), .val (.ref b28), .unset, .unset, .unset] [])) _
          refine XS.lloadN X32.here hx rfl (hb hby at_76) rfl ?_
          show Steps p.tables e below (T32.setTop (mkF m 77 #[.val (.int p1), .val (.long q2), .second, .val (.long q3), .second, .val (.long q4), .second, .val (.int (p1 &&& (3 : Int32))), .val (.ref b28), .unset, .unset, .unset] [(.long q2)])) _
          refine XS.lstore X32.here hx rfl (hb hby at_77) rfl (l' := #[.val (.int p1), .val (.long q2), .second, .val (.long q3), .second, .val (.long q4), .second, .val (.int (p1 &&& (3 : Int32))), .val (.ref b28), .val (.long q2), .second, .unset]) rfl ?_
          show Steps p.tables e below (T32.setTop (mkF m 79 #[.val (.int p1), .val (.long q2), .second, .val (.long q3), .second, .val (.long q4), .second, .val (.int (p1 &&& (3 : Int32))), .val (.ref b28), .val (.long q2), .second, .unset] [])) _
          refine XS.iload X32.here hx rfl (hb hby at_79) rfl ?_
          show Steps p.tables e below (T32.setTop (mkF m 81 #[.val (.int p1), .val (.long q2), .second, .val (.long q3), .second, .val (.long q4), .second, .val (.int (p1 &&& (3 : Int32))), .val (.ref b28), .val (.long q2), .second, .unset] [(.int (p1 &&& (3 : Int32)))])) _
          refine XS.iconst X32.here hx rfl (hb hby at_81) ?_
          show Steps p.tables e below (T32.setTop (mkF m 82 #[.val (.int p1), .val (.long q2), .second, .val (.long q3), .second, .val (.long q4), .second, .val (.int (p1 &&& (3 : Int32))), .val (.ref b28), .val (.long q2), .second, .unset] [(.int (2 : Int32)), (.int (p1 &&& (3 : Int32)))])) _
          refine XS.icmpNo X32.here hx rfl (hb hby at_82) rfl (flt hc82_33).1 ?_
          show Steps p.tables e below (T32.setTop (mkF m 85 #[.val (.int p1), .val (.long q2), .second, .val (.long q3), .second, .val (.long q4), .second, .val (.int (p1 &&& (3 : Int32))), .val (.ref b28), .val (.long q2), .second, .unset] [])) _
          refine XS.lload X32.here hx rfl (hb hby at_85) rfl ?_
          show Steps p.tables e below (T32.setTop (mkF m 87 #[.val (.int p1), .val (.long q2), .second, .val (.long q3), .second, .val (.long q4), .second, .val (.int (p1 &&& (3 : Int32))), .val (.ref b28), .val (.long q2), .second, .unset] [(.long q2)])) _
          refine XS.lloadN X32.here hx rfl (hb hby at_87) rfl ?_
          show Steps p.tables e below (T32.setTop (mkF m 88 #[.val (.int p1), .val (.long q2), .second, .val (.long q3), .second, .val (.long q4), .second, .val (.int (p1 &&& (3 : Int32))), .val (.ref b28), .val (.long q2), .second, .unset] [(.long q3), (.long q2)])) _
          refine XS.land X32.here hx rfl (hb hby at_88) rfl ?_
          show Steps p.tables e below (T32.setTop (mkF m 89 #[.val (.int p1), .val (.long q2), .second, .val (.long q3), .second, .val (.long q4), .second, .val (.int (p1 &&& (3 : Int32))), .val (.ref b28), .val (.long q2), .second, .unset] [(.long (q2 &&& q3))])) _
          refine XS.lstore X32.here hx rfl (hb hby at_89) rfl (l' := #[.val (.int p1), .val (.long q2), .second, .val (.long q3), .second, .val (.long q4), .second, .val (.int (p1 &&& (3 : Int32))), .val (.ref b28), .val (.long (q2 &&& q3)), .second, .unset]) rfl ?_
          show Steps p.tables e below (T32.setTop (mkF m 91 #[.val (.int p1), .val (.long q2), .second, .val (.long q3), .second, .val (.long q4), .second, .val (.int (p1 &&& (3 : Int32))), .val (.ref b28), .val (.long (q2 &&& q3)), .second, .unset] [])) _
          refine XS.iload X32.here hx rfl (hb hby at_91) rfl ?_
          show Steps p.tables e below (T32.setTop (mkF m 93 #[.val (.int p1), .val (.long q2), .second, .val (.long q3), .second, .val (.long q4), .second, .val (.int (p1 &&& (3 : Int32))), .val (.ref b28), .val (.long (q2 &&& q3)), .second, .unset] [(.int (p1 &&& (3 : Int32)))])) _
          refine XS.iconst X32.here hx rfl (hb hby at_93) ?_
          show Steps p.tables e below (T32.setTop (mkF m 94 #[.val (.int p1), .val (.long q2), .second, .val (.long q3), .second, .val (.long q4), .second, .val (.int (p1 &&& (3 : Int32))), .val (.ref b28), .val (.long (q2 &&& q3)), .second, .unset] [(.int (3 : Int32)), (.int (p1 &&& (3 : Int32)))])) _
          refine XS.icmpYes X32.here hx rfl (pc0 := 94) (pc' := 104) rfl (hb hby at_94) rfl (tlt hc94_34).1 (by decide) (by decide) ?_
          show Steps p.tables e below (T32.setTop (mkF m 104 #[.val (.int p1), .val (.long q2), .second, .val (.long q3), .second, .val (.long q4), .second, .val (.int (p1 &&& (3 : Int32))), .val (.ref b28), .val (.long (q2 &&& q3)), .second, .unset] [])) _
          refine XS.iload X32.here hx rfl (hb hby at_104) rfl ?_
          show Steps p.tables e below (T32.setTop (mkF m 106 #[.val (.int p1), .val (.long q2), .second, .val (.long q3), .second, .val (.long q4), .second, .val (.int (p1 &&& (3 : Int32))), .val (.ref b28), .val (.long (q2 &&& q3)), .second, .unset] [(.int (p1 &&& (3 : Int32)))])) _
          refine XS.ifYes X32.here hx rfl (pc0 := 106) (pc' := 113) rfl (hb hby at_106) rfl ((if0 _ _).trans (feq hc106_35).2) (by decide) (by decide) ?_
          show Steps p.tables e below (T32.setTop (mkF m 113 #[.val (.int p1), .val (.long q2), .second, .val (.long q3), .second, .val (.long q4), .second, .val (.int (p1 &&& (3 : Int32))), .val (.ref b28), .val (.long (q2 &&& q3)), .second, .unset] [])) _
          refine XS.lload X32.here hx rfl (hb hby at_113) rfl ?_
          show Steps p.tables e below (T32.setTop (mkF m 115 #[.val (.int p1), .val (.long q2), .second, .val (.long q3), .second, .val (.long q4), .second, .val (.int (p1 &&& (3 : Int32))), .val (.ref b28), .val (.long (q2 &&& q3)), .second, .unset] [(.long (q2 &&& q3))])) _
          refine XS.bipush X32.here hx rfl (hb hby at_115) ?_
          show Steps p.tables e below (T32.setTop (mkF m 117 #[.val (.int p1), .val (.long q2), .second, .val (.long q3), .second, .val (.long q4), .second, .val (.int (p1 &&& (3 : Int32))), .val (.ref b28), .val (.long (q2 &&& q3)), .second, .unset] [(.int (32 : Int32)), (.long (q2 &&& q3))])) _
          refine XS.lushr X32.here hx rfl (hb hby at_117) rfl ?_
          show Steps p.tables e below (T32.setTop (mkF m 118 #[.val (.int p1), .val (.long q2), .second, .val (.long q3), .second, .val (.long q4), .second, .val (.int (p1 &&& (3 : Int32))), .val (.ref b28), .val (.long (q2 &&& q3)), .second, .unset] [(.long (((q2 &&& q3).toUInt64 >>> ((32 : Int32) &&& 0x3f).toInt64.toUInt64).toInt64))])) _
          refine X32.ldc2Long hx hown (mvT hZ (hw _ (List.mem_of_getElem? (i := 5) rfl))) (g := (mkF m 118 #[.val (.int p1), .val (.long q2), .second, .val (.long q3), .second, .val (.long q4), .second, .val (.int (p1 &&& (3 : Int32))), .val (.ref b28), .val (.long (q2 &&& q3)), .second, .unset] [(.long (((q2 &&& q3).toUInt64 >>> ((32 : Int32) &&& 0x3f).toInt64.toUInt64).toInt64))])) rfl (hb hby at_118) _ ?_
          show Steps p.tables e below (T32.setTop (mkF m 121 #[.val (.int p1), .val (.long q2), .second, .val (.long q3), .second, .val (.long q4), .second, .val (.int (p1 &&& (3 : Int32))), .val (.ref b28), .val (.long (q2 &&& q3)), .second, .unset] [(.long (4095 : Int64)), (.long (((q2 &&& q3).toUInt64 >>> ((32 : Int32) &&& 0x3f).toInt64.toUInt64).toInt64))])) _
          refine XS.land X32.here hx rfl (hb hby at_121) rfl ?_
          show Steps p.tables e below (T32.setTop (mkF m 122 #[.val (.int p1), .val (.long q2), .second, .val (.long q3), .second, .val (.long q4), .second, .val (.int (p1 &&& (3 : Int32))), .val (.ref b28), .val (.long (q2 &&& q3)), .second, .unset] [(.long ((((q2 &&& q3).toUInt64 >>> ((32 : Int32) &&& 0x3f).toInt64.toUInt64).toInt64) &&& (4095 : Int64)))])) _
          refine XS.l2i X32.here hx rfl (hb hby at_122) rfl ?_
          show Steps p.tables e below (T32.setTop (mkF m 123 #[.val (.int p1), .val (.long q2), .second, .val (.long q3), .second, .val (.long q4), .second, .val (.int (p1 &&& (3 : Int32))), .val (.ref b28), .val (.long (q2 &&& q3)), .second, .unset] [(.int (((((q2 &&& q3).toUInt64 >>> ((32 : Int32) &&& 0x3f).toInt64.toUInt64).toInt64) &&& (4095 : Int64)).toInt32))])) _
          refine XS.istore X32.here hx rfl (hb hby at_123) rfl (l' := #[.val (.int p1), .val (.long q2), .second, .val (.long q3), .second, .val (.long q4), .second, .val (.int (p1 &&& (3 : Int32))), .val (.ref b28), .val (.long (q2 &&& q3)), .second, .val (.int (((((q2 &&& q3).toUInt64 >>> ((32 : Int32) &&& 0x3f).toInt64.toUInt64).toInt64) &&& (4095 : Int64)).toInt32))]) rfl ?_
          show Steps p.tables e below (T32.setTop (mkF m 125 #[.val (.int p1), .val (.long q2), .second, .val (.long q3), .second, .val (.long q4), .second, .val (.int (p1 &&& (3 : Int32))), .val (.ref b28), .val (.long (q2 &&& q3)), .second, .val (.int (((((q2 &&& q3).toUInt64 >>> ((32 : Int32) &&& 0x3f).toInt64.toUInt64).toInt64) &&& (4095 : Int64)).toInt32))] [])) _
          refine XS.aload X32.here hx rfl (hb hby at_125) rfl rfl ?_
          show Steps p.tables e below (T32.setTop (mkF m 127 #[.val (.int p1), .val (.long q2), .second, .val (.long q3), .second, .val (.long q4), .second, .val (.int (p1 &&& (3 : Int32))), .val (.ref b28), .val (.long (q2 &&& q3)), .second, .val (.int (((((q2 &&& q3).toUInt64 >>> ((32 : Int32) &&& 0x3f).toInt64.toUInt64).toInt64) &&& (4095 : Int64)).toInt32))] [(.ref b28)])) _
          exact k
        refine OwnG.st sg36 ?_
        obtain ⟨_, _, ⟨T37, L37, k37, n37⟩, -, X37, ⟨Lc37, hQ37, l37, y37, z37⟩, st37⟩ := Jvm.LawKit.callS X32 hx (y := (⟨"com/example/weiche/weiche/explicit/Concurrency", "together", "([J)I"⟩ : MethodName)) hown (mvT hZ (hw _ (List.mem_of_getElem? (i := 1) rfl))) (mvT hZ (hw _ (List.mem_of_getElem? (i := 2) rfl))) (mvT hZ (hw _ (List.mem_of_getElem? (i := 3) rfl))) (mvT hZ (hw _ (List.mem_of_getElem? (i := 4) rfl))) (by decide) (backOf (W := 0) (rm1 l Z a0 hw [] b28 2 (upd (upd (fun _ => 0) 0 q2) 1 q3) h32 n0 Z32 V32' (by decide)) hZ (hw _ (List.mem_of_getElem? (i := 4) rfl)) (hw _ (List.mem_of_getElem? (i := 3) rfl)) (by decide) (by decide)) (g := (mkF m 127 #[.val (.int p1), .val (.long q2), .second, .val (.long q3), .second, .val (.long q4), .second, .val (.int (p1 &&& (3 : Int32))), .val (.ref b28), .val (.long (q2 &&& q3)), .second, .val (.int (((((q2 &&& q3).toUInt64 >>> ((32 : Int32) &&& 0x3f).toInt64.toUInt64).toInt64) &&& (4095 : Int64)).toInt32))] [(.ref b28)])) rfl (by rw [hml]; rfl) (argsL := [(.ref b28)]) (rest := []) (lenOf pd_0_0 rfl) rfl (by show 2 * 0 + _ ≤ _; exact Nat.le_of_eq rfl) (hb hby at_127) (fun _ _ => ⟨rfl, e32, (by decide : 1 + 0 ≤ _), (by decide : 2 + 0 ≤ _)⟩)
        dsimp only [Pt.U, Pt.locs, Pt.cells, Pt.slots] at X37 l37 y37 z37 st37 hQ37
        subst l37 y37 z37
        obtain ⟨rfl, N37q, e37⟩ := hQ37
        have N37 := Fr.app N32 N37q
        refine OwnG.st (fun t k => st37 t k) ?_
        show OwnG p e below s _ _ _ T37 (mkF m 130 #[.val (.int p1), .val (.long q2), .second, .val (.long q3), .second, .val (.long q4), .second, .val (.int (p1 &&& (3 : Int32))), .val (.ref b28), .val (.long (q2 &&& q3)), .second, .val (.int (((((q2 &&& q3).toUInt64 >>> ((32 : Int32) &&& 0x3f).toInt64.toUInt64).toInt64) &&& (4095 : Int64)).toInt32))] [(.int (F1 2 (upd (upd (fun _ => 0) 0 q2) 1 q3)))])
        have hc132_38 : (F1 2 (upd (upd (fun _ => 0) 0 q2) 1 q3)) = (((((q2 &&& q3).toUInt64 >>> ((32 : Int32) &&& 0x3f).toInt64.toUInt64).toInt64) &&& (4095 : Int64)).toInt32) := own_g2 _ _ _ rfl rfl
        have sg39 : ∀ t, Steps p.tables e below (T37.setTop (mkF m 140 #[.val (.int p1), .val (.long q2), .second, .val (.long q3), .second, .val (.long q4), .second, .val (.int (p1 &&& (3 : Int32))), .val (.ref b28), .val (.long (q2 &&& q3)), .second, .val (.int (((((q2 &&& q3).toUInt64 >>> ((32 : Int32) &&& 0x3f).toInt64.toUInt64).toInt64) &&& (4095 : Int64)).toInt32))] [(.int (1 : Int32))])) t → Steps p.tables e below (T37.setTop (mkF m 130 #[.val (.int p1), .val (.long q2), .second, .val (.long q3), .second, .val (.long q4), .second, .val (.int (p1 &&& (3 : Int32))), .val (.ref b28), .val (.long (q2 &&& q3)), .second, .val (.int (((((q2 &&& q3).toUInt64 >>> ((32 : Int32) &&& 0x3f).toInt64.toUInt64).toInt64) &&& (4095 : Int64)).toInt32))] [(.int (F1 2 (upd (upd (fun _ => 0) 0 q2) 1 q3)))])) t := by
          intro t k
          refine XS.iload X37.here hx rfl (hb hby at_130) rfl ?_
          show Steps p.tables e below (T37.setTop (mkF m 132 #[.val (.int p1), .val (.long q2), .second, .val (.long q3), .second, .val (.long q4), .second, .val (.int (p1 &&& (3 : Int32))), .val (.ref b28), .val (.long (q2 &&& q3)), .second, .val (.int (((((q2 &&& q3).toUInt64 >>> ((32 : Int32) &&& 0x3f).toInt64.toUInt64).toInt64) &&& (4095 : Int64)).toInt32))] [(.int (((((q2 &&& q3).toUInt64 >>> ((32 : Int32) &&& 0x3f).toInt64.toUInt64).toInt64) &&& (4095 : Int64)).toInt32)), (.int (F1 2 (upd (upd (fun _ => 0) 0 q2) 1 q3)))])) _
          refine XS.icmpNo X37.here hx rfl (hb hby at_132) rfl (teq hc132_38).2 ?_
          show Steps p.tables e below (T37.setTop (mkF m 135 #[.val (.int p1), .val (.long q2), .second, .val (.long q3), .second, .val (.long q4), .second, .val (.int (p1 &&& (3 : Int32))), .val (.ref b28), .val (.long (q2 &&& q3)), .second, .val (.int (((((q2 &&& q3).toUInt64 >>> ((32 : Int32) &&& 0x3f).toInt64.toUInt64).toInt64) &&& (4095 : Int64)).toInt32))] [])) _
          refine XS.iconst X37.here hx rfl (hb hby at_135) ?_
          show Steps p.tables e below (T37.setTop (mkF m 136 #[.val (.int p1), .val (.long q2), .second, .val (.long q3), .second, .val (.long q4), .second, .val (.int (p1 &&& (3 : Int32))), .val (.ref b28), .val (.long (q2 &&& q3)), .second, .val (.int (((((q2 &&& q3).toUInt64 >>> ((32 : Int32) &&& 0x3f).toInt64.toUInt64).toInt64) &&& (4095 : Int64)).toInt32))] [(.int (1 : Int32))])) _
          refine XS.goto X37.here hx rfl (pc0 := 136) (pc' := 140) rfl (hb hby at_136) (by decide) (by decide) ?_
          show Steps p.tables e below (T37.setTop (mkF m 140 #[.val (.int p1), .val (.long q2), .second, .val (.long q3), .second, .val (.long q4), .second, .val (.int (p1 &&& (3 : Int32))), .val (.ref b28), .val (.long (q2 &&& q3)), .second, .val (.int (((((q2 &&& q3).toUInt64 >>> ((32 : Int32) &&& 0x3f).toInt64.toUInt64).toInt64) &&& (4095 : Int64)).toInt32))] [(.int (1 : Int32))])) _
          exact k
        refine OwnG.st sg39 ?_
        have hv : (1 : Int32) = 1 := rfl
        exact OwnG.retN X37 hx (t := .boolean) (by simp) Bd.returns (BodyLoose.notSynchronized Bd) (hb hby at_140) ⟨congrArg (fun w => some (Value.int (nar .boolean w))) hv, N37⟩ (by decide) (by decide)
      · have sg40 : ∀ t, Steps p.tables e below (s₁.setTop (mkF m 59 #[.val (.int p1), .val (.long q2), .second, .val (.long q3), .second, .val (.long q4), .second, .val (.int (p1 &&& (3 : Int32))), .unset, .unset, .unset, .unset] [(.int (3 : Int32))])) t → Steps p.tables e below (s₁.setTop (mkF m 39 #[.val (.int p1), .val (.long q2), .second, .val (.long q3), .second, .val (.long q4), .second, .val (.int (p1 &&& (3 : Int32))), .unset, .unset, .unset, .unset] [(.int (2 : Int32)), (.int (p1 &&& (3 : Int32)))])) t := by
          intro t k
          refine XS.icmpYes X0.here hx rfl (pc0 := 39) (pc' := 58) rfl (hb hby at_39) rfl (feq hc39_26).2 (by decide) (by decide) ?_
          show Steps p.tables e below (s₁.setTop (mkF m 58 #[.val (.int p1), .val (.long q2), .second, .val (.long q3), .second, .val (.long q4), .second, .val (.int (p1 &&& (3 : Int32))), .unset, .unset, .unset, .unset] [])) _
          refine XS.iconst X0.here hx rfl (hb hby at_58) ?_
          show Steps p.tables e below (s₁.setTop (mkF m 59 #[.val (.int p1), .val (.long q2), .second, .val (.long q3), .second, .val (.long q4), .second, .val (.int (p1 &&& (3 : Int32))), .unset, .unset, .unset, .unset] [(.int (3 : Int32))])) _
          exact k
        refine OwnG.st sg40 ?_
        obtain ⟨T41, h41, k41, X41, e41, E41, A41, st41⟩ := newP X0 hx hZ (hw _ (List.mem_of_getElem? (i := 0) rfl)) e0 (g := (mkF m 59 #[.val (.int p1), .val (.long q2), .second, .val (.long q3), .second, .val (.long q4), .second, .val (.int (p1 &&& (3 : Int32))), .unset, .unset, .unset, .unset] [(.int (3 : Int32))])) rfl (hb hby at_59) rfl (by decide) (cap := 3) (by decide) (by decide) (by decide) (by decide)
        obtain ⟨b41, g41⟩ : ∃ z, z = h0.size := ⟨_, rfl⟩
        rw [← g41] at A41 st41
        have V41 : OwnA Z h41 b41 .long 3 (jv' fun _ => 0) := own_newA A41 (by decide)
        have gb_b41 : n0 ≤ b41 := Nat.le_trans Z0 (Nat.le_of_eq g41.symm)
        have Z41 : n0 ≤ h41.size := Nat.le_trans Z0 E41.1
        refine OwnG.st st41 ?_
        show OwnG p e below s _ _ _ T41 (mkF m 61 #[.val (.int p1), .val (.long q2), .second, .val (.long q3), .second, .val (.long q4), .second, .val (.int (p1 &&& (3 : Int32))), .unset, .unset, .unset, .unset] [(.ref b41)])
        have sg42 : ∀ t, Steps p.tables e below (T41.setTop (mkF m 64 #[.val (.int p1), .val (.long q2), .second, .val (.long q3), .second, .val (.long q4), .second, .val (.int (p1 &&& (3 : Int32))), .unset, .unset, .unset, .unset] [(.long q2), (.int (0 : Int32)), (.ref b41), (.ref b41)])) t → Steps p.tables e below (T41.setTop (mkF m 61 #[.val (.int p1), .val (.long q2), .second, .val (.long q3), .second, .val (.long q4), .second, .val (.int (p1 &&& (3 : Int32))), .unset, .unset, .unset, .unset] [(.ref b41)])) t := by
          intro t k
          refine XS.dup X41.here hx rfl (hb hby at_61) rfl rfl ?_
          show Steps p.tables e below (T41.setTop (mkF m 62 #[.val (.int p1), .val (.long q2), .second, .val (.long q3), .second, .val (.long q4), .second, .val (.int (p1 &&& (3 : Int32))), .unset, .unset, .unset, .unset] [(.ref b41), (.ref b41)])) _
          refine XS.iconst X41.here hx rfl (hb hby at_62) ?_
          show Steps p.tables e below (T41.setTop (mkF m 63 #[.val (.int p1), .val (.long q2), .second, .val (.long q3), .second, .val (.long q4), .second, .val (.int (p1 &&& (3 : Int32))), .unset, .unset, .unset, .unset] [(.int (0 : Int32)), (.ref b41), (.ref b41)])) _
          refine XS.lloadN X41.here hx rfl (hb hby at_63) rfl ?_
          show Steps p.tables e below (T41.setTop (mkF m 64 #[.val (.int p1), .val (.long q2), .second, .val (.long q3), .second, .val (.long q4), .second, .val (.int (p1 &&& (3 : Int32))), .unset, .unset, .unset, .unset] [(.long q2), (.int (0 : Int32)), (.ref b41), (.ref b41)])) _
          exact k
        refine OwnG.st sg42 ?_
        obtain ⟨T43, h43, X43, e43, W43, V43, st43⟩ := own_stJ V41 X41 hx hZ e41 (by decide) (by decide) (gf := (mkF m 64 #[.val (.int p1), .val (.long q2), .second, .val (.long q3), .second, .val (.long q4), .second, .val (.int (p1 &&& (3 : Int32))), .unset, .unset, .unset, .unset] [(.long q2), (.int (0 : Int32)), (.ref b41), (.ref b41)])) rfl rfl (hb hby at_64)
        have V43' : OwnA Z h43 b41 .long 3 (jv' (upd (fun _ => 0) 0 q2)) := V43
        have N43 := Fr.snoc X43 N0 gb_b41
        have Z43 : n0 ≤ h43.size := by rw [W43.size]; exact Z41
        refine OwnG.st st43 ?_
        show OwnG p e below s _ _ _ T43 (mkF m 65 #[.val (.int p1), .val (.long q2), .second, .val (.long q3), .second, .val (.long q4), .second, .val (.int (p1 &&& (3 : Int32))), .unset, .unset, .unset, .unset] [(.ref b41)])
        have sg44 : ∀ t, Steps p.tables e below (T43.setTop (mkF m 68 #[.val (.int p1), .val (.long q2), .second, .val (.long q3), .second, .val (.long q4), .second, .val (.int (p1 &&& (3 : Int32))), .unset, .unset, .unset, .unset] [(.long q3), (.int (1 : Int32)), (.ref b41), (.ref b41)])) t → Steps p.tables e below (T43.setTop (mkF m 65 #[.val (.int p1), .val (.long q2), .second, .val (.long q3), .second, .val (.long q4), .second, .val (.int (p1 &&& (3 : Int32))), .unset, .unset, .unset, .unset] [(.ref b41)])) t := by
          intro t k
          refine XS.dup X43.here hx rfl (hb hby at_65) rfl rfl ?_
          show Steps p.tables e below (T43.setTop (mkF m 66 #[.val (.int p1), .val (.long q2), .second, .val (.long q3), .second, .val (.long q4), .second, .val (.int (p1 &&& (3 : Int32))), .unset, .unset, .unset, .unset] [(.ref b41), (.ref b41)])) _
          refine XS.iconst X43.here hx rfl (hb hby at_66) ?_
          show Steps p.tables e below (T43.setTop (mkF m 67 #[.val (.int p1), .val (.long q2), .second, .val (.long q3), .second, .val (.long q4), .second, .val (.int (p1 &&& (3 : Int32))), .unset, .unset, .unset, .unset] [(.int (1 : Int32)), (.ref b41), (.ref b41)])) _
          refine XS.lloadN X43.here hx rfl (hb hby at_67) rfl ?_
          show Steps p.tables e below (T43.setTop (mkF m 68 #[.val (.int p1), .val (.long q2), .second, .val (.long q3), .second, .val (.long q4), .second, .val (.int (p1 &&& (3 : Int32))), .unset, .unset, .unset, .unset] [(.long q3), (.int (1 : Int32)), (.ref b41), (.ref b41)])) _
          exact k
        refine OwnG.st sg44 ?_
        obtain ⟨T45, h45, X45, e45, W45, V45, st45⟩ := own_stJ V43' X43 hx hZ e43 (by decide) (by decide) (gf := (mkF m 68 #[.val (.int p1), .val (.long q2), .second, .val (.long q3), .second, .val (.long q4), .second, .val (.int (p1 &&& (3 : Int32))), .unset, .unset, .unset, .unset] [(.long q3), (.int (1 : Int32)), (.ref b41), (.ref b41)])) rfl rfl (hb hby at_68)
        have V45' : OwnA Z h45 b41 .long 3 (jv' (upd (upd (fun _ => 0) 0 q2) 1 q3)) := V45
        have N45 := Fr.snoc X45 N43 gb_b41
        have Z45 : n0 ≤ h45.size := by rw [W45.size]; exact Z43
        refine OwnG.st st45 ?_
        show OwnG p e below s _ _ _ T45 (mkF m 69 #[.val (.int p1), .val (.long q2), .second, .val (.long q3), .second, .val (.long q4), .second, .val (.int (p1 &&& (3 : Int32))), .unset, .unset, .unset, .unset] [(.ref b41)])
        have sg46 : ∀ t, Steps p.tables e below (T45.setTop (mkF m 73 #[.val (.int p1), .val (.long q2), .second, .val (.long q3), .second, .val (.long q4), .second, .val (.int (p1 &&& (3 : Int32))), .unset, .unset, .unset, .unset] [(.long q4), (.int (2 : Int32)), (.ref b41), (.ref b41)])) t → Steps p.tables e below (T45.setTop (mkF m 69 #[.val (.int p1), .val (.long q2), .second, .val (.long q3), .second, .val (.long q4), .second, .val (.int (p1 &&& (3 : Int32))), .unset, .unset, .unset, .unset] [(.ref b41)])) t := by
          intro t k
          refine XS.dup X45.here hx rfl (hb hby at_69) rfl rfl ?_
          show Steps p.tables e below (T45.setTop (mkF m 70 #[.val (.int p1), .val (.long q2), .second, .val (.long q3), .second, .val (.long q4), .second, .val (.int (p1 &&& (3 : Int32))), .unset, .unset, .unset, .unset] [(.ref b41), (.ref b41)])) _
          refine XS.iconst X45.here hx rfl (hb hby at_70) ?_
          show Steps p.tables e below (T45.setTop (mkF m 71 #[.val (.int p1), .val (.long q2), .second, .val (.long q3), .second, .val (.long q4), .second, .val (.int (p1 &&& (3 : Int32))), .unset, .unset, .unset, .unset] [(.int (2 : Int32)), (.ref b41), (.ref b41)])) _
          refine XS.lload X45.here hx rfl (hb hby at_71) rfl ?_
          show Steps p.tables e below (T45.setTop (mkF m 73 #[.val (.int p1), .val (.long q2), .second, .val (.long q3), .second, .val (.long q4), .second, .val (.int (p1 &&& (3 : Int32))), .unset, .unset, .unset, .unset] [(.long q4), (.int (2 : Int32)), (.ref b41), (.ref b41)])) _
          exact k
        refine OwnG.st sg46 ?_
        obtain ⟨T47, h47, X47, e47, W47, V47, st47⟩ := own_stJ V45' X45 hx hZ e45 (by decide) (by decide) (gf := (mkF m 73 #[.val (.int p1), .val (.long q2), .second, .val (.long q3), .second, .val (.long q4), .second, .val (.int (p1 &&& (3 : Int32))), .unset, .unset, .unset, .unset] [(.long q4), (.int (2 : Int32)), (.ref b41), (.ref b41)])) rfl rfl (hb hby at_73)
        have V47' : OwnA Z h47 b41 .long 3 (jv' (upd (upd (upd (fun _ => 0) 0 q2) 1 q3) 2 q4)) := V47
        have N47 := Fr.snoc X47 N45 gb_b41
        have Z47 : n0 ≤ h47.size := by rw [W47.size]; exact Z45
        refine OwnG.st st47 ?_
        show OwnG p e below s _ _ _ T47 (mkF m 74 #[.val (.int p1), .val (.long q2), .second, .val (.long q3), .second, .val (.long q4), .second, .val (.int (p1 &&& (3 : Int32))), .unset, .unset, .unset, .unset] [(.ref b41)])
        have hc82_48 : ¬ ((p1 &&& (3 : Int32)) < (2 : Int32)) := by rw [(own_3 _ hc7_2 hc21_13 hc39_26)]; decide
        have hc94_49 : ¬ ((p1 &&& (3 : Int32)) < (3 : Int32)) := by rw [(own_3 _ hc7_2 hc21_13 hc39_26)]; decide
        have hc106_50 : ¬ ((p1 &&& (3 : Int32)) = (0 : Int32)) := hc7_2
        have sg51 : ∀ t, Steps p.tables e below (T47.setTop (mkF m 127 #[.val (.int p1), .val (.long q2), .second, .val (.long q3), .second, .val (.long q4), .second, .val (.int (p1 &&& (3 : Int32))), .val (.ref b41), .val (.long ((q2 &&& q3) &&& q4)), .second, .val (.int ((((((q2 &&& q3) &&& q4).toUInt64 >>> ((32 : Int32) &&& 0x3f).toInt64.toUInt64).toInt64) &&& (4095 : Int64)).toInt32))] [(.ref b41)])) t → Steps p.tables e below (T47.setTop (mkF m 74 #[.val (.int p1), .val (.long q2), .second, .val (.long q3), .second, .val (.long q4), .second, .val (.int (p1 &&& (3 : Int32))), .unset, .unset, .unset, .unset] [(.ref b41)])) t := by
          intro t k
          refine XS.astore X47.here hx rfl (hb hby at_74) rfl rfl (l' := #[.val (.int p1), .val (.long q2), .second, .val (.long q3), .second, .val (.long q4), .second, .val (.int (p1 &&& (3 : Int32))), .val (.ref b41), .unset, .unset, .unset]) rfl ?_
          show Steps p.tables e below (T47.setTop (mkF m 76 #[.val (.int p1), .val (.long q2), .second, .val (.long q3), .second, .val (.long q4), .second, .val (.int (p1 &&& (3 : Int32))), .val (.ref b41), .unset, .unset, .unset] [])) _
          refine XS.lloadN X47.here hx rfl (hb hby at_76) rfl ?_
          show Steps p.tables e below (T47.setTop (mkF m 77 #[.val (.int p1), .val (.long q2), .second, .val (.long q3), .second, .val (.long q4), .second, .val (.int (p1 &&& (3 : Int32))), .val (.ref b41), .unset, .unset, .unset] [(.long q2)])) _
          refine XS.lstore X47.here hx rfl (hb hby at_77) rfl (l' := #[.val (.int p1), .val (.long q2), .second, .val (.long q3), .second, .val (.long q4), .second, .val (.int (p1 &&& (3 : Int32))), .val (.ref b41), .val (.long q2), .second, .unset]) rfl ?_
          show Steps p.tables e below (T47.setTop (mkF m 79 #[.val (.int p1), .val (.long q2), .second, .val (.long q3), .second, .val (.long q4), .second, .val (.int (p1 &&& (3 : Int32))), .val (.ref b41), .val (.long q2), .second, .unset] [])) _
          refine XS.iload X47.here hx rfl (hb hby at_79) rfl ?_
          show Steps p.tables e below (T47.setTop (mkF m 81 #[.val (.int p1), .val (.long q2), .second, .val (.long q3), .second, .val (.long q4), .second, .val (.int (p1 &&& (3 : Int32))), .val (.ref b41), .val (.long q2), .second, .unset] [(.int (p1 &&& (3 : Int32)))])) _
          refine XS.iconst X47.here hx rfl (hb hby at_81) ?_
          show Steps p.tables e below (T47.setTop (mkF m 82 #[.val (.int p1), .val (.long q2), .second, .val (.long q3), .second, .val (.long q4), .second, .val (.int (p1 &&& (3 : Int32))), .val (.ref b41), .val (.long q2), .second, .unset] [(.int (2 : Int32)), (.int (p1 &&& (3 : Int32)))])) _
          refine XS.icmpNo X47.here hx rfl (hb hby at_82) rfl (flt hc82_48).1 ?_
          show Steps p.tables e below (T47.setTop (mkF m 85 #[.val (.int p1), .val (.long q2), .second, .val (.long q3), .second, .val (.long q4), .second, .val (.int (p1 &&& (3 : Int32))), .val (.ref b41), .val (.long q2), .second, .unset] [])) _
          refine XS.lload X47.here hx rfl (hb hby at_85) rfl ?_
          show Steps p.tables e below (T47.setTop (mkF m 87 #[.val (.int p1), .val (.long q2), .second, .val (.long q3), .second, .val (.long q4), .second, .val (.int (p1 &&& (3 : Int32))), .val (.ref b41), .val (.long q2), .second, .unset] [(.long q2)])) _
          refine XS.lloadN X47.here hx rfl (hb hby at_87) rfl ?_
          show Steps p.tables e below (T47.setTop (mkF m 88 #[.val (.int p1), .val (.long q2), .second, .val (.long q3), .second, .val (.long q4), .second, .val (.int (p1 &&& (3 : Int32))), .val (.ref b41), .val (.long q2), .second, .unset] [(.long q3), (.long q2)])) _
          refine XS.land X47.here hx rfl (hb hby at_88) rfl ?_
          show Steps p.tables e below (T47.setTop (mkF m 89 #[.val (.int p1), .val (.long q2), .second, .val (.long q3), .second, .val (.long q4), .second, .val (.int (p1 &&& (3 : Int32))), .val (.ref b41), .val (.long q2), .second, .unset] [(.long (q2 &&& q3))])) _
          refine XS.lstore X47.here hx rfl (hb hby at_89) rfl (l' := #[.val (.int p1), .val (.long q2), .second, .val (.long q3), .second, .val (.long q4), .second, .val (.int (p1 &&& (3 : Int32))), .val (.ref b41), .val (.long (q2 &&& q3)), .second, .unset]) rfl ?_
          show Steps p.tables e below (T47.setTop (mkF m 91 #[.val (.int p1), .val (.long q2), .second, .val (.long q3), .second, .val (.long q4), .second, .val (.int (p1 &&& (3 : Int32))), .val (.ref b41), .val (.long (q2 &&& q3)), .second, .unset] [])) _
          refine XS.iload X47.here hx rfl (hb hby at_91) rfl ?_
          show Steps p.tables e below (T47.setTop (mkF m 93 #[.val (.int p1), .val (.long q2), .second, .val (.long q3), .second, .val (.long q4), .second, .val (.int (p1 &&& (3 : Int32))), .val (.ref b41), .val (.long (q2 &&& q3)), .second, .unset] [(.int (p1 &&& (3 : Int32)))])) _
          refine XS.iconst X47.here hx rfl (hb hby at_93) ?_
          show Steps p.tables e below (T47.setTop (mkF m 94 #[.val (.int p1), .val (.long q2), .second, .val (.long q3), .second, .val (.long q4), .second, .val (.int (p1 &&& (3 : Int32))), .val (.ref b41), .val (.long (q2 &&& q3)), .second, .unset] [(.int (3 : Int32)), (.int (p1 &&& (3 : Int32)))])) _
          refine XS.icmpNo X47.here hx rfl (hb hby at_94) rfl (flt hc94_49).1 ?_
          show Steps p.tables e below (T47.setTop (mkF m 97 #[.val (.int p1), .val (.long q2), .second, .val (.long q3), .second, .val (.long q4), .second, .val (.int (p1 &&& (3 : Int32))), .val (.ref b41), .val (.long (q2 &&& q3)), .second, .unset] [])) _
          refine XS.lload X47.here hx rfl (hb hby at_97) rfl ?_
          show Steps p.tables e below (T47.setTop (mkF m 99 #[.val (.int p1), .val (.long q2), .second, .val (.long q3), .second, .val (.long q4), .second, .val (.int (p1 &&& (3 : Int32))), .val (.ref b41), .val (.long (q2 &&& q3)), .second, .unset] [(.long (q2 &&& q3))])) _
          refine XS.lload X47.here hx rfl (hb hby at_99) rfl ?_
          show Steps p.tables e below (T47.setTop (mkF m 101 #[.val (.int p1), .val (.long q2), .second, .val (.long q3), .second, .val (.long q4), .second, .val (.int (p1 &&& (3 : Int32))), .val (.ref b41), .val (.long (q2 &&& q3)), .second, .unset] [(.long q4), (.long (q2 &&& q3))])) _
          refine XS.land X47.here hx rfl (hb hby at_101) rfl ?_
          show Steps p.tables e below (T47.setTop (mkF m 102 #[.val (.int p1), .val (.long q2), .second, .val (.long q3), .second, .val (.long q4), .second, .val (.int (p1 &&& (3 : Int32))), .val (.ref b41), .val (.long (q2 &&& q3)), .second, .unset] [(.long ((q2 &&& q3) &&& q4))])) _
          refine XS.lstore X47.here hx rfl (hb hby at_102) rfl (l' := #[.val (.int p1), .val (.long q2), .second, .val (.long q3), .second, .val (.long q4), .second, .val (.int (p1 &&& (3 : Int32))), .val (.ref b41), .val (.long ((q2 &&& q3) &&& q4)), .second, .unset]) rfl ?_
          show Steps p.tables e below (T47.setTop (mkF m 104 #[.val (.int p1), .val (.long q2), .second, .val (.long q3), .second, .val (.long q4), .second, .val (.int (p1 &&& (3 : Int32))), .val (.ref b41), .val (.long ((q2 &&& q3) &&& q4)), .second, .unset] [])) _
          refine XS.iload X47.here hx rfl (hb hby at_104) rfl ?_
          show Steps p.tables e below (T47.setTop (mkF m 106 #[.val (.int p1), .val (.long q2), .second, .val (.long q3), .second, .val (.long q4), .second, .val (.int (p1 &&& (3 : Int32))), .val (.ref b41), .val (.long ((q2 &&& q3) &&& q4)), .second, .unset] [(.int (p1 &&& (3 : Int32)))])) _
          refine XS.ifYes X47.here hx rfl (pc0 := 106) (pc' := 113) rfl (hb hby at_106) rfl ((if0 _ _).trans (feq hc106_50).2) (by decide) (by decide) ?_
          show Steps p.tables e below (T47.setTop (mkF m 113 #[.val (.int p1), .val (.long q2), .second, .val (.long q3), .second, .val (.long q4), .second, .val (.int (p1 &&& (3 : Int32))), .val (.ref b41), .val (.long ((q2 &&& q3) &&& q4)), .second, .unset] [])) _
          refine XS.lload X47.here hx rfl (hb hby at_113) rfl ?_
          show Steps p.tables e below (T47.setTop (mkF m 115 #[.val (.int p1), .val (.long q2), .second, .val (.long q3), .second, .val (.long q4), .second, .val (.int (p1 &&& (3 : Int32))), .val (.ref b41), .val (.long ((q2 &&& q3) &&& q4)), .second, .unset] [(.long ((q2 &&& q3) &&& q4))])) _
          refine XS.bipush X47.here hx rfl (hb hby at_115) ?_
          show Steps p.tables e below (T47.setTop (mkF m 117 #[.val (.int p1), .val (.long q2), .second, .val (.long q3), .second, .val (.long q4), .second, .val (.int (p1 &&& (3 : Int32))), .val (.ref b41), .val (.long ((q2 &&& q3) &&& q4)), .second, .unset] [(.int (32 : Int32)), (.long ((q2 &&& q3) &&& q4))])) _
          refine XS.lushr X47.here hx rfl (hb hby at_117) rfl ?_
          show Steps p.tables e below (T47.setTop (mkF m 118 #[.val (.int p1), .val (.long q2), .second, .val (.long q3), .second, .val (.long q4), .second, .val (.int (p1 &&& (3 : Int32))), .val (.ref b41), .val (.long ((q2 &&& q3) &&& q4)), .second, .unset] [(.long ((((q2 &&& q3) &&& q4).toUInt64 >>> ((32 : Int32) &&& 0x3f).toInt64.toUInt64).toInt64))])) _
          refine X47.ldc2Long hx hown (mvT hZ (hw _ (List.mem_of_getElem? (i := 5) rfl))) (g := (mkF m 118 #[.val (.int p1), .val (.long q2), .second, .val (.long q3), .second, .val (.long q4), .second, .val (.int (p1 &&& (3 : Int32))), .val (.ref b41), .val (.long ((q2 &&& q3) &&& q4)), .second, .unset] [(.long ((((q2 &&& q3) &&& q4).toUInt64 >>> ((32 : Int32) &&& 0x3f).toInt64.toUInt64).toInt64))])) rfl (hb hby at_118) _ ?_
          show Steps p.tables e below (T47.setTop (mkF m 121 #[.val (.int p1), .val (.long q2), .second, .val (.long q3), .second, .val (.long q4), .second, .val (.int (p1 &&& (3 : Int32))), .val (.ref b41), .val (.long ((q2 &&& q3) &&& q4)), .second, .unset] [(.long (4095 : Int64)), (.long ((((q2 &&& q3) &&& q4).toUInt64 >>> ((32 : Int32) &&& 0x3f).toInt64.toUInt64).toInt64))])) _
          refine XS.land X47.here hx rfl (hb hby at_121) rfl ?_
          show Steps p.tables e below (T47.setTop (mkF m 122 #[.val (.int p1), .val (.long q2), .second, .val (.long q3), .second, .val (.long q4), .second, .val (.int (p1 &&& (3 : Int32))), .val (.ref b41), .val (.long ((q2 &&& q3) &&& q4)), .second, .unset] [(.long (((((q2 &&& q3) &&& q4).toUInt64 >>> ((32 : Int32) &&& 0x3f).toInt64.toUInt64).toInt64) &&& (4095 : Int64)))])) _
          refine XS.l2i X47.here hx rfl (hb hby at_122) rfl ?_
          show Steps p.tables e below (T47.setTop (mkF m 123 #[.val (.int p1), .val (.long q2), .second, .val (.long q3), .second, .val (.long q4), .second, .val (.int (p1 &&& (3 : Int32))), .val (.ref b41), .val (.long ((q2 &&& q3) &&& q4)), .second, .unset] [(.int ((((((q2 &&& q3) &&& q4).toUInt64 >>> ((32 : Int32) &&& 0x3f).toInt64.toUInt64).toInt64) &&& (4095 : Int64)).toInt32))])) _
          refine XS.istore X47.here hx rfl (hb hby at_123) rfl (l' := #[.val (.int p1), .val (.long q2), .second, .val (.long q3), .second, .val (.long q4), .second, .val (.int (p1 &&& (3 : Int32))), .val (.ref b41), .val (.long ((q2 &&& q3) &&& q4)), .second, .val (.int ((((((q2 &&& q3) &&& q4).toUInt64 >>> ((32 : Int32) &&& 0x3f).toInt64.toUInt64).toInt64) &&& (4095 : Int64)).toInt32))]) rfl ?_
          show Steps p.tables e below (T47.setTop (mkF m 125 #[.val (.int p1), .val (.long q2), .second, .val (.long q3), .second, .val (.long q4), .second, .val (.int (p1 &&& (3 : Int32))), .val (.ref b41), .val (.long ((q2 &&& q3) &&& q4)), .second, .val (.int ((((((q2 &&& q3) &&& q4).toUInt64 >>> ((32 : Int32) &&& 0x3f).toInt64.toUInt64).toInt64) &&& (4095 : Int64)).toInt32))] [])) _
          refine XS.aload X47.here hx rfl (hb hby at_125) rfl rfl ?_
          show Steps p.tables e below (T47.setTop (mkF m 127 #[.val (.int p1), .val (.long q2), .second, .val (.long q3), .second, .val (.long q4), .second, .val (.int (p1 &&& (3 : Int32))), .val (.ref b41), .val (.long ((q2 &&& q3) &&& q4)), .second, .val (.int ((((((q2 &&& q3) &&& q4).toUInt64 >>> ((32 : Int32) &&& 0x3f).toInt64.toUInt64).toInt64) &&& (4095 : Int64)).toInt32))] [(.ref b41)])) _
          exact k
        refine OwnG.st sg51 ?_
        obtain ⟨_, _, ⟨T52, L52, k52, n52⟩, -, X52, ⟨Lc52, hQ52, l52, y52, z52⟩, st52⟩ := Jvm.LawKit.callS X47 hx (y := (⟨"com/example/weiche/weiche/explicit/Concurrency", "together", "([J)I"⟩ : MethodName)) hown (mvT hZ (hw _ (List.mem_of_getElem? (i := 1) rfl))) (mvT hZ (hw _ (List.mem_of_getElem? (i := 2) rfl))) (mvT hZ (hw _ (List.mem_of_getElem? (i := 3) rfl))) (mvT hZ (hw _ (List.mem_of_getElem? (i := 4) rfl))) (by decide) (backOf (W := 0) (rm1 l Z a0 hw [] b41 3 (upd (upd (upd (fun _ => 0) 0 q2) 1 q3) 2 q4) h47 n0 Z47 V47' (by decide)) hZ (hw _ (List.mem_of_getElem? (i := 4) rfl)) (hw _ (List.mem_of_getElem? (i := 3) rfl)) (by decide) (by decide)) (g := (mkF m 127 #[.val (.int p1), .val (.long q2), .second, .val (.long q3), .second, .val (.long q4), .second, .val (.int (p1 &&& (3 : Int32))), .val (.ref b41), .val (.long ((q2 &&& q3) &&& q4)), .second, .val (.int ((((((q2 &&& q3) &&& q4).toUInt64 >>> ((32 : Int32) &&& 0x3f).toInt64.toUInt64).toInt64) &&& (4095 : Int64)).toInt32))] [(.ref b41)])) rfl (by rw [hml]; rfl) (argsL := [(.ref b41)]) (rest := []) (lenOf pd_0_0 rfl) rfl (by show 2 * 0 + _ ≤ _; exact Nat.le_of_eq rfl) (hb hby at_127) (fun _ _ => ⟨rfl, e47, (by decide : 1 + 0 ≤ _), (by decide : 3 + 0 ≤ _)⟩)
        dsimp only [Pt.U, Pt.locs, Pt.cells, Pt.slots] at X52 l52 y52 z52 st52 hQ52
        subst l52 y52 z52
        obtain ⟨rfl, N52q, e52⟩ := hQ52
        have N52 := Fr.app N47 N52q
        refine OwnG.st (fun t k => st52 t k) ?_
        show OwnG p e below s _ _ _ T52 (mkF m 130 #[.val (.int p1), .val (.long q2), .second, .val (.long q3), .second, .val (.long q4), .second, .val (.int (p1 &&& (3 : Int32))), .val (.ref b41), .val (.long ((q2 &&& q3) &&& q4)), .second, .val (.int ((((((q2 &&& q3) &&& q4).toUInt64 >>> ((32 : Int32) &&& 0x3f).toInt64.toUInt64).toInt64) &&& (4095 : Int64)).toInt32))] [(.int (F1 3 (upd (upd (upd (fun _ => 0) 0 q2) 1 q3) 2 q4)))])
        have hc132_53 : (F1 3 (upd (upd (upd (fun _ => 0) 0 q2) 1 q3) 2 q4)) = ((((((q2 &&& q3) &&& q4).toUInt64 >>> ((32 : Int32) &&& 0x3f).toInt64.toUInt64).toInt64) &&& (4095 : Int64)).toInt32) := own_g3 _ _ _ _ rfl rfl rfl
        have sg54 : ∀ t, Steps p.tables e below (T52.setTop (mkF m 140 #[.val (.int p1), .val (.long q2), .second, .val (.long q3), .second, .val (.long q4), .second, .val (.int (p1 &&& (3 : Int32))), .val (.ref b41), .val (.long ((q2 &&& q3) &&& q4)), .second, .val (.int ((((((q2 &&& q3) &&& q4).toUInt64 >>> ((32 : Int32) &&& 0x3f).toInt64.toUInt64).toInt64) &&& (4095 : Int64)).toInt32))] [(.int (1 : Int32))])) t → Steps p.tables e below (T52.setTop (mkF m 130 #[.val (.int p1), .val (.long q2), .second, .val (.long q3), .second, .val (.long q4), .second, .val (.int (p1 &&& (3 : Int32))), .val (.ref b41), .val (.long ((q2 &&& q3) &&& q4)), .second, .val (.int ((((((q2 &&& q3) &&& q4).toUInt64 >>> ((32 : Int32) &&& 0x3f).toInt64.toUInt64).toInt64) &&& (4095 : Int64)).toInt32))] [(.int (F1 3 (upd (upd (upd (fun _ => 0) 0 q2) 1 q3) 2 q4)))])) t := by
          intro t k
          refine XS.iload X52.here hx rfl (hb hby at_130) rfl ?_
          show Steps p.tables e below (T52.setTop (mkF m 132 #[.val (.int p1), .val (.long q2), .second, .val (.long q3), .second, .val (.long q4), .second, .val (.int (p1 &&& (3 : Int32))), .val (.ref b41), .val (.long ((q2 &&& q3) &&& q4)), .second, .val (.int ((((((q2 &&& q3) &&& q4).toUInt64 >>> ((32 : Int32) &&& 0x3f).toInt64.toUInt64).toInt64) &&& (4095 : Int64)).toInt32))] [(.int ((((((q2 &&& q3) &&& q4).toUInt64 >>> ((32 : Int32) &&& 0x3f).toInt64.toUInt64).toInt64) &&& (4095 : Int64)).toInt32)), (.int (F1 3 (upd (upd (upd (fun _ => 0) 0 q2) 1 q3) 2 q4)))])) _
          refine XS.icmpNo X52.here hx rfl (hb hby at_132) rfl (teq hc132_53).2 ?_
          show Steps p.tables e below (T52.setTop (mkF m 135 #[.val (.int p1), .val (.long q2), .second, .val (.long q3), .second, .val (.long q4), .second, .val (.int (p1 &&& (3 : Int32))), .val (.ref b41), .val (.long ((q2 &&& q3) &&& q4)), .second, .val (.int ((((((q2 &&& q3) &&& q4).toUInt64 >>> ((32 : Int32) &&& 0x3f).toInt64.toUInt64).toInt64) &&& (4095 : Int64)).toInt32))] [])) _
          refine XS.iconst X52.here hx rfl (hb hby at_135) ?_
          show Steps p.tables e below (T52.setTop (mkF m 136 #[.val (.int p1), .val (.long q2), .second, .val (.long q3), .second, .val (.long q4), .second, .val (.int (p1 &&& (3 : Int32))), .val (.ref b41), .val (.long ((q2 &&& q3) &&& q4)), .second, .val (.int ((((((q2 &&& q3) &&& q4).toUInt64 >>> ((32 : Int32) &&& 0x3f).toInt64.toUInt64).toInt64) &&& (4095 : Int64)).toInt32))] [(.int (1 : Int32))])) _
          refine XS.goto X52.here hx rfl (pc0 := 136) (pc' := 140) rfl (hb hby at_136) (by decide) (by decide) ?_
          show Steps p.tables e below (T52.setTop (mkF m 140 #[.val (.int p1), .val (.long q2), .second, .val (.long q3), .second, .val (.long q4), .second, .val (.int (p1 &&& (3 : Int32))), .val (.ref b41), .val (.long ((q2 &&& q3) &&& q4)), .second, .val (.int ((((((q2 &&& q3) &&& q4).toUInt64 >>> ((32 : Int32) &&& 0x3f).toInt64.toUInt64).toInt64) &&& (4095 : Int64)).toInt32))] [(.int (1 : Int32))])) _
          exact k
        refine OwnG.st sg54 ?_
        have hv : (1 : Int32) = 1 := rfl
        exact OwnG.retN X52 hx (t := .boolean) (by simp) Bd.returns (BodyLoose.notSynchronized Bd) (hb hby at_140) ⟨congrArg (fun w => some (Value.int (nar .boolean w))) hv, N52⟩ (by decide) (by decide)
set_option maxRecDepth 65536 in
set_option maxHeartbeats 40000000 in
theorem comes_1 {Post : Tables → Env → Array Value → State → Outcome → State → Prop} (hpost : ∀ tb e args s v u, (limb_1_1.after args s (.returned v) u = true ∧ limb_1_2.after args s (.returned v) u = true ∧ True) → FrameEnd s (.returned v) u (Jvm.fieldLocs frame_1_writes args s ++ Jvm.arrayLocs frame_1_arrays args s ++ Jvm.staticLocs frame_1_statics s) 16 128 → Post tb e args s (.returned v) u) :
    ArmFor flags0 classFile x code maxLocals ret World_1 tables_1 room_1 Calls_1 rest_1 Pre_1 Post := by
  intro l hfl _ _ p e ha hc hk s m args below hf hA hF happ hP
  obtain ⟨hcalls, hrest, hpre⟩ := hP
  obtain ⟨-, -, -, hnamed, -, -, -, hat⟩ := (Spec.applies_iff hf).mp happ
  obtain ⟨hg, hn⟩ := and_e (Cond.before_iff.mp (show (Jvm.Cond.and given_1 narrow_1).before args s = true from hpre))
  obtain ⟨g1, g2⟩ := and_e hg
  obtain ⟨g3, g4⟩ := and_e g2
  obtain ⟨g5, g6⟩ := and_e g4
  obtain ⟨g7, g8⟩ := and_e g6
  obtain ⟨w0, w1, w2, w3, rfl⟩ : ∃ w0 w1 w2 w3 : Value, args = #[w0, w1, w2, w3] := by
    have hs : args.size = 4 := by simpa [Cond.value, given_1] using g1
    obtain ⟨L⟩ := args
    match L, hs with
    | [w0, w1, w2, w3], _ => exact ⟨w0, w1, w2, w3, rfl⟩
  have hw := fun d (hd : d ∈ tables_1) => atoms_spec (ws := Jvm.Cond.code x code maxLocals ret :: tables_1) hat d (List.mem_cons_of_mem _ hd)
  obtain ⟨i0, ei0⟩ := is_v g3
  obtain rfl : w0 = (.int i0) := Option.some.inj ei0
  obtain ⟨i1, ei1⟩ := isL_v g5
  obtain rfl : w1 = (.long i1) := Option.some.inj ei1
  obtain ⟨i2, ei2⟩ := isL_v g7
  obtain rfl : w2 = (.long i2) := Option.some.inj ei2
  obtain ⟨i3, ei3⟩ := isL_v g8
  obtain rfl : w3 = (.long i3) := Option.some.inj ei3
  obtain ⟨n, o, h1, h2, h3, _, L, rfl, ⟨rfl, N⟩, hq⟩ := rm0 l s _ hw tables_1 i0 i1 i2 i3  s.heap s.heap.size (Nat.le_refl _)  p e ha hc hk s m _ below hf ((Spec.applies_iff_loose hf).mp happ).1 ⟨rfl, State.Warmed39.refl s, rfl⟩ trivial
  refine ⟨n, _, h1, h2, h3, hpost _ _ _ _ _ _ ⟨Cond.after_iff.mpr rfl, Cond.after_iff.mpr (eq_i res_at (Term.int_eval (1)) rfl), trivial⟩ ⟨hq.1, hq.2.1, (hq.2.2.sift fun y hy => Or.inr (N y hy)).mono (by decide) (by decide)⟩⟩
theorem main_1_1 : Claimed_1_1 := comes_1 fun _ _ _ _ _ _ h hF => ⟨h.1, hF⟩
theorem main_1_2 : Claimed_1_2 := comes_1 fun _ _ _ _ _ _ h hF => ⟨h.2.1, hF⟩
end Jvm.Pilot.@@N@@
namespace Jvm.Pilot.@@N@@
open Jvm Jvm.ClassFile Sem Op Lib Jvm.Free Jvm.Stand Jvm.Pilot.@@N@@.Jvm.D
/-! MADE BY PROGRAM (witnessworld.py) out of the Statement's table words and the real class files: 12 classes; the members and pool entries that the words name. The judged class is class 1, her method 1. -/
namespace start1
open Jvm.ClassFile
def u (s : String) : CpInfo := .utf8 (stringToUtf16 s)
/-- a pool by its gaps: so many unusable entries, then the entry; so many at the end -/
def gap : Nat → List CpInfo → List CpInfo
  | 0, r => r
  | n + 1, r => .unusable :: gap n r
def poolList (es : List (Nat × CpInfo)) (last : Nat) : List CpInfo := es.foldr (fun e r => gap e.1 (e.2 :: r)) (gap last [])
def pool (es : List (Nat × CpInfo)) (last : Nat) : Array CpInfo := ⟨poolList es last⟩
def fileOf (pool : Array CpInfo) (this : Nat) (attrs : Array Attribute := #[]) (ms : Array MethodInfo := #[]) (fl : Nat := 33) (sup : Nat := 0) (ifs : Array Nat := #[]) (fds : Array FieldInfo := #[]) : ClassFile where
  minorVersion := 0
  majorVersion := 65
  constantPool := pool
  accessFlags := fl
  thisClass := this
  superClass := sup
  interfaces := ifs
  fields := fds
  methods := ms
  attributes := attrs
def plain (name : String) (sup : Option ClassId) : Class where
  name := name
  kind := .ordinary
  loader := none
  accessFlags := 33
  super := sup
  interfaces := #[]
  cf := none
  fields := #[]
  methods := #[]
  instanceTypes := #[]
  staticTypes := #[]
  resolved := #[]
  callSites := []
  init := .initialized
  statics := none
  mirror := none

def pool0 : Array CpInfo := pool [(5, u "<init>"), (0, u "()V"), (1, .class_ 10), (1, u "java/lang/Object")] 113

def k0m0 : Method := { name := "<init>", desc := "()V", sig := { parameters := [], returnType := none }, accessFlags := 1, code := none }
/-- java/lang/Object -/
def k0 : Class := { plain "java/lang/Object" none with
  accessFlags := 33
  interfaces := #[]
  cf := some (fileOf pool0 8 #[] #[{ accessFlags := 1, nameIndex := 5, descriptorIndex := 6, attributes := #[] }] 33 0 #[] #[])
  fields := #[]
  methods := #[k0m0]
  instanceTypes := #[]
  staticTypes := #[]
  resolved := Array.replicate 124 none
  statics := none }

def pool1 : Array CpInfo := pool [(2, .class_ 4), (1, u "java/lang/Object"), (0, u "<init>"), (0, u "()V"), (0, .long 4095), (1, .methodref 10 11), (0, .class_ 12), (0, .nameAndType 13 14), (0, u "com/example/weiche/weiche/explicit/Concurrency"), (0, u "together"), (0, u "([J)I"), (0, .class_ 16), (0, u "com/example/weiche/weiche/explicit/ConcurrencyTogetherPinLaw"), (2, u "law"), (0, u "(IJJJ)Z")] 5

def k1m0 : Method := { name := "<init>", desc := "()V", sig := { parameters := [], returnType := none }, accessFlags := 2, code := none }
def k1c1 : Code := { maxStack := 5, maxLocals := 12, code := code, exceptionTable := #[], attributes := #[] }
def k1m1 : Method := { name := "law", desc := "(IJJJ)Z", sig := { parameters := [.int, .long, .long, .long], returnType := some .boolean }, accessFlags := 9, code := some k1c1 }
/-- com/example/weiche/weiche/explicit/ConcurrencyTogetherPinLaw -/
def k1 : Class := { plain "com/example/weiche/weiche/explicit/ConcurrencyTogetherPinLaw" (some 0) with
  accessFlags := 49
  interfaces := #[]
  cf := some (fileOf pool1 15 #[] #[{ accessFlags := 2, nameIndex := 5, descriptorIndex := 6, attributes := #[] }, { accessFlags := 9, nameIndex := 19, descriptorIndex := 20, attributes := #[] }] 49 2 #[] #[])
  fields := #[]
  methods := #[k1m0, k1m1]
  instanceTypes := #[]
  staticTypes := #[]
  resolved := Array.replicate 26 none
  statics := none }

def pool2 : Array CpInfo := pool [(2, .class_ 4), (1, u "java/lang/Object"), (3, .class_ 10), (1, u "com/example/weiche/weiche/explicit/Concurrency"), (0, u "net"), (0, u "Lcom/example/weiche/weiche/graphgame/IndexedGame;"), (8, u "active"), (0, u "Z"), (6, u "joinable"), (0, u "[I"), (37, u "joined"), (22, .methodref 92 93), (0, .class_ 94), (0, .nameAndType 95 96), (0, u "com/example/weiche/weiche/graphgame/Token"), (0, u "firings"), (0, u "(J)I"), (3, u "([J)I"), (73, .class_ 175), (0, u "com/example/weiche/weiche/explicit/Concurrency$Pick"), (22, u "NONE"), (0, u "[J"), (6, u "together")] 33

def k2c0 : Code := { maxStack := 3, maxLocals := 7, code := prog_50_method_4_code, exceptionTable := #[], attributes := #[] }
def k2m0 : Method := { name := "together", desc := "([J)I", sig := { parameters := [(.array .long)], returnType := some .int }, accessFlags := 8, code := some k2c0 }
/-- com/example/weiche/weiche/explicit/Concurrency -/
def k2 : Class := { plain "com/example/weiche/weiche/explicit/Concurrency" (some 0) with
  accessFlags := 32
  interfaces := #[]
  cf := some (fileOf pool2 8 #[.nestMembers #[174]] #[{ accessFlags := 8, nameIndex := 206, descriptorIndex := 100, attributes := #[] }] 32 2 #[] #[{ accessFlags := 24, nameIndex := 198, descriptorIndex := 199, attributes := #[] }, { accessFlags := 18, nameIndex := 11, descriptorIndex := 12, attributes := #[] }, { accessFlags := 18, nameIndex := 21, descriptorIndex := 22, attributes := #[] }, { accessFlags := 18, nameIndex := 29, descriptorIndex := 30, attributes := #[] }, { accessFlags := 18, nameIndex := 68, descriptorIndex := 30, attributes := #[] }])
  fields := #[{ name := "NONE", type := (.array .long), accessFlags := 24, slot := 0, constantValue := 0 }, { name := "net", type := (.object "com/example/weiche/weiche/graphgame/IndexedGame"), accessFlags := 18, slot := 0, constantValue := 0 }, { name := "active", type := .boolean, accessFlags := 18, slot := 1, constantValue := 0 }, { name := "joinable", type := (.array .int), accessFlags := 18, slot := 2, constantValue := 0 }, { name := "joined", type := (.array .int), accessFlags := 18, slot := 3, constantValue := 0 }]
  methods := #[k2m0]
  instanceTypes := #[(.object "com/example/weiche/weiche/graphgame/IndexedGame"), .boolean, (.array .int), (.array .int)]
  staticTypes := #[(.array .long)]
  resolved := Array.replicate 240 none
  statics := none }

def pool3 : Array CpInfo := pool [(1, .class_ 2), (0, u "com/example/weiche/weiche/graphgame/Token"), (1, .class_ 6), (1, u "java/lang/Object"), (0, u "<init>"), (0, u "()V"), (4, .long 4095), (4, u "(J)I"), (0, u "UNDECIDED"), (0, u "I"), (2, u "ON_ITS_OWN"), (1, u "MAX_PLACES"), (1, u "MAX_FIRINGS"), (1, u "PLACE_BITS"), (1, u "FIRING_BITS"), (1, u "FIRINGS"), (0, u "J"), (7, u "firings")] 6

def k3m0 : Method := { name := "<init>", desc := "()V", sig := { parameters := [], returnType := none }, accessFlags := 2, code := none }
def k3c1 : Code := { maxStack := 4, maxLocals := 2, code := prog_71_method_6_code, exceptionTable := #[], attributes := #[] }
def k3m1 : Method := { name := "firings", desc := "(J)I", sig := { parameters := [.long], returnType := some .int }, accessFlags := 9, code := some k3c1 }
/-- com/example/weiche/weiche/graphgame/Token -/
def k3 : Class := { plain "com/example/weiche/weiche/graphgame/Token" (some 0) with
  accessFlags := 33
  interfaces := #[]
  cf := some (fileOf pool3 1 #[] #[{ accessFlags := 2, nameIndex := 7, descriptorIndex := 8, attributes := #[] }, { accessFlags := 9, nameIndex := 42, descriptorIndex := 18, attributes := #[] }] 33 4 #[] #[{ accessFlags := 25, nameIndex := 19, descriptorIndex := 20, attributes := #[] }, { accessFlags := 25, nameIndex := 23, descriptorIndex := 20, attributes := #[] }, { accessFlags := 25, nameIndex := 25, descriptorIndex := 20, attributes := #[] }, { accessFlags := 25, nameIndex := 27, descriptorIndex := 20, attributes := #[] }, { accessFlags := 26, nameIndex := 29, descriptorIndex := 20, attributes := #[] }, { accessFlags := 26, nameIndex := 31, descriptorIndex := 20, attributes := #[] }, { accessFlags := 26, nameIndex := 33, descriptorIndex := 34, attributes := #[] }])
  fields := #[{ name := "UNDECIDED", type := .int, accessFlags := 25, slot := 0, constantValue := 0 }, { name := "ON_ITS_OWN", type := .int, accessFlags := 25, slot := 1, constantValue := 0 }, { name := "MAX_PLACES", type := .int, accessFlags := 25, slot := 2, constantValue := 0 }, { name := "MAX_FIRINGS", type := .int, accessFlags := 25, slot := 3, constantValue := 0 }, { name := "PLACE_BITS", type := .int, accessFlags := 26, slot := 4, constantValue := 0 }, { name := "FIRING_BITS", type := .int, accessFlags := 26, slot := 5, constantValue := 0 }, { name := "FIRINGS", type := .long, accessFlags := 26, slot := 6, constantValue := 0 }]
  methods := #[k3m0, k3m1]
  instanceTypes := #[]
  staticTypes := #[.int, .int, .int, .int, .int, .int, .long]
  resolved := Array.replicate 49 none
  statics := none }

def pool4 : Array CpInfo := pool [(1, u "java/lang/Cloneable"), (0, .class_ 1), (0, u "java/lang/Object"), (0, .class_ 3)] 3

/-- java/lang/Cloneable -/
def k4 : Class := { plain "java/lang/Cloneable" (some 0) with
  accessFlags := 1537
  interfaces := #[]
  cf := some (fileOf pool4 2 #[] #[] 1537 4 #[] #[])
  fields := #[]
  methods := #[]
  instanceTypes := #[]
  staticTypes := #[]
  resolved := Array.replicate 8 none
  statics := none }

def pool5 : Array CpInfo := pool [(1, u "java/io/Serializable"), (0, .class_ 1), (0, u "java/lang/Object"), (0, .class_ 3)] 3

/-- java/io/Serializable -/
def k5 : Class := { plain "java/io/Serializable" (some 0) with
  accessFlags := 1537
  interfaces := #[]
  cf := some (fileOf pool5 2 #[] #[] 1537 4 #[] #[])
  fields := #[]
  methods := #[]
  instanceTypes := #[]
  staticTypes := #[]
  resolved := Array.replicate 8 none
  statics := none }

/-- the primitive byte -/
def k6 : Class := { plain "byte" none with kind := .primitive 'B', accessFlags := 0x411 }
/-- [B -/
def k7 : Class := { plain "[B" (some 0) with kind := .array 6 .byte, interfaces := #[4, 5], accessFlags := 1041 }

/-- the primitive int -/
def k8 : Class := { plain "int" none with kind := .primitive 'I', accessFlags := 0x411 }
/-- [I -/
def k9 : Class := { plain "[I" (some 0) with kind := .array 8 .int, interfaces := #[4, 5], accessFlags := 1041 }

/-- the primitive long -/
def k10 : Class := { plain "long" none with kind := .primitive 'J', accessFlags := 0x411 }
/-- [J -/
def k11 : Class := { plain "[J" (some 0) with kind := .array 10 .long, interfaces := #[4, 5], accessFlags := 1041 }

def heap : Heap := #[]
def classes : Array Class := #[k0, k1, k2, k3, k4, k5, k6, k7, k8, k9, k10, k11]
def interned : List (Array UInt16 × Addr) := []
def slotsUsed : Nat := 0
def theMethod : MethodId := ⟨1, 1⟩
def args0 : Array Value := #[.int 5, .long 5, .long 5, .long 5]
def aboutOver (below : List Frame) : State where
  vm := { classes := classes, interned := interned.toArray }
  heap := heap
  slotsUsed := slotsUsed
  threads := #[{ frames := .invoking theMethod args0 :: below }]
def below0 : List Frame := [.native { method := ⟨0, 0⟩, args := #[] }]
def about1 : State := aboutOver below0
def p0 : Program := .bare "" "" ""
def e0 : Env := launch0.env 0 0 0
theorem w_frames : about1.frames = Frame.invoking theMethod args0 :: below0 := rfl
set_option maxRecDepth 65536 in
theorem w_args : argsFit about1.vm theMethod args0 = true := by decide +kernel
set_option maxRecDepth 65536 in
theorem w_heap : heapFits about1 = true := by decide +kernel
set_option maxRecDepth 65536 in
theorem w_runnable : about1.curStatus? = some .runnable := by decide +kernel
set_option maxRecDepth 65536 in
theorem w_alone : about1.alone = true := by decide +kernel
set_option maxRecDepth 65536 in
theorem w_named : about1.methodNamed? x = some theMethod := by decide +kernel
set_option maxRecDepth 65536 in
theorem w_hears : about1.hears theMethod below0 = true := by decide +kernel
set_option maxRecDepth 65536 in
theorem w_ripe : about1.ripe theMethod args0 below0 = true := by decide +kernel
theorem w_running : about1.status = .running := rfl
set_option maxRecDepth 65536 in
theorem w_room : about1.hasRoom e0.platform room_1 = true :=
  launch0.hasRoom_least _ room_1 (by decide +kernel) (by decide +kernel) (by decide +kernel) (by decide +kernel) (by decide +kernel) (by decide +kernel)
theorem allAtoms_all (ts : List Jvm.Cond) (a : Array Jvm.Value) (st : Jvm.State) : (allAtoms ts).before a st = ts.all (fun c => c.before a st) := by
  induction ts with
  | nil => rfl
  | cons c t ih =>
    show (Jvm.Cond.and c (allAtoms t)).before a st = _
    rw [Jvm.Cond.before_and, ih, List.all_cons]
def words1 : List Jvm.Cond := Jvm.Cond.code x code maxLocals ret :: tables_1
/-- a 'code' word, met by the world's own term for the bytes: nothing is compared byte by byte -/
theorem code_word {y : MethodName} {bytes : ByteArray} {mx : Nat} {rt : Option FieldType} {a : Array Value} {s : State} {m : MethodId} {meth : Method} {c : Code} (h1 : s.methodNamed? y = some m) (h2 : s.vm.method? m = some meth) (h3 : meth.code = some c) (h4 : c.code = bytes)
    (h5 : (c.maxLocals == mx && c.exceptionTable.isEmpty && decide (c.maxStack ≤ mostOperands) && decide (meth.sig.returnType = rt) && !meth.locks && decide (parseMethodDescriptor y.desc = some meth.sig)) = true) : (Jvm.Cond.code y bytes mx rt).before a s = true := by
  simp only [Bool.and_eq_true, beq_iff_eq, Bool.not_eq_true', decide_eq_true_eq] at h5
  obtain ⟨⟨⟨⟨⟨g1, g2⟩, g3⟩, g4⟩, g5⟩, g6⟩ := h5
  simp [Cond.before, Cond.holds, Cond.value, h1, h2, h3, h4, g1, g2, g3, g4, g5, g6]
def isCode : Jvm.Cond → Bool
  | .code _ _ _ _ => true
  | _ => false
theorem all_split {L : List Jvm.Cond} {P : Jvm.Cond → Bool} (h1 : L.all (fun c => isCode c || P c) = true) (h2 : ∀ c ∈ L.filter isCode, P c = true) : L.all P = true := by
  refine List.all_eq_true.mpr fun c hc => ?_
  have h := List.all_eq_true.mp h1 c hc
  rcases Bool.eq_false_or_eq_true (isCode c) with hi | hi
  · exact h2 c (List.mem_filter.mpr ⟨hc, hi⟩)
  · simpa [hi] using h
set_option maxRecDepth 65536 in
theorem w_c0 : (Jvm.Cond.code x code maxLocals ret).before args0 about1 = true := code_word (m := ⟨1, 1⟩) (meth := k1m1) (c := k1c1) (by decide +kernel) rfl rfl rfl (by decide +kernel)
set_option maxRecDepth 65536 in
theorem w_c1 : (Jvm.Cond.code ({ cls := "com/example/weiche/weiche/explicit/Concurrency", name := "together", desc := "([J)I" } : Jvm.MethodName) prog_50_method_4_code (7 : Nat) (Option.some Jvm.ClassFile.FieldType.int)).before args0 about1 = true := code_word (m := ⟨2, 0⟩) (meth := k2m0) (c := k2c0) (by decide +kernel) rfl rfl rfl (by decide +kernel)
set_option maxRecDepth 65536 in
theorem w_c2 : (Jvm.Cond.code ({ cls := "com/example/weiche/weiche/graphgame/Token", name := "firings", desc := "(J)I" } : Jvm.MethodName) prog_71_method_6_code (2 : Nat) (Option.some Jvm.ClassFile.FieldType.int)).before args0 about1 = true := code_word (m := ⟨3, 1⟩) (meth := k3m1) (c := k3c1) (by decide +kernel) rfl rfl rfl (by decide +kernel)
def codes1 : List Jvm.Cond := [Jvm.Cond.code x code maxLocals ret, Jvm.Cond.code ({ cls := "com/example/weiche/weiche/explicit/Concurrency", name := "together", desc := "([J)I" } : Jvm.MethodName) prog_50_method_4_code (7 : Nat) (Option.some Jvm.ClassFile.FieldType.int), Jvm.Cond.code ({ cls := "com/example/weiche/weiche/graphgame/Token", name := "firings", desc := "(J)I" } : Jvm.MethodName) prog_71_method_6_code (2 : Nat) (Option.some Jvm.ClassFile.FieldType.int)]
set_option maxRecDepth 65536 in
theorem codes_eq : words1.filter isCode = codes1 := rfl
theorem w_codes : ∀ c ∈ words1.filter isCode, c.before args0 about1 = true := by
  rw [codes_eq]
  intro c hc
  simp only [codes1, List.mem_cons, List.not_mem_nil, or_false] at hc
  rcases hc with rfl | rfl | rfl
  · exact w_c0
  · exact w_c1
  · exact w_c2
set_option maxRecDepth 65536 in
theorem w_t1 : words1.all (fun c => isCode c || c.before args0 about1) = true := by decide +kernel
theorem w_tables : (allAtoms (Jvm.Cond.code x code maxLocals ret :: tables_1)).before args0 about1 = true := by
  rw [allAtoms_all]
  show words1.all (fun c => c.before args0 about1) = true
  refine all_split ?_ w_codes
  rw [w_t1]
set_option maxRecDepth 65536 in
theorem w_case : (Jvm.Cond.and given_1 narrow_1).before args0 about1 = true := by decide +kernel
theorem w_applies : (headSpec (Jvm.Cond.code x code maxLocals ret :: tables_1) room_1).applies x e0.platform about1 = true :=
  (Spec.applies_iff w_frames).mpr ⟨w_running, w_runnable, w_alone, w_named, w_hears, w_ripe, w_room, w_tables⟩
theorem atStart : AtStart classFile x code maxLocals ret World_1 tables_1 room_1 Calls_1 rest_1 Pre_1 launch0 p0 e0 about1 theMethod args0 below0 :=
  ⟨lists_1, trivial, launch0.admits_env _ _ _, launch0.least_env, fairChoices_fair.cas, fairChoices_fair.clock, w_frames, w_args, w_heap, w_applies, trivial, trivial, w_case⟩
end start1
theorem witness_1 : WitnessClaimed_1 := ⟨start1.p0, start1.e0, start1.about1, start1.theMethod, start1.args0, start1.below0, start1.atStart⟩
end Jvm.Pilot.@@N@@
